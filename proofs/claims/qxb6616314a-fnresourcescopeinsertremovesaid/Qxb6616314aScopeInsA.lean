import Derived.Test.Qxb6616314aCutMax
import Derived.Test.Qxb6616314aInsRem
namespace Go.Proofs.Qxb6616314a
open Go.RowKit

theorem hash_ne (act : ByteArray) : (act ++ (⟨#[35]⟩ : ByteArray) == act) = false := by
  cases h : (act ++ (⟨#[35]⟩ : ByteArray) == act) with
  | false => rfl
  | true =>
    have e := (MapKept.bytes_beq _ _).1 h
    have e2 := congrArg ByteArray.size e
    rw [ByteArray.size_append] at e2
    have e3 : (⟨#[35]⟩ : ByteArray).size = 1 := rfl
    omega

set_option maxRecDepth 100000 in
set_option maxHeartbeats 2000000 in
theorem scopeIns_a (pub : Bool) (act role : ByteArray) {a2 a3 : Option Addr} {l2 c2 l3 c3 : Nat} {s2 s3 : List ByteArray} (k j : Nat) (hk : k ≤ l2) (hj : j ≤ l3) (hkn : (without s2 role).length < k) (hjn : (without s3 role).length < j)
    {w : World} (h2 : IsStrs w a2 l2 c2 s2) (h3 : IsStrs w a3 l3 c3 s3) :
    Calls Try.prog 3 #[.bool pub, .string act, .slice a2 l2 c2, .slice a3 l3 c3, .string role, .int .i64 k, .int .i64 j] w fun e w' => e = .returned (.bool true) ∧ Below w.heap.size w w' := by
  have H2 : Hid (IsStrs w a2 l2 c2 s2) := h2
  have H3 : Hid (IsStrs w a3 l3 c3 s3) := h3
  have HKN : Hid ((without s2 role).length < k) := hkn
  have HJN : Hid ((without s3 role).length < j) := hjn
  clear h2 h3 hkn hjn
  go_enter Try.func3, Try.ntmps3
  go_wp2_with fail
  refine (bytesRem_any pub act role k j H2.out H3.out).mono ?_
  rintro e w' ⟨⟨x, rfl, hx⟩, hw⟩
  obtain rfl : w = w' := hw.symm
  cases x
  · go_wp2
    go_ret
    exact ⟨rfl, Below.refl _ _⟩
  have hl2 : l2 ≤ 1048576 := (hx rfl).1
  have hl3 : l3 ≤ 1048576 := (hx rfl).2
  clear hx
  by_cases hact : (1048576 : Int) < (act.size : Int)
  · go_wp2_with fail
    go_ret
    exact ⟨rfl, Below.refl _ _⟩
  by_cases hrole : (1048576 : Int) < (role.size : Int)
  · go_wp2_with fail
    go_ret
    exact ⟨rfl, Below.refl _ _⟩
  go_wp2_with fail
  refine (addList_any _ H2.out).mono ?_
  rintro e w' ⟨⟨n, rfl⟩, hw⟩
  obtain rfl : w = w' := hw.symm
  go_wp2_with fail
  · go_ret
    exact ⟨rfl, Below.refl _ _⟩
  refine (addList_any _ H3.out).mono ?_
  rintro e w' ⟨⟨n', rfl⟩, hw⟩
  obtain rfl : w = w' := hw.symm
  go_wp2_with fail
  · go_ret
    exact ⟨rfl, Below.refl _ _⟩
  refine (without_any role hl2 H2.out).mono ?_
  rintro e w1 ⟨⟨b2, n2, d2, rfl, hI2⟩, hb1⟩
  have B1 : Hid (Below w.heap.size w w1) := hb1
  have I21 : Hid (IsStrs w1 b2 n2 d2 (without s2 role)) := hI2
  have hn2 : n2 ≤ l2 := by rw [← hI2.1, ← H2.out.1]; exact without_le _ _
  have hk' : n2 < k := by have := HKN.out; rw [hI2.1] at this; exact this
  clear hb1 hI2
  go_wp2_with fail
  refine (without_any role hl3 (H3.out.below B1.out)).mono ?_
  rintro e w2 ⟨⟨b3, n3, d3, rfl, hI3⟩, hb2⟩
  have B2 : Hid (Below w.heap.size w w2) := B1.out.trans (hb2.mono B1.out.size)
  have I22 : Hid (IsStrs w2 b2 n2 d2 (without s2 role)) := I21.out.below hb2
  have I32 : Hid (IsStrs w2 b3 n3 d3 (without s3 role)) := hI3
  have hn3 : n3 ≤ l3 := by rw [← hI3.1, ← H3.out.1]; exact without_le _ _
  have hj' : n3 < j := by have := HJN.out; rw [hI3.1] at this; exact this
  clear hb2 hI3
  cases pub
  · go_wp2_with fail
    refine (scopeOf_is 0 true (bytes_self _) (by rw [hasS_without, hasS_without]; rfl) I22.out I32.out).mono ?_
    rintro e w3 ⟨rfl, hb3⟩
    have B3 : Hid (Below w.heap.size w w3) := B2.out.trans (hb3.mono B2.out.size)
    have I23 : Hid (IsStrs w3 b2 n2 d2 (without s2 role)) := I22.out.below hb3
    have I33 : Hid (IsStrs w3 b3 n3 d3 (without s3 role)) := I32.out.below hb3
    clear hb3
    go_wp2_with fail
    refine (insert_any n3 role (by omega) (by omega) I33.out).mono ?_
    rintro e w4 ⟨⟨b4, n4, d4, rfl, hI4⟩, hb4⟩
    have B4 : Hid (Below w.heap.size w w4) := B3.out.trans (hb4.mono B3.out.size)
    have I24 : Hid (IsStrs w4 b2 n2 d2 (without s2 role)) := I23.out.below hb4
    have I34 : Hid (IsStrs w4 b3 n3 d3 (without s3 role)) := I33.out.below hb4
    have I44 : Hid (IsStrs w4 b4 n4 d4 (inserted (without s3 role) n3 role)) := hI4
    clear hb4 hI4
    go_wp2_with fail
    refine (scopeOf_is 1 true (bytes_self _) (by rw [hasS_without, hasS_inserted]; rfl) I24.out I44.out).mono ?_
    rintro e w5 ⟨rfl, hb5⟩
    have B5 : Hid (Below w.heap.size w w5) := B4.out.trans (hb5.mono B4.out.size)
    have I25 : Hid (IsStrs w5 b2 n2 d2 (without s2 role)) := I24.out.below hb5
    have I35 : Hid (IsStrs w5 b3 n3 d3 (without s3 role)) := I34.out.below hb5
    clear hb5
    go_wp2_with fail
    refine (insert_any n2 role (by omega) (by omega) I25.out).mono ?_
    rintro e w6 ⟨⟨b6, n6, d6, rfl, hI6⟩, hb6⟩
    have B6 : Hid (Below w.heap.size w w6) := B5.out.trans (hb6.mono B5.out.size)
    have I26 : Hid (IsStrs w6 b2 n2 d2 (without s2 role)) := I25.out.below hb6
    have I36 : Hid (IsStrs w6 b3 n3 d3 (without s3 role)) := I35.out.below hb6
    have I66 : Hid (IsStrs w6 b6 n6 d6 (inserted (without s2 role) n2 role)) := hI6
    clear hb6 hI6
    go_wp2_with fail
    refine (scopeOf_is 2 true (bytes_self _) (by rw [hasS_inserted]; rfl) I66.out (H3.out.below B6.out)).mono ?_
    rintro e w7 ⟨rfl, hb7⟩
    have B7 : Hid (Below w.heap.size w w7) := B6.out.trans (hb7.mono B6.out.size)
    have I27 : Hid (IsStrs w7 b2 n2 d2 (without s2 role)) := I26.out.below hb7
    have I37 : Hid (IsStrs w7 b3 n3 d3 (without s3 role)) := I36.out.below hb7
    clear hb7
    go_wp2_with fail
    refine (insert_any n2 role (by omega) (by omega) I27.out).mono ?_
    rintro e w8 ⟨⟨b8, n8, d8, rfl, hI8⟩, hb8⟩
    have B8 : Hid (Below w.heap.size w w8) := B7.out.trans (hb8.mono B7.out.size)
    have I38 : Hid (IsStrs w8 b3 n3 d3 (without s3 role)) := I37.out.below hb8
    have I88 : Hid (IsStrs w8 b8 n8 d8 (inserted (without s2 role) n2 role)) := hI8
    clear hb8 hI8
    go_wp2_with fail
    refine (insert_any n3 role (by omega) (by omega) I38.out).mono ?_
    rintro e w9 ⟨⟨b9, n9, d9, rfl, hI9⟩, hb9⟩
    have B9 : Hid (Below w.heap.size w w9) := B8.out.trans (hb9.mono B8.out.size)
    have I89 : Hid (IsStrs w9 b8 n8 d8 (inserted (without s2 role) n2 role)) := I88.out.below hb9
    have I99 : Hid (IsStrs w9 b9 n9 d9 (inserted (without s3 role) n3 role)) := hI9
    clear hb9 hI9
    go_wp2_with fail
    refine (scopeOf_is 0 false (hash_ne _) rfl I89.out I99.out).mono ?_
    rintro e w10 ⟨rfl, hb10⟩
    have B10 : Hid (Below w.heap.size w w10) := B9.out.trans (hb10.mono B9.out.size)
    clear hb10
    have hln := fun W => run_lookup_nil W act
    go_wp2_with (first | (go_at_call 23; refine (permScope_any role (IsStrs.nil none 0 (by omega)) (IsStrs.nil none 0 (by omega))).mono ?_; rintro e w11 ⟨rfl, hb11⟩; have B11 : Hid (Below w.heap.size w w11) := (B10.out.alloc B10.out.size _).trans (hb11.mono (by have := B10.out.size; simp; omega)); clear hb11; rw [hasS_nil]; have hsc : scp false false = 0 := rfl; rw [hsc]; clear hsc) | go_in)
    go_ret
    exact ⟨rfl, B11.out⟩
  · go_wp2_with fail
    refine (scopeOf_is 2 true (bytes_self _) (by rw [hasS_without, hasS_without]; rfl) I22.out I32.out).mono ?_
    rintro e w3 ⟨rfl, hb3⟩
    have B3 : Hid (Below w.heap.size w w3) := B2.out.trans (hb3.mono B2.out.size)
    have I23 : Hid (IsStrs w3 b2 n2 d2 (without s2 role)) := I22.out.below hb3
    have I33 : Hid (IsStrs w3 b3 n3 d3 (without s3 role)) := I32.out.below hb3
    clear hb3
    go_wp2_with fail
    refine (insert_any n3 role (by omega) (by omega) I33.out).mono ?_
    rintro e w4 ⟨⟨b4, n4, d4, rfl, hI4⟩, hb4⟩
    have B4 : Hid (Below w.heap.size w w4) := B3.out.trans (hb4.mono B3.out.size)
    have I24 : Hid (IsStrs w4 b2 n2 d2 (without s2 role)) := I23.out.below hb4
    have I34 : Hid (IsStrs w4 b3 n3 d3 (without s3 role)) := I33.out.below hb4
    have I44 : Hid (IsStrs w4 b4 n4 d4 (inserted (without s3 role) n3 role)) := hI4
    clear hb4 hI4
    go_wp2_with fail
    refine (scopeOf_is 2 true (bytes_self _) (by rw [hasS_without, hasS_inserted]; rfl) I24.out I44.out).mono ?_
    rintro e w5 ⟨rfl, hb5⟩
    have B5 : Hid (Below w.heap.size w w5) := B4.out.trans (hb5.mono B4.out.size)
    have I25 : Hid (IsStrs w5 b2 n2 d2 (without s2 role)) := I24.out.below hb5
    have I35 : Hid (IsStrs w5 b3 n3 d3 (without s3 role)) := I34.out.below hb5
    clear hb5
    go_wp2_with fail
    refine (insert_any n2 role (by omega) (by omega) I25.out).mono ?_
    rintro e w6 ⟨⟨b6, n6, d6, rfl, hI6⟩, hb6⟩
    have B6 : Hid (Below w.heap.size w w6) := B5.out.trans (hb6.mono B5.out.size)
    have I26 : Hid (IsStrs w6 b2 n2 d2 (without s2 role)) := I25.out.below hb6
    have I36 : Hid (IsStrs w6 b3 n3 d3 (without s3 role)) := I35.out.below hb6
    have I66 : Hid (IsStrs w6 b6 n6 d6 (inserted (without s2 role) n2 role)) := hI6
    clear hb6 hI6
    go_wp2_with fail
    refine (scopeOf_is 2 true (bytes_self _) (by rw [hasS_inserted]; rfl) I66.out (H3.out.below B6.out)).mono ?_
    rintro e w7 ⟨rfl, hb7⟩
    have B7 : Hid (Below w.heap.size w w7) := B6.out.trans (hb7.mono B6.out.size)
    have I27 : Hid (IsStrs w7 b2 n2 d2 (without s2 role)) := I26.out.below hb7
    have I37 : Hid (IsStrs w7 b3 n3 d3 (without s3 role)) := I36.out.below hb7
    clear hb7
    go_wp2_with fail
    refine (insert_any n2 role (by omega) (by omega) I27.out).mono ?_
    rintro e w8 ⟨⟨b8, n8, d8, rfl, hI8⟩, hb8⟩
    have B8 : Hid (Below w.heap.size w w8) := B7.out.trans (hb8.mono B7.out.size)
    have I38 : Hid (IsStrs w8 b3 n3 d3 (without s3 role)) := I37.out.below hb8
    have I88 : Hid (IsStrs w8 b8 n8 d8 (inserted (without s2 role) n2 role)) := hI8
    clear hb8 hI8
    go_wp2_with fail
    refine (insert_any n3 role (by omega) (by omega) I38.out).mono ?_
    rintro e w9 ⟨⟨b9, n9, d9, rfl, hI9⟩, hb9⟩
    have B9 : Hid (Below w.heap.size w w9) := B8.out.trans (hb9.mono B8.out.size)
    have I89 : Hid (IsStrs w9 b8 n8 d8 (inserted (without s2 role) n2 role)) := I88.out.below hb9
    have I99 : Hid (IsStrs w9 b9 n9 d9 (inserted (without s3 role) n3 role)) := hI9
    clear hb9 hI9
    go_wp2_with fail
    refine (scopeOf_is 2 false (hash_ne _) rfl I89.out I99.out).mono ?_
    rintro e w10 ⟨rfl, hb10⟩
    have B10 : Hid (Below w.heap.size w w10) := B9.out.trans (hb10.mono B9.out.size)
    clear hb10
    go_wp2
    go_ret
    exact ⟨rfl, B10.out.alloc B10.out.size _⟩

set_option maxRecDepth 100000 in
set_option maxHeartbeats 2000000 in
theorem scopeIns_b (pub : Bool) (act role : ByteArray) {a2 a3 : Option Addr} {l2 c2 l3 c3 : Nat} {s2 s3 : List ByteArray} (k j : Nat) (hk : k ≤ l2) (hj : j ≤ l3) (hkn : (without s2 role).length < k) (hjn : ¬ (without s3 role).length < j)
    {w : World} (h2 : IsStrs w a2 l2 c2 s2) (h3 : IsStrs w a3 l3 c3 s3) :
    Calls Try.prog 3 #[.bool pub, .string act, .slice a2 l2 c2, .slice a3 l3 c3, .string role, .int .i64 k, .int .i64 j] w fun e w' => e = .returned (.bool true) ∧ Below w.heap.size w w' := by
  have H2 : Hid (IsStrs w a2 l2 c2 s2) := h2
  have H3 : Hid (IsStrs w a3 l3 c3 s3) := h3
  have HKN : Hid ((without s2 role).length < k) := hkn
  have HJN : Hid (¬ (without s3 role).length < j) := hjn
  clear h2 h3 hkn hjn
  go_enter Try.func3, Try.ntmps3
  go_wp2_with fail
  refine (bytesRem_any pub act role k j H2.out H3.out).mono ?_
  rintro e w' ⟨⟨x, rfl, hx⟩, hw⟩
  obtain rfl : w = w' := hw.symm
  cases x
  · go_wp2
    go_ret
    exact ⟨rfl, Below.refl _ _⟩
  have hl2 : l2 ≤ 1048576 := (hx rfl).1
  have hl3 : l3 ≤ 1048576 := (hx rfl).2
  clear hx
  by_cases hact : (1048576 : Int) < (act.size : Int)
  · go_wp2_with fail
    go_ret
    exact ⟨rfl, Below.refl _ _⟩
  by_cases hrole : (1048576 : Int) < (role.size : Int)
  · go_wp2_with fail
    go_ret
    exact ⟨rfl, Below.refl _ _⟩
  go_wp2_with fail
  refine (addList_any _ H2.out).mono ?_
  rintro e w' ⟨⟨n, rfl⟩, hw⟩
  obtain rfl : w = w' := hw.symm
  go_wp2_with fail
  · go_ret
    exact ⟨rfl, Below.refl _ _⟩
  refine (addList_any _ H3.out).mono ?_
  rintro e w' ⟨⟨n', rfl⟩, hw⟩
  obtain rfl : w = w' := hw.symm
  go_wp2_with fail
  · go_ret
    exact ⟨rfl, Below.refl _ _⟩
  refine (without_any role hl2 H2.out).mono ?_
  rintro e w1 ⟨⟨b2, n2, d2, rfl, hI2⟩, hb1⟩
  have B1 : Hid (Below w.heap.size w w1) := hb1
  have I21 : Hid (IsStrs w1 b2 n2 d2 (without s2 role)) := hI2
  have hn2 : n2 ≤ l2 := by rw [← hI2.1, ← H2.out.1]; exact without_le _ _
  have hk' : n2 < k := by have := HKN.out; rw [hI2.1] at this; exact this
  clear hb1 hI2
  go_wp2_with fail
  refine (without_any role hl3 (H3.out.below B1.out)).mono ?_
  rintro e w2 ⟨⟨b3, n3, d3, rfl, hI3⟩, hb2⟩
  have B2 : Hid (Below w.heap.size w w2) := B1.out.trans (hb2.mono B1.out.size)
  have I22 : Hid (IsStrs w2 b2 n2 d2 (without s2 role)) := I21.out.below hb2
  have I32 : Hid (IsStrs w2 b3 n3 d3 (without s3 role)) := hI3
  have hn3 : n3 ≤ l3 := by rw [← hI3.1, ← H3.out.1]; exact without_le _ _
  have hj' : ¬ n3 < j := by have := HJN.out; rw [hI3.1] at this; exact this
  clear hb2 hI3
  cases pub
  · go_wp2_with fail
    refine (scopeOf_is 0 true (bytes_self _) (by rw [hasS_without, hasS_without]; rfl) I22.out I32.out).mono ?_
    rintro e w3 ⟨rfl, hb3⟩
    have B3 : Hid (Below w.heap.size w w3) := B2.out.trans (hb3.mono B2.out.size)
    have I23 : Hid (IsStrs w3 b2 n2 d2 (without s2 role)) := I22.out.below hb3
    have I33 : Hid (IsStrs w3 b3 n3 d3 (without s3 role)) := I32.out.below hb3
    clear hb3
    go_wp2_with fail
    refine (insert_any j role (by omega) (by omega) I33.out).mono ?_
    rintro e w4 ⟨⟨b4, n4, d4, rfl, hI4⟩, hb4⟩
    have B4 : Hid (Below w.heap.size w w4) := B3.out.trans (hb4.mono B3.out.size)
    have I24 : Hid (IsStrs w4 b2 n2 d2 (without s2 role)) := I23.out.below hb4
    have I34 : Hid (IsStrs w4 b3 n3 d3 (without s3 role)) := I33.out.below hb4
    have I44 : Hid (IsStrs w4 b4 n4 d4 (inserted (without s3 role) j role)) := hI4
    clear hb4 hI4
    go_wp2_with fail
    refine (scopeOf_is 1 true (bytes_self _) (by rw [hasS_without, hasS_inserted]; rfl) I24.out I44.out).mono ?_
    rintro e w5 ⟨rfl, hb5⟩
    have B5 : Hid (Below w.heap.size w w5) := B4.out.trans (hb5.mono B4.out.size)
    have I25 : Hid (IsStrs w5 b2 n2 d2 (without s2 role)) := I24.out.below hb5
    have I35 : Hid (IsStrs w5 b3 n3 d3 (without s3 role)) := I34.out.below hb5
    clear hb5
    go_wp2_with fail
    refine (insert_any n2 role (by omega) (by omega) I25.out).mono ?_
    rintro e w6 ⟨⟨b6, n6, d6, rfl, hI6⟩, hb6⟩
    have B6 : Hid (Below w.heap.size w w6) := B5.out.trans (hb6.mono B5.out.size)
    have I26 : Hid (IsStrs w6 b2 n2 d2 (without s2 role)) := I25.out.below hb6
    have I36 : Hid (IsStrs w6 b3 n3 d3 (without s3 role)) := I35.out.below hb6
    have I66 : Hid (IsStrs w6 b6 n6 d6 (inserted (without s2 role) n2 role)) := hI6
    clear hb6 hI6
    go_wp2_with fail
    refine (scopeOf_is 2 true (bytes_self _) (by rw [hasS_inserted]; rfl) I66.out (H3.out.below B6.out)).mono ?_
    rintro e w7 ⟨rfl, hb7⟩
    have B7 : Hid (Below w.heap.size w w7) := B6.out.trans (hb7.mono B6.out.size)
    have I27 : Hid (IsStrs w7 b2 n2 d2 (without s2 role)) := I26.out.below hb7
    have I37 : Hid (IsStrs w7 b3 n3 d3 (without s3 role)) := I36.out.below hb7
    clear hb7
    go_wp2_with fail
    refine (insert_any n2 role (by omega) (by omega) I27.out).mono ?_
    rintro e w8 ⟨⟨b8, n8, d8, rfl, hI8⟩, hb8⟩
    have B8 : Hid (Below w.heap.size w w8) := B7.out.trans (hb8.mono B7.out.size)
    have I38 : Hid (IsStrs w8 b3 n3 d3 (without s3 role)) := I37.out.below hb8
    have I88 : Hid (IsStrs w8 b8 n8 d8 (inserted (without s2 role) n2 role)) := hI8
    clear hb8 hI8
    go_wp2_with fail
    refine (insert_any j role (by omega) (by omega) I38.out).mono ?_
    rintro e w9 ⟨⟨b9, n9, d9, rfl, hI9⟩, hb9⟩
    have B9 : Hid (Below w.heap.size w w9) := B8.out.trans (hb9.mono B8.out.size)
    have I89 : Hid (IsStrs w9 b8 n8 d8 (inserted (without s2 role) n2 role)) := I88.out.below hb9
    have I99 : Hid (IsStrs w9 b9 n9 d9 (inserted (without s3 role) j role)) := hI9
    clear hb9 hI9
    go_wp2_with fail
    refine (scopeOf_is 0 false (hash_ne _) rfl I89.out I99.out).mono ?_
    rintro e w10 ⟨rfl, hb10⟩
    have B10 : Hid (Below w.heap.size w w10) := B9.out.trans (hb10.mono B9.out.size)
    clear hb10
    have hln := fun W => run_lookup_nil W act
    go_wp2_with (first | (go_at_call 23; refine (permScope_any role (IsStrs.nil none 0 (by omega)) (IsStrs.nil none 0 (by omega))).mono ?_; rintro e w11 ⟨rfl, hb11⟩; have B11 : Hid (Below w.heap.size w w11) := (B10.out.alloc B10.out.size _).trans (hb11.mono (by have := B10.out.size; simp; omega)); clear hb11; rw [hasS_nil]; have hsc : scp false false = 0 := rfl; rw [hsc]; clear hsc) | go_in)
    go_ret
    exact ⟨rfl, B11.out⟩
  · go_wp2_with fail
    refine (scopeOf_is 2 true (bytes_self _) (by rw [hasS_without, hasS_without]; rfl) I22.out I32.out).mono ?_
    rintro e w3 ⟨rfl, hb3⟩
    have B3 : Hid (Below w.heap.size w w3) := B2.out.trans (hb3.mono B2.out.size)
    have I23 : Hid (IsStrs w3 b2 n2 d2 (without s2 role)) := I22.out.below hb3
    have I33 : Hid (IsStrs w3 b3 n3 d3 (without s3 role)) := I32.out.below hb3
    clear hb3
    go_wp2_with fail
    refine (insert_any j role (by omega) (by omega) I33.out).mono ?_
    rintro e w4 ⟨⟨b4, n4, d4, rfl, hI4⟩, hb4⟩
    have B4 : Hid (Below w.heap.size w w4) := B3.out.trans (hb4.mono B3.out.size)
    have I24 : Hid (IsStrs w4 b2 n2 d2 (without s2 role)) := I23.out.below hb4
    have I34 : Hid (IsStrs w4 b3 n3 d3 (without s3 role)) := I33.out.below hb4
    have I44 : Hid (IsStrs w4 b4 n4 d4 (inserted (without s3 role) j role)) := hI4
    clear hb4 hI4
    go_wp2_with fail
    refine (scopeOf_is 2 true (bytes_self _) (by rw [hasS_without, hasS_inserted]; rfl) I24.out I44.out).mono ?_
    rintro e w5 ⟨rfl, hb5⟩
    have B5 : Hid (Below w.heap.size w w5) := B4.out.trans (hb5.mono B4.out.size)
    have I25 : Hid (IsStrs w5 b2 n2 d2 (without s2 role)) := I24.out.below hb5
    have I35 : Hid (IsStrs w5 b3 n3 d3 (without s3 role)) := I34.out.below hb5
    clear hb5
    go_wp2_with fail
    refine (insert_any n2 role (by omega) (by omega) I25.out).mono ?_
    rintro e w6 ⟨⟨b6, n6, d6, rfl, hI6⟩, hb6⟩
    have B6 : Hid (Below w.heap.size w w6) := B5.out.trans (hb6.mono B5.out.size)
    have I26 : Hid (IsStrs w6 b2 n2 d2 (without s2 role)) := I25.out.below hb6
    have I36 : Hid (IsStrs w6 b3 n3 d3 (without s3 role)) := I35.out.below hb6
    have I66 : Hid (IsStrs w6 b6 n6 d6 (inserted (without s2 role) n2 role)) := hI6
    clear hb6 hI6
    go_wp2_with fail
    refine (scopeOf_is 2 true (bytes_self _) (by rw [hasS_inserted]; rfl) I66.out (H3.out.below B6.out)).mono ?_
    rintro e w7 ⟨rfl, hb7⟩
    have B7 : Hid (Below w.heap.size w w7) := B6.out.trans (hb7.mono B6.out.size)
    have I27 : Hid (IsStrs w7 b2 n2 d2 (without s2 role)) := I26.out.below hb7
    have I37 : Hid (IsStrs w7 b3 n3 d3 (without s3 role)) := I36.out.below hb7
    clear hb7
    go_wp2_with fail
    refine (insert_any n2 role (by omega) (by omega) I27.out).mono ?_
    rintro e w8 ⟨⟨b8, n8, d8, rfl, hI8⟩, hb8⟩
    have B8 : Hid (Below w.heap.size w w8) := B7.out.trans (hb8.mono B7.out.size)
    have I38 : Hid (IsStrs w8 b3 n3 d3 (without s3 role)) := I37.out.below hb8
    have I88 : Hid (IsStrs w8 b8 n8 d8 (inserted (without s2 role) n2 role)) := hI8
    clear hb8 hI8
    go_wp2_with fail
    refine (insert_any j role (by omega) (by omega) I38.out).mono ?_
    rintro e w9 ⟨⟨b9, n9, d9, rfl, hI9⟩, hb9⟩
    have B9 : Hid (Below w.heap.size w w9) := B8.out.trans (hb9.mono B8.out.size)
    have I89 : Hid (IsStrs w9 b8 n8 d8 (inserted (without s2 role) n2 role)) := I88.out.below hb9
    have I99 : Hid (IsStrs w9 b9 n9 d9 (inserted (without s3 role) j role)) := hI9
    clear hb9 hI9
    go_wp2_with fail
    refine (scopeOf_is 2 false (hash_ne _) rfl I89.out I99.out).mono ?_
    rintro e w10 ⟨rfl, hb10⟩
    have B10 : Hid (Below w.heap.size w w10) := B9.out.trans (hb10.mono B9.out.size)
    clear hb10
    go_wp2
    go_ret
    exact ⟨rfl, B10.out.alloc B10.out.size _⟩

end Go.Proofs.Qxb6616314a
