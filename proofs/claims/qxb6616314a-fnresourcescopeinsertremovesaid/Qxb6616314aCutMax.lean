import Derived.Test.Qxb6616314aScopeOf
import Derived.Test.Qxb6616314aBytes2
import Derived.Deep.RegionHeld3
namespace Go.Proofs.Qxb6616314a
open Go.RowKit

theorem scopeOf_is (v : Int) {pub : Bool} {act : ByteArray} {a0 a1 : Option Addr} {l0 c0 l1 c1 : Nat} {s0 s1 : List ByteArray} {s asked : ByteArray} {w : World} (x : Bool) (hx : (asked == act) = x) (hv : scpOf pub x (hasS s0 s) (hasS s1 s) = v) (h0 : IsStrs w a0 l0 c0 s0) (h1 : IsStrs w a1 l1 c1 s1) :
    Calls Try.prog 11 #[.bool pub, .string act, .slice a0 l0 c0, .slice a1 l1 c1, .string s, .string asked] w fun e w' => e = .returned (.int .i64 v) ∧ Below w.heap.size w w' := by
  subst hv
  exact scopeOf_any pub act s asked x hx h0 h1

theorem bytes_self (s : ByteArray) : (s == s) = true := (MapKept.bytes_beq s s).2 rfl

set_option maxHeartbeats 400000 in
theorem maxScope_is (a b m : Int) (hm : (if b < a then a else b) = m) (w : World) :
    Calls Try.prog 15 #[.int .i64 a, .int .i64 b] w fun e w' => e = .returned (.int .i64 m) ∧ w' = w := by
  by_cases h : b < a
  · rw [if_pos h] at hm
    subst hm
    go_enter Try.func15, Try.ntmps15
    go_wp2
    go_ret
    exact ⟨rfl, rfl⟩
  · rw [if_neg h] at hm
    subst hm
    go_enter Try.func15, Try.ntmps15
    go_wp2
    go_ret
    exact ⟨rfl, rfl⟩

theorem max_plain (pub la ra lo ro : Bool) : (if scpOf pub true ra ro < scpOf pub true la lo then scpOf pub true la lo else scpOf pub true ra ro) = scpOf pub true (la || ra) (lo || ro) := by
  cases pub <;> cases la <;> cases ra <;> cases lo <;> cases ro <;> decide

set_option maxHeartbeats 1000000 in
theorem cutMax_in (pub : Bool) (act role : ByteArray) {a2 a3 : Option Addr} {l2 c2 l3 c3 : Nat} {s2 s3 : List ByteArray} (k j : Nat) (hk : k ≤ l2) (hj : j ≤ l3) (xw xl xr : Int)
    (hw : scpOf pub true (hasS s2 role) (hasS s3 role) = xw) (hl : scpOf pub true (hasS (s2.take k) role) (hasS (s3.take j) role) = xl) (hr : scpOf pub true (hasS (s2.drop k) role) (hasS (s3.drop j) role) = xr)
    (hm : (if xr < xl then xl else xr) = xw) {w : World} (h2 : IsStrs w a2 l2 c2 s2) (h3 : IsStrs w a3 l3 c3 s3) :
    Calls Try.prog 4 #[.bool pub, .string act, .slice a2 l2 c2, .slice a3 l3 c3, .string role, .int .i64 k, .int .i64 j] w fun e w' => e = .returned (.bool true) ∧ Below w.heap.size w w' := by
  have hcap2 := h2.2.1
  have hcap3 := h3.2.1
  have b2 : (0 : Int) ≤ (k : Int) := by omega
  have b3 : (k : Int) ≤ (c2 : Int) := by omega
  have b4 : (0 : Int) ≤ (j : Int) := by omega
  have b5 : (j : Int) ≤ (c3 : Int) := by omega
  obtain ⟨a2', c2', hsl2, hd2⟩ := h2.drop hk
  obtain ⟨a3', c3', hsl3, hd3⟩ := h3.drop hj
  have H2 : Hid (IsStrs w a2 l2 c2 s2) := h2
  have H3 : Hid (IsStrs w a3 l3 c3 s3) := h3
  have HD2 : Hid (IsStrs w a2' (l2 - k) c2' (s2.drop k)) := hd2
  have HD3 : Hid (IsStrs w a3' (l3 - j) c3' (s3.drop j)) := hd3
  have HW : Hid (scpOf pub true (hasS s2 role) (hasS s3 role) = xw) := hw
  have HL : Hid (scpOf pub true (hasS (s2.take k) role) (hasS (s3.take j) role) = xl) := hl
  have HR : Hid (scpOf pub true (hasS (s2.drop k) role) (hasS (s3.drop j) role) = xr) := hr
  have HM : Hid ((if xr < xl then xl else xr) = xw) := hm
  clear h2 h3 hd2 hd3 hw hl hr hm
  go_enter Try.func4, Try.ntmps4
  go_wp2_with fail
  refine (bytesMax_any pub act role k j H2.out H3.out).mono ?_
  rintro e w' ⟨⟨x, rfl, hx⟩, hw⟩
  obtain rfl : w = w' := hw.symm
  cases x
  · go_wp2
    go_ret
    exact ⟨rfl, Below.refl _ _⟩
  have hl2 : l2 ≤ 1048576 := (hx rfl).1
  have hl3 : l3 ≤ 1048576 := (hx rfl).2
  clear hx
  by_cases hact : (1048576 : Int) < (act.size : Int)
  · go_wp2_with fail
    go_ret
    exact ⟨rfl, Below.refl _ _⟩
  by_cases hrole : (1048576 : Int) < (role.size : Int)
  · go_wp2_with fail
    go_ret
    exact ⟨rfl, Below.refl _ _⟩
  go_wp2_with fail
  refine (addList_any _ H2.out).mono ?_
  rintro e w' ⟨⟨n, rfl⟩, hw⟩
  obtain rfl : w = w' := hw.symm
  go_wp2_with fail
  · go_ret
    exact ⟨rfl, Below.refl _ _⟩
  refine (addList_any _ H3.out).mono ?_
  rintro e w' ⟨⟨n', rfl⟩, hw⟩
  obtain rfl : w = w' := hw.symm
  cases pub
  · go_wp2_with fail
    · go_ret
      exact ⟨rfl, Below.refl _ _⟩
    refine (scopeOf_is xw true (bytes_self _) HW.out H2.out H3.out).mono ?_
    rintro e w1 ⟨rfl, hb1⟩
    have B1 : Hid (Below w.heap.size w w1) := hb1
    clear hb1
    go_wp2_with fail
    go_region_held3 (fun _ => True) (trivial) ((go_at_call 11; refine (scopeOf_is xl true (bytes_self _) HL.out ((H2.out.below (B1.out.drew)).take hk) ((H3.out.below (B1.out.drew)).take hj)).mono ?_; rintro e w2 ⟨rfl, hb2⟩; have B2 : Hid (Below w.heap.size w w2) := B1.out.drew.trans (hb2.mono B1.out.size); clear hb2))
    go_wp2_with fail
    go_region_held3 (fun _ => True) (trivial) ((go_at_call 11; refine (scopeOf_is xr true (bytes_self _) HR.out (HD2.out.below (B2.out.drew)) (HD3.out.below (B2.out.drew))).mono ?_; rintro e w3 ⟨rfl, hb3⟩; have B3 : Hid (Below w.heap.size w w3) := B2.out.drew.trans (hb3.mono B2.out.size); clear hb3))
    go_wp2_with fail
    refine (scopeOf_is 2 true (bytes_self _) (by simp [hasS, scpOf, scp]) (IsStrs.one role 9) (IsStrs.nil none 0 (by omega))).mono ?_
    rintro e w4 ⟨rfl, hb4⟩
    have B4 : Hid (Below w.heap.size w w4) := (B3.out.alloc B3.out.size _).trans (hb4.mono (by have := B3.out.size; simp; omega))
    clear hb4
    go_wp2_with fail
    refine (scopeOf_is 1 true (bytes_self _) (by simp [hasS, scpOf, scp]) (IsStrs.nil none 0 (by omega)) (IsStrs.one role 9)).mono ?_
    rintro e w5 ⟨rfl, hb5⟩
    have B5 : Hid (Below w.heap.size w w5) := (B4.out.alloc B4.out.size _).trans (hb5.mono (by have := B4.out.size; simp; omega))
    clear hb5
    go_wp2_with fail
    refine (scopeOf_is 0 true (bytes_self _) (by simp [hasS, scpOf, scp]) (IsStrs.nil none 0 (by omega)) (IsStrs.nil none 0 (by omega))).mono ?_
    rintro e w6 ⟨rfl, hb6⟩
    have B6 : Hid (Below w.heap.size w w6) := B5.out.trans (hb6.mono B5.out.size)
    clear hb6
    go_wp2_with fail
    refine (maxScope_is xl xr xw HM.out _).mono ?_
    rintro e w7 ⟨rfl, hw7⟩
    obtain rfl : w6 = w7 := hw7.symm
    go_wp2
    go_ret
    exact ⟨rfl, B6.out⟩
  · go_wp2_with fail
    · go_ret
      exact ⟨rfl, Below.refl _ _⟩
    refine (scopeOf_is xw true (bytes_self _) HW.out H2.out H3.out).mono ?_
    rintro e w1 ⟨rfl, hb1⟩
    have B1 : Hid (Below w.heap.size w w1) := hb1
    clear hb1
    go_wp2_with fail
    go_region_held3 (fun _ => True) (trivial) ((go_at_call 11; refine (scopeOf_is xl true (bytes_self _) HL.out ((H2.out.below (B1.out.drew)).take hk) ((H3.out.below (B1.out.drew)).take hj)).mono ?_; rintro e w2 ⟨rfl, hb2⟩; have B2 : Hid (Below w.heap.size w w2) := B1.out.drew.trans (hb2.mono B1.out.size); clear hb2))
    go_wp2_with fail
    go_region_held3 (fun _ => True) (trivial) ((go_at_call 11; refine (scopeOf_is xr true (bytes_self _) HR.out (HD2.out.below (B2.out.drew)) (HD3.out.below (B2.out.drew))).mono ?_; rintro e w3 ⟨rfl, hb3⟩; have B3 : Hid (Below w.heap.size w w3) := B2.out.drew.trans (hb3.mono B2.out.size); clear hb3))
    go_wp2_with fail
    refine (scopeOf_is 2 true (bytes_self _) (by simp [scpOf]) (IsStrs.one role 9) (IsStrs.nil none 0 (by omega))).mono ?_
    rintro e w4 ⟨rfl, hb4⟩
    have B4 : Hid (Below w.heap.size w w4) := (B3.out.alloc B3.out.size _).trans (hb4.mono (by have := B3.out.size; simp; omega))
    clear hb4
    go_wp2_with fail
    refine (scopeOf_is 2 true (bytes_self _) (by simp [scpOf]) (IsStrs.nil none 0 (by omega)) (IsStrs.one role 9)).mono ?_
    rintro e w5 ⟨rfl, hb5⟩
    have B5 : Hid (Below w.heap.size w w5) := (B4.out.alloc B4.out.size _).trans (hb5.mono (by have := B4.out.size; simp; omega))
    clear hb5
    go_wp2_with fail
    refine (scopeOf_is 2 true (bytes_self _) (by simp [scpOf]) (IsStrs.nil none 0 (by omega)) (IsStrs.nil none 0 (by omega))).mono ?_
    rintro e w6 ⟨rfl, hb6⟩
    have B6 : Hid (Below w.heap.size w w6) := B5.out.trans (hb6.mono B5.out.size)
    clear hb6
    go_wp2_with fail
    refine (maxScope_is xl xr xw HM.out _).mono ?_
    rintro e w7 ⟨rfl, hw7⟩
    obtain rfl : w6 = w7 := hw7.symm
    go_wp2
    go_ret
    exact ⟨rfl, B6.out⟩

set_option maxHeartbeats 1000000 in
theorem cutMax_law {a0 : Bool} {a1 : ByteArray} {a2 : Option Addr} {len2 cap2 : Nat} {z2 : List ByteArray} {a3 : Option Addr} {len3 cap3 : Nat} {z3 : List ByteArray} {a4 : ByteArray} {a5 a6 : Int} {W : World}
    (_w1 : a1.size ≤ maxLen) (w2 : IsStrs W a2 len2 cap2 z2) (w3 : IsStrs W a3 len3 cap3 z3) (_w4 : a4.size ≤ maxLen) (_w5 : (Lit.int .i64 a5).wf = true) (_w6 : (Lit.int .i64 a6).wf = true) :
    Calls Try.prog 4 #[.bool a0, .string a1, .slice a2 len2 cap2, .slice a3 len3 cap3, .string a4, .int .i64 a5, .int .i64 a6] W fun e w' => e = .returned (.bool true) ∧ Below W.heap.size W w' := by
  by_cases hc : (0 ≤ a5 ∧ a5 ≤ (len2 : Int)) ∧ 0 ≤ a6 ∧ a6 ≤ (len3 : Int)
  · obtain ⟨⟨h1, h2⟩, h3, h4⟩ := hc
    obtain ⟨k, rfl⟩ := Int.eq_ofNat_of_zero_le h1
    obtain ⟨j, rfl⟩ := Int.eq_ofNat_of_zero_le h3
    refine cutMax_in a0 a1 a4 k j (by omega) (by omega) _ _ _ rfl rfl rfl ?_ w2 w3
    rw [max_plain, ← hasS_append, List.take_append_drop, ← hasS_append, List.take_append_drop]
  have H2 : Hid (IsStrs W a2 len2 cap2 z2) := w2
  have H3 : Hid (IsStrs W a3 len3 cap3 z3) := w3
  clear w2 w3 _w1 _w4 _w5 _w6
  go_enter Try.func4, Try.ntmps4
  go_wp2_with fail
  refine (bytesMax_any a0 a1 a4 a5 a6 H2.out H3.out).mono ?_
  rintro e w' ⟨⟨x, rfl, hx⟩, hw⟩
  obtain rfl : W = w' := hw.symm
  cases x
  · go_wp2
    go_ret
    exact ⟨rfl, Below.refl _ _⟩
  have hl2 : len2 ≤ 1048576 := (hx rfl).1
  have hl3 : len3 ≤ 1048576 := (hx rfl).2
  clear hx
  by_cases hact : (1048576 : Int) < (a1.size : Int)
  · go_wp2_with fail
    go_ret
    exact ⟨rfl, Below.refl _ _⟩
  by_cases hrole : (1048576 : Int) < (a4.size : Int)
  · go_wp2_with fail
    go_ret
    exact ⟨rfl, Below.refl _ _⟩
  go_wp2_with fail
  refine (addList_any _ H2.out).mono ?_
  rintro e w' ⟨⟨n, rfl⟩, hw⟩
  obtain rfl : W = w' := hw.symm
  go_wp2_with fail
  · go_ret
    exact ⟨rfl, Below.refl _ _⟩
  refine (addList_any _ H3.out).mono ?_
  rintro e w' ⟨⟨n', rfl⟩, hw⟩
  obtain rfl : W = w' := hw.symm
  by_cases h1 : a5 < 0
  · go_wp2_with fail
    all_goals (go_ret; exact ⟨rfl, Below.refl _ _⟩)
  by_cases h2 : (len2 : Int) < a5
  · go_wp2_with fail
    all_goals (go_ret; exact ⟨rfl, Below.refl _ _⟩)
  by_cases h3 : a6 < 0
  · go_wp2_with fail
    all_goals (go_ret; exact ⟨rfl, Below.refl _ _⟩)
  have h4 : (len3 : Int) < a6 := by omega
  go_wp2_with fail
  all_goals (go_ret; exact ⟨rfl, Below.refl _ _⟩)
end Go.Proofs.Qxb6616314a
