import Derived.Test.Qxb6616314aCutOr
import Derived.Test.Qxb6616314aInsert
namespace Go.Proofs.Qxb6616314a
open Go.RowKit

theorem hasS_without (ss : List ByteArray) (s : ByteArray) : hasS (without ss s) s = false := by
  unfold hasS without
  rw [List.any_eq_false]
  intro t ht
  rw [List.mem_filter] at ht
  have h := ht.2
  intro h2
  rw [beq_iff_eq] at h2
  rw [h2] at h
  simp at h
theorem hasS_inserted (ss : List ByteArray) (p : Nat) (s : ByteArray) : hasS (inserted ss p s) s = true := by
  unfold inserted
  rw [hasS_append, hasS_cons]
  simp
theorem without_same {ss : List ByteArray} {s : ByteArray} (h : hasS ss s = false) : (without ss s).length = ss.length := by
  unfold hasS at h
  rw [List.any_eq_false] at h
  unfold without
  rw [List.filter_eq_self.2]
  intro t ht
  have h1 := h t ht
  rw [beq_iff_eq] at h1
  rw [Bool.not_eq_true', beq_eq_false_iff_ne]
  exact fun e => h1 e.symm
theorem without_less {ss : List ByteArray} {s : ByteArray} (h : hasS ss s = true) : (without ss s).length < ss.length := by
  unfold hasS at h
  rw [List.any_eq_true] at h
  obtain ⟨t, ht, h1⟩ := h
  unfold without
  refine Nat.lt_of_le_of_ne (List.length_filter_le _ _) fun e => ?_
  have h2 := List.length_filter_eq_length_iff.1 e t ht
  rw [beq_iff_eq] at h1
  rw [h1] at h2
  simp at h2

set_option maxHeartbeats 1000000 in
theorem insRem_in {a : Option Addr} {len cap : Nat} {ss : List ByteArray} (s : ByteArray) (k : Nat) (d : Int) (hk : k ≤ len) (x : Bool) (hs : hasS ss s = x) {w : World} (h : IsStrs w a len cap ss) :
    Calls Try.prog 6 #[.slice a len cap, .string s, .int .i64 k, .int .i64 d] w fun e w' => e = .returned (.bool true) ∧ Below w.heap.size w w' := by
  have H : Hid (IsStrs w a len cap ss) := h
  have HS : Hid (hasS ss s = x) := hs
  clear h hs
  go_enter Try.func6, Try.ntmps6
  go_wp2_with fail
  refine (bytesIns_any s k d H.out).mono ?_
  rintro e w' ⟨⟨y, rfl, hx⟩, hw⟩
  obtain rfl : w = w' := hw.symm
  cases y
  · go_wp2
    go_ret
    exact ⟨rfl, Below.refl _ _⟩
  have hlen : len ≤ 1048576 := hx rfl
  clear hx
  go_wp2_with fail
  · go_ret
    exact ⟨rfl, Below.refl _ _⟩
  refine (addList_any _ H.out).mono ?_
  rintro e w' ⟨⟨n, rfl⟩, hw⟩
  obtain rfl : w = w' := hw.symm
  go_wp2_with fail
  · go_ret
    exact ⟨rfl, Below.refl _ _⟩
  refine (without_any s hlen H.out).mono ?_
  rintro e w1 ⟨⟨a1, n1, c1, rfl, hI1⟩, hb1⟩
  have B1 : Hid (Below w.heap.size w w1) := hb1
  have I1 : Hid (IsStrs w1 a1 n1 c1 (without ss s)) := hI1
  have hn1 : n1 ≤ len := by rw [← hI1.1, ← H.out.1]; exact without_le _ _
  have HE : Hid ((n1 = len ∧ x = false) ∨ (n1 < len ∧ x = true)) := by
    have e1 := hI1.1
    have e2 := H.out.1
    have e3 := HS.out
    cases x
    · left; exact ⟨by rw [← e1, ← e2]; exact without_same e3, rfl⟩
    · right; exact ⟨by rw [← e1, ← e2]; exact without_less e3, rfl⟩
  clear hb1 hI1
  rcases HE.out with ⟨hnl, hx⟩ | ⟨hnl, hx⟩
  · subst hx
    have hq : ((n1 : Int) != (len : Int)) = false := by rw [hnl]; simp
    clear hnl HE
    by_cases hkn : n1 < k
    · go_wp2_with fail
      refine (insert_any n1 s (by omega) (by omega) I1.out).mono ?_
      rintro e w2 ⟨⟨a2, n2, c2, rfl, hI2⟩, hb2⟩
      have B2 : Hid (Below w.heap.size w w2) := B1.out.trans (hb2.mono B1.out.size)
      have I12 : Hid (IsStrs w2 a1 n1 c1 (without ss s)) := I1.out.below hb2
      have I2 : Hid (IsStrs w2 a2 n2 c2 (inserted (without ss s) n1 s)) := hI2
      clear hb2 hI2
      go_wp2_with fail
      refine (starts_is s false HS.out (H.out.below (B2.out.alloc B2.out.size _))).mono ?_
      rintro e w3 ⟨rfl, hb3⟩
      have B3 : Hid (Below w.heap.size w w3) := (B2.out.alloc B2.out.size _).trans (hb3.mono (by have := B2.out.size; simp; omega))
      have I13 : Hid (IsStrs w3 a1 n1 c1 (without ss s)) := (I12.out.below ((Below.refl _ _).alloc (Nat.le_refl _) _)).below hb3
      have I23 : Hid (IsStrs w3 a2 n2 c2 (inserted (without ss s) n1 s)) := (I2.out.below ((Below.refl _ _).alloc (Nat.le_refl _) _)).below hb3
      clear hb3
      go_wp2_with fail
      refine (starts_is s true (hasS_inserted _ _ _) I23.out).mono ?_
      rintro e w4 ⟨rfl, hb4⟩
      have B4 : Hid (Below w.heap.size w w4) := B3.out.trans (hb4.mono B3.out.size)
      have I14 : Hid (IsStrs w4 a1 n1 c1 (without ss s)) := I13.out.below hb4
      clear hb4
      go_wp2_with fail
      refine (starts_is s false (hasS_without _ _) I14.out).mono ?_
      rintro e w5 ⟨rfl, hb5⟩
      have B5 : Hid (Below w.heap.size w w5) := B4.out.trans (hb5.mono B4.out.size)
      clear hb5
      go_wp2_with fail
      refine (startsNil_any _ _).mono ?_
      rintro e w6 ⟨rfl, hw6⟩
      obtain rfl : w5 = w6 := hw6.symm
      go_wp2_with fail
      refine (startsInt_any _ _ _).mono ?_
      rintro e w7 ⟨rfl, hw7⟩
      obtain rfl : w5 = w7 := hw7.symm
      go_wp2
      go_ret
      exact ⟨rfl, B5.out⟩
    · go_wp2_with fail
      refine (insert_any k s (by omega) (by omega) I1.out).mono ?_
      rintro e w2 ⟨⟨a2, n2, c2, rfl, hI2⟩, hb2⟩
      have B2 : Hid (Below w.heap.size w w2) := B1.out.trans (hb2.mono B1.out.size)
      have I12 : Hid (IsStrs w2 a1 n1 c1 (without ss s)) := I1.out.below hb2
      have I2 : Hid (IsStrs w2 a2 n2 c2 (inserted (without ss s) k s)) := hI2
      clear hb2 hI2
      go_wp2_with fail
      refine (starts_is s false HS.out (H.out.below (B2.out.alloc B2.out.size _))).mono ?_
      rintro e w3 ⟨rfl, hb3⟩
      have B3 : Hid (Below w.heap.size w w3) := (B2.out.alloc B2.out.size _).trans (hb3.mono (by have := B2.out.size; simp; omega))
      have I13 : Hid (IsStrs w3 a1 n1 c1 (without ss s)) := (I12.out.below ((Below.refl _ _).alloc (Nat.le_refl _) _)).below hb3
      have I23 : Hid (IsStrs w3 a2 n2 c2 (inserted (without ss s) k s)) := (I2.out.below ((Below.refl _ _).alloc (Nat.le_refl _) _)).below hb3
      clear hb3
      go_wp2_with fail
      refine (starts_is s true (hasS_inserted _ _ _) I23.out).mono ?_
      rintro e w4 ⟨rfl, hb4⟩
      have B4 : Hid (Below w.heap.size w w4) := B3.out.trans (hb4.mono B3.out.size)
      have I14 : Hid (IsStrs w4 a1 n1 c1 (without ss s)) := I13.out.below hb4
      clear hb4
      go_wp2_with fail
      refine (starts_is s false (hasS_without _ _) I14.out).mono ?_
      rintro e w5 ⟨rfl, hb5⟩
      have B5 : Hid (Below w.heap.size w w5) := B4.out.trans (hb5.mono B4.out.size)
      clear hb5
      go_wp2_with fail
      refine (startsNil_any _ _).mono ?_
      rintro e w6 ⟨rfl, hw6⟩
      obtain rfl : w5 = w6 := hw6.symm
      go_wp2_with fail
      refine (startsInt_any _ _ _).mono ?_
      rintro e w7 ⟨rfl, hw7⟩
      obtain rfl : w5 = w7 := hw7.symm
      go_wp2
      go_ret
      exact ⟨rfl, B5.out⟩
  · subst hx
    have hq : ((n1 : Int) != (len : Int)) = true := by rw [bne_iff_ne]; omega
    clear hnl HE
    by_cases hkn : n1 < k
    · go_wp2_with fail
      refine (insert_any n1 s (by omega) (by omega) I1.out).mono ?_
      rintro e w2 ⟨⟨a2, n2, c2, rfl, hI2⟩, hb2⟩
      have B2 : Hid (Below w.heap.size w w2) := B1.out.trans (hb2.mono B1.out.size)
      have I12 : Hid (IsStrs w2 a1 n1 c1 (without ss s)) := I1.out.below hb2
      have I2 : Hid (IsStrs w2 a2 n2 c2 (inserted (without ss s) n1 s)) := hI2
      clear hb2 hI2
      go_wp2_with fail
      refine (starts_is s true HS.out (H.out.below (B2.out.alloc B2.out.size _))).mono ?_
      rintro e w3 ⟨rfl, hb3⟩
      have B3 : Hid (Below w.heap.size w w3) := (B2.out.alloc B2.out.size _).trans (hb3.mono (by have := B2.out.size; simp; omega))
      have I13 : Hid (IsStrs w3 a1 n1 c1 (without ss s)) := (I12.out.below ((Below.refl _ _).alloc (Nat.le_refl _) _)).below hb3
      have I23 : Hid (IsStrs w3 a2 n2 c2 (inserted (without ss s) n1 s)) := (I2.out.below ((Below.refl _ _).alloc (Nat.le_refl _) _)).below hb3
      clear hb3
      go_wp2_with fail
      refine (starts_is s true (hasS_inserted _ _ _) I23.out).mono ?_
      rintro e w4 ⟨rfl, hb4⟩
      have B4 : Hid (Below w.heap.size w w4) := B3.out.trans (hb4.mono B3.out.size)
      have I14 : Hid (IsStrs w4 a1 n1 c1 (without ss s)) := I13.out.below hb4
      clear hb4
      go_wp2_with fail
      refine (starts_is s false (hasS_without _ _) I14.out).mono ?_
      rintro e w5 ⟨rfl, hb5⟩
      have B5 : Hid (Below w.heap.size w w5) := B4.out.trans (hb5.mono B4.out.size)
      clear hb5
      go_wp2_with fail
      refine (startsNil_any _ _).mono ?_
      rintro e w6 ⟨rfl, hw6⟩
      obtain rfl : w5 = w6 := hw6.symm
      go_wp2_with fail
      refine (startsInt_any _ _ _).mono ?_
      rintro e w7 ⟨rfl, hw7⟩
      obtain rfl : w5 = w7 := hw7.symm
      go_wp2
      go_ret
      exact ⟨rfl, B5.out⟩
    · go_wp2_with fail
      refine (insert_any k s (by omega) (by omega) I1.out).mono ?_
      rintro e w2 ⟨⟨a2, n2, c2, rfl, hI2⟩, hb2⟩
      have B2 : Hid (Below w.heap.size w w2) := B1.out.trans (hb2.mono B1.out.size)
      have I12 : Hid (IsStrs w2 a1 n1 c1 (without ss s)) := I1.out.below hb2
      have I2 : Hid (IsStrs w2 a2 n2 c2 (inserted (without ss s) k s)) := hI2
      clear hb2 hI2
      go_wp2_with fail
      refine (starts_is s true HS.out (H.out.below (B2.out.alloc B2.out.size _))).mono ?_
      rintro e w3 ⟨rfl, hb3⟩
      have B3 : Hid (Below w.heap.size w w3) := (B2.out.alloc B2.out.size _).trans (hb3.mono (by have := B2.out.size; simp; omega))
      have I13 : Hid (IsStrs w3 a1 n1 c1 (without ss s)) := (I12.out.below ((Below.refl _ _).alloc (Nat.le_refl _) _)).below hb3
      have I23 : Hid (IsStrs w3 a2 n2 c2 (inserted (without ss s) k s)) := (I2.out.below ((Below.refl _ _).alloc (Nat.le_refl _) _)).below hb3
      clear hb3
      go_wp2_with fail
      refine (starts_is s true (hasS_inserted _ _ _) I23.out).mono ?_
      rintro e w4 ⟨rfl, hb4⟩
      have B4 : Hid (Below w.heap.size w w4) := B3.out.trans (hb4.mono B3.out.size)
      have I14 : Hid (IsStrs w4 a1 n1 c1 (without ss s)) := I13.out.below hb4
      clear hb4
      go_wp2_with fail
      refine (starts_is s false (hasS_without _ _) I14.out).mono ?_
      rintro e w5 ⟨rfl, hb5⟩
      have B5 : Hid (Below w.heap.size w w5) := B4.out.trans (hb5.mono B4.out.size)
      clear hb5
      go_wp2_with fail
      refine (startsNil_any _ _).mono ?_
      rintro e w6 ⟨rfl, hw6⟩
      obtain rfl : w5 = w6 := hw6.symm
      go_wp2_with fail
      refine (startsInt_any _ _ _).mono ?_
      rintro e w7 ⟨rfl, hw7⟩
      obtain rfl : w5 = w7 := hw7.symm
      go_wp2
      go_ret
      exact ⟨rfl, B5.out⟩

set_option maxHeartbeats 1000000 in
theorem insRem_law {a0 : Option Addr} {len0 cap0 : Nat} {z0 : List ByteArray} {a1 : ByteArray} {a2 a3 : Int} {W : World} (w0 : IsStrs W a0 len0 cap0 z0) (_w1 : a1.size ≤ maxLen) (_w2 : (Lit.int .i64 a2).wf = true) (_w3 : (Lit.int .i64 a3).wf = true) :
    Calls Try.prog 6 #[.slice a0 len0 cap0, .string a1, .int .i64 a2, .int .i64 a3] W fun e w' => e = .returned (.bool true) ∧ Below W.heap.size W w' := by
  by_cases hc : 0 ≤ a2 ∧ a2 ≤ (len0 : Int)
  · obtain ⟨k, rfl⟩ := Int.eq_ofNat_of_zero_le hc.1
    exact insRem_in a1 k a3 (by omega) _ rfl w0
  have H : Hid (IsStrs W a0 len0 cap0 z0) := w0
  clear w0 _w1 _w2 _w3
  go_enter Try.func6, Try.ntmps6
  go_wp2_with fail
  refine (bytesIns_any a1 a2 a3 H.out).mono ?_
  rintro e w' ⟨⟨x, rfl, hx⟩, hw⟩
  obtain rfl : W = w' := hw.symm
  clear hx
  cases x
  · go_wp2
    go_ret
    exact ⟨rfl, Below.refl _ _⟩
  go_wp2_with fail
  · go_ret
    exact ⟨rfl, Below.refl _ _⟩
  refine (addList_any _ H.out).mono ?_
  rintro e w' ⟨⟨n, rfl⟩, hw⟩
  obtain rfl : W = w' := hw.symm
  by_cases h0 : a2 < 0
  · go_wp2_with fail
    all_goals (go_ret; exact ⟨rfl, Below.refl _ _⟩)
  · have h1 : (len0 : Int) < a2 := by omega
    go_wp2_with fail
    all_goals (go_ret; exact ⟨rfl, Below.refl _ _⟩)
end Go.Proofs.Qxb6616314a
