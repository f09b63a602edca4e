import Derived.Test.Qxb6616314aStarts
namespace Go.Proofs.Qxb6616314a
open Go.RowKit

theorem starts_is {a : Option Addr} {len cap : Nat} {ss : List ByteArray} (s : ByteArray) {w : World} (x : Bool) (hx : hasS ss s = x) (h : IsStrs w a len cap ss) :
    Calls Try.prog 19 #[.slice a len cap, .string s] w fun e w' => e = .returned (.bool x) ∧ Below w.heap.size w w' := by
  subst hx
  exact starts_any s h

theorem IsStrs.take {w : World} {a : Option Addr} {len cap : Nat} {ss : List ByteArray} (h : IsStrs w a len cap ss) {k : Nat} (hk : k ≤ len) : IsStrs w a k cap (ss.take k) := by
  obtain ⟨h1, h2, h3, h0 | ⟨b, off, rfl, hlt, hc⟩⟩ := h
  · exact ⟨by simp; omega, by omega, h3, .inl (by omega)⟩
  · refine ⟨by simp; omega, by omega, h3, .inr ⟨b, off, rfl, hlt, fun i hi => ?_⟩⟩
    rw [hc i (by omega)]
    simp [hi]

/-- 'xs[k:]': SOME slice that holds the list's tail. -/
theorem IsStrs.drop {w : World} {a : Option Addr} {len cap : Nat} {ss : List ByteArray} (h : IsStrs w a len cap ss) {k : Nat} (hk : k ≤ len) :
    ∃ a' c', (∀ w', (Instr.slice 22 (.slice a len cap) (some (.int .i64 k)) none none).run Try.prog w' = .ok (.slice a' (len - k) c') w') ∧ IsStrs w a' (len - k) c' (ss.drop k) := by
  obtain ⟨h1, h2, h3, hd⟩ := h
  refine ⟨if cap = k then a else a.map (·.add (k * 1)), cap - k, fun w' => ?_, by simp; omega, by omega, by omega, ?_⟩
  · have e1 : (sizeOf 9).run Try.prog w' = .ok 1 w' := by kernel_rfl
    have e2 : (underlying 22).run Try.prog w' = .ok (.slice 9) w' := by kernel_rfl
    simp [Instr.slice, Instr.sliceBounds, Instr.sliceBound, asIntOf, go_sem, e1, e2, hk]
  · rcases hd with h0 | ⟨b, off, rfl, hlt, hc⟩
    · exact .inl (by omega)
    · by_cases hz : len - k = 0
      · exact .inl hz
      · refine .inr ⟨b, off + k, by rw [if_neg (by omega)]; simp [Addr.add], hlt, fun i hi => ?_⟩
        have := hc (k + i) (by omega)
        rw [Nat.add_assoc, this]
        simp

theorem IsStrs.one {w : World} (s : ByteArray) (t : TypeId) : IsStrs (w.alloc (.cells #[.string s] t)) (some ⟨w.heap.size, 0, none⟩) 1 1 [s] := by
  refine ⟨rfl, by omega, by omega, .inr ⟨_, _, rfl, by simp, fun i hi => ?_⟩⟩
  obtain rfl : i = 0 := by omega
  simp [go_sem]
theorem IsStrs.nil {w : World} (a : Option Addr) (c : Nat) (hc : c ≤ 9223372036854775807) : IsStrs w a 0 c [] := ⟨rfl, by omega, hc, .inl rfl⟩

set_option maxHeartbeats 400000 in
theorem cutOr_in {a : Option Addr} {len cap : Nat} {ss : List ByteArray} (s : ByteArray) (k : Nat) (hk : k ≤ len) (xl xr x : Bool) (hl : hasS (ss.take k) s = xl) (hr : hasS (ss.drop k) s = xr) (hs : hasS ss s = x) (hx : x = (xl || xr)) {w : World} (h : IsStrs w a len cap ss) :
    Calls Try.prog 7 #[.slice a len cap, .string s, .int .i64 k] w fun e w' => e = .returned (.bool true) ∧ Below w.heap.size w w' := by
  have hcap := h.2.1
  obtain ⟨a', c', hsl, hd⟩ := h.drop hk
  have H : Hid (IsStrs w a len cap ss) := h
  have HD : Hid (IsStrs w a' (len - k) c' (ss.drop k)) := hd
  have HL : Hid (hasS (ss.take k) s = xl) := hl
  have HR : Hid (hasS (ss.drop k) s = xr) := hr
  have HS : Hid (hasS ss s = x) := hs
  subst hx
  clear h hd hl hr hs
  go_enter Try.func7, Try.ntmps7
  go_wp2_with fail
  refine (bytesOr_any s k H.out).mono ?_
  rintro e w' ⟨⟨x, rfl, hx⟩, hw⟩
  obtain rfl : w = w' := hw.symm
  cases x
  · go_wp2
    go_ret
    exact ⟨rfl, Below.refl _ _⟩
  have hlen : len ≤ 1048576 := hx rfl
  clear hx
  go_wp2_with fail
  · go_ret
    exact ⟨rfl, Below.refl _ _⟩
  refine (addList_any _ H.out).mono ?_
  rintro e w' ⟨⟨n, rfl⟩, hw⟩
  obtain rfl : w = w' := hw.symm
  go_wp2_with fail
  · go_ret
    exact ⟨rfl, Below.refl _ _⟩
  refine (starts_is s _ HS.out H.out).mono ?_
  rintro e w1 ⟨rfl, hb1⟩
  have B1 : Hid (Below w.heap.size w w1) := hb1
  clear hb1
  go_wp2_with fail
  refine (starts_is s _ HL.out ((H.out.below B1.out).take hk)).mono ?_
  rintro e w2 ⟨rfl, hb2⟩
  have B2 : Hid (Below w.heap.size w w2) := B1.out.trans (hb2.mono B1.out.size)
  clear hb2
  cases xl
  · go_wp2_with fail
    refine (starts_is s _ HR.out (HD.out.below B2.out)).mono ?_
    rintro e w3 ⟨rfl, hb3⟩
    have B3 : Hid (Below w.heap.size w w3) := B2.out.trans (hb3.mono B2.out.size)
    clear hb3
    cases xr
    · go_wp2_with fail
      refine (starts_is s true (by simp [hasS]) (IsStrs.one s 9)).mono ?_
      rintro e w4 ⟨rfl, hb4⟩
      have B4 : Hid (Below w.heap.size w w4) := (B3.out.alloc B3.out.size _).trans (hb4.mono (by have := B3.out.size; simp; omega))
      clear hb4
      go_wp2_with fail
      refine (starts_is s false rfl (IsStrs.nil none 0 (by omega))).mono ?_
      rintro e w5 ⟨rfl, hb5⟩
      have B5 : Hid (Below w.heap.size w w5) := B4.out.trans (hb5.mono B4.out.size)
      clear hb5
      go_wp2_with fail
      refine (starts_is s false rfl (IsStrs.nil _ 0 (by omega))).mono ?_
      rintro e w6 ⟨rfl, hb6⟩
      have B6 : Hid (Below w.heap.size w w6) := (B5.out.alloc B5.out.size _).trans (hb6.mono (by have := B5.out.size; simp; omega))
      clear hb6
      go_wp2_with fail
      refine (startsNil_any _ _).mono ?_
      rintro e w7 ⟨rfl, hw7⟩
      have B7 : Hid (Below w.heap.size w w7) := by rw [hw7]; exact (B6.out.alloc B6.out.size _).alloc (by have := B6.out.size; simp; omega) _
      clear hw7
      go_wp2
      go_ret
      exact ⟨rfl, B7.out⟩
    · go_wp2_with fail
      refine (starts_is s true (by simp [hasS]) (IsStrs.one s 9)).mono ?_
      rintro e w4 ⟨rfl, hb4⟩
      have B4 : Hid (Below w.heap.size w w4) := (B3.out.alloc B3.out.size _).trans (hb4.mono (by have := B3.out.size; simp; omega))
      clear hb4
      go_wp2_with fail
      refine (starts_is s false rfl (IsStrs.nil none 0 (by omega))).mono ?_
      rintro e w5 ⟨rfl, hb5⟩
      have B5 : Hid (Below w.heap.size w w5) := B4.out.trans (hb5.mono B4.out.size)
      clear hb5
      go_wp2_with fail
      refine (starts_is s false rfl (IsStrs.nil _ 0 (by omega))).mono ?_
      rintro e w6 ⟨rfl, hb6⟩
      have B6 : Hid (Below w.heap.size w w6) := (B5.out.alloc B5.out.size _).trans (hb6.mono (by have := B5.out.size; simp; omega))
      clear hb6
      go_wp2_with fail
      refine (startsNil_any _ _).mono ?_
      rintro e w7 ⟨rfl, hw7⟩
      have B7 : Hid (Below w.heap.size w w7) := by rw [hw7]; exact (B6.out.alloc B6.out.size _).alloc (by have := B6.out.size; simp; omega) _
      clear hw7
      go_wp2
      go_ret
      exact ⟨rfl, B7.out⟩
  · go_wp2_with fail
    refine (starts_is s true (by simp [hasS]) (IsStrs.one s 9)).mono ?_
    rintro e w4 ⟨rfl, hb4⟩
    have B4 : Hid (Below w.heap.size w w4) := (B2.out.alloc B2.out.size _).trans (hb4.mono (by have := B2.out.size; simp; omega))
    clear hb4
    go_wp2_with fail
    refine (starts_is s false rfl (IsStrs.nil none 0 (by omega))).mono ?_
    rintro e w5 ⟨rfl, hb5⟩
    have B5 : Hid (Below w.heap.size w w5) := B4.out.trans (hb5.mono B4.out.size)
    clear hb5
    go_wp2_with fail
    refine (starts_is s false rfl (IsStrs.nil _ 0 (by omega))).mono ?_
    rintro e w6 ⟨rfl, hb6⟩
    have B6 : Hid (Below w.heap.size w w6) := (B5.out.alloc B5.out.size _).trans (hb6.mono (by have := B5.out.size; simp; omega))
    clear hb6
    go_wp2_with fail
    refine (startsNil_any _ _).mono ?_
    rintro e w7 ⟨rfl, hw7⟩
    have B7 : Hid (Below w.heap.size w w7) := by rw [hw7]; exact (B6.out.alloc B6.out.size _).alloc (by have := B6.out.size; simp; omega) _
    clear hw7
    go_wp2
    go_ret
    exact ⟨rfl, B7.out⟩

theorem cutOr_walk {a : Option Addr} {len cap : Nat} {ss : List ByteArray} (s : ByteArray) (c : Int) {w : World} (h : IsStrs w a len cap ss) :
    Calls Try.prog 7 #[.slice a len cap, .string s, .int .i64 c] w fun e w' => e = .returned (.bool true) ∧ Below w.heap.size w w' := by
  by_cases hc : 0 ≤ c ∧ c ≤ (len : Int)
  · obtain ⟨k, rfl⟩ := Int.eq_ofNat_of_zero_le hc.1
    refine cutOr_in s k (by omega) _ _ _ rfl rfl rfl ?_ h
    rw [← hasS_append, List.take_append_drop]
  have H : Hid (IsStrs w a len cap ss) := h
  clear h
  go_enter Try.func7, Try.ntmps7
  go_wp2_with fail
  refine (bytesOr_any s c H.out).mono ?_
  rintro e w' ⟨⟨x, rfl, hx⟩, hw⟩
  obtain rfl : w = w' := hw.symm
  clear hx
  cases x
  · go_wp2
    go_ret
    exact ⟨rfl, Below.refl _ _⟩
  go_wp2_with fail
  · go_ret
    exact ⟨rfl, Below.refl _ _⟩
  refine (addList_any _ H.out).mono ?_
  rintro e w' ⟨⟨n, rfl⟩, hw⟩
  obtain rfl : w = w' := hw.symm
  by_cases h0 : c < 0
  · go_wp2_with fail
    all_goals (go_ret; exact ⟨rfl, Below.refl _ _⟩)
  · have h1 : (len : Int) < c := by omega
    go_wp2_with fail
    all_goals (go_ret; exact ⟨rfl, Below.refl _ _⟩)

theorem cutOr_law {a0 : Option Addr} {len0 cap0 : Nat} {z0 : List ByteArray} {a1 : ByteArray} {a2 : Int} {W : World} (w0 : IsStrs W a0 len0 cap0 z0) (_w1 : a1.size ≤ maxLen) (_w2 : (Lit.int .i64 a2).wf = true) :
    Calls Try.prog 7 #[.slice a0 len0 cap0, .string a1, .int .i64 a2] W fun e w' => e = .returned (.bool true) ∧ Below W.heap.size W w' :=
  cutOr_walk a1 a2 w0
end Go.Proofs.Qxb6616314a
