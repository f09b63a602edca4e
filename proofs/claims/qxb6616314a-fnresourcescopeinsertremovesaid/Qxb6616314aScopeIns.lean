import Derived.Test.Qxb6616314aScopeInsB
namespace Go.Proofs.Qxb6616314a
open Go.RowKit

set_option maxRecDepth 100000 in
set_option maxHeartbeats 1000000 in
theorem scopeIns_law {a0 : Bool} {a1 : ByteArray} {a2 : Option Addr} {len2 cap2 : Nat} {z2 : List ByteArray} {a3 : Option Addr} {len3 cap3 : Nat} {z3 : List ByteArray} {a4 : ByteArray} {a5 a6 : Int} {W : World}
    (_w1 : a1.size ≤ maxLen) (w2 : IsStrs W a2 len2 cap2 z2) (w3 : IsStrs W a3 len3 cap3 z3) (_w4 : a4.size ≤ maxLen) (_w5 : (Lit.int .i64 a5).wf = true) (_w6 : (Lit.int .i64 a6).wf = true) :
    Calls Try.prog 3 #[.bool a0, .string a1, .slice a2 len2 cap2, .slice a3 len3 cap3, .string a4, .int .i64 a5, .int .i64 a6] W fun e w' => e = .returned (.bool true) ∧ Below W.heap.size W w' := by
  by_cases hc : (0 ≤ a5 ∧ a5 ≤ (len2 : Int)) ∧ 0 ≤ a6 ∧ a6 ≤ (len3 : Int)
  · obtain ⟨⟨h1, h2⟩, h3, h4⟩ := hc
    obtain ⟨k, rfl⟩ := Int.eq_ofNat_of_zero_le h1
    obtain ⟨j, rfl⟩ := Int.eq_ofNat_of_zero_le h3
    by_cases hk : (without z2 a4).length < k <;> by_cases hj : (without z3 a4).length < j
    · exact scopeIns_a a0 a1 a4 k j (by omega) (by omega) hk hj w2 w3
    · exact scopeIns_b a0 a1 a4 k j (by omega) (by omega) hk hj w2 w3
    · exact scopeIns_c a0 a1 a4 k j (by omega) (by omega) hk hj w2 w3
    · exact scopeIns_d a0 a1 a4 k j (by omega) (by omega) hk hj w2 w3
  have H2 : Hid (IsStrs W a2 len2 cap2 z2) := w2
  have H3 : Hid (IsStrs W a3 len3 cap3 z3) := w3
  clear w2 w3 _w1 _w4 _w5 _w6
  go_enter Try.func3, Try.ntmps3
  go_wp2_with fail
  refine (bytesRem_any a0 a1 a4 a5 a6 H2.out H3.out).mono ?_
  rintro e w' ⟨⟨x, rfl, hx⟩, hw⟩
  obtain rfl : W = w' := hw.symm
  cases x
  · go_wp2
    go_ret
    exact ⟨rfl, Below.refl _ _⟩
  have hl2 : len2 ≤ 1048576 := (hx rfl).1
  have hl3 : len3 ≤ 1048576 := (hx rfl).2
  clear hx
  by_cases hact : (1048576 : Int) < (a1.size : Int)
  · go_wp2_with fail
    go_ret
    exact ⟨rfl, Below.refl _ _⟩
  by_cases hrole : (1048576 : Int) < (a4.size : Int)
  · go_wp2_with fail
    go_ret
    exact ⟨rfl, Below.refl _ _⟩
  go_wp2_with fail
  refine (addList_any _ H2.out).mono ?_
  rintro e w' ⟨⟨n, rfl⟩, hw⟩
  obtain rfl : W = w' := hw.symm
  go_wp2_with fail
  · go_ret
    exact ⟨rfl, Below.refl _ _⟩
  refine (addList_any _ H3.out).mono ?_
  rintro e w' ⟨⟨n', rfl⟩, hw⟩
  obtain rfl : W = w' := hw.symm
  by_cases h1 : a5 < 0
  · go_wp2_with fail
    all_goals (go_ret; exact ⟨rfl, Below.refl _ _⟩)
  by_cases h2 : (len2 : Int) < a5
  · go_wp2_with fail
    all_goals (go_ret; exact ⟨rfl, Below.refl _ _⟩)
  by_cases h3 : a6 < 0
  · go_wp2_with fail
    all_goals (go_ret; exact ⟨rfl, Below.refl _ _⟩)
  have h4 : (len3 : Int) < a6 := by omega
  go_wp2_with fail
  all_goals (go_ret; exact ⟨rfl, Below.refl _ _⟩)
end Go.Proofs.Qxb6616314a
