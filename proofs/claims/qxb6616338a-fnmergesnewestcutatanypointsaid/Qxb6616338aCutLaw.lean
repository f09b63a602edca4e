import Derived.Test.Qxb6616338aCut
namespace Go.Proofs.Qxb6616338a
open Go.RowKit

set_option maxRecDepth 100000 in
set_option maxHeartbeats 2000000 in
theorem cut_big {m : Bool} {a1 a2 a3 a4 : Option Addr} {len l2 l3 c1 c2 c3 l4 c4 : Nat} {s1 s4 : List ByteArray} {kk : Int} {W : World}
    (h1 : IsStrs W a1 len c1 s1) (h4 : IsStrs W a4 l4 c4 s4)
    (hbig : 65536 < len ∨ 65536 < l2 ∨ 65536 < l3 ∨ 65536 < l4) :
    Calls Try.prog 3 #[.bool m, .slice a1 len c1, .slice a2 l2 c2, .slice a3 l3 c3, .slice a4 l4 c4, .int .i64 kk] W fun e w' => e = .returned (.bool true) ∧ Below W.heap.size W w' := by
  have H1 : Hid (IsStrs W a1 len c1 s1) := h1
  have H4 : Hid (IsStrs W a4 l4 c4 s4) := h4
  clear h1 h4
  by_cases g1 : (65536 : Int) < (len : Int)
  · go_enter Try.func3, Try.ntmps3
    go_wp2_with fail
    refine (bytesCut_any m kk a2 a3 l2 c2 l3 c3 H1.out H4.out).mono ?_
    rintro e w' ⟨⟨x, rfl⟩, hw⟩
    obtain rfl : W = w' := hw.symm
    cases x
    · go_wp2
      go_ret
      exact ⟨rfl, Below.refl _ _⟩
    go_wp2
    go_ret
    exact ⟨rfl, Below.refl _ _⟩
  by_cases g2 : (65536 : Int) < (l2 : Int)
  · go_enter Try.func3, Try.ntmps3
    go_wp2_with fail
    refine (bytesCut_any m kk a2 a3 l2 c2 l3 c3 H1.out H4.out).mono ?_
    rintro e w' ⟨⟨x, rfl⟩, hw⟩
    obtain rfl : W = w' := hw.symm
    cases x
    · go_wp2
      go_ret
      exact ⟨rfl, Below.refl _ _⟩
    go_wp2
    go_ret
    exact ⟨rfl, Below.refl _ _⟩
  by_cases g3 : (65536 : Int) < (l3 : Int)
  · go_enter Try.func3, Try.ntmps3
    go_wp2_with fail
    refine (bytesCut_any m kk a2 a3 l2 c2 l3 c3 H1.out H4.out).mono ?_
    rintro e w' ⟨⟨x, rfl⟩, hw⟩
    obtain rfl : W = w' := hw.symm
    cases x
    · go_wp2
      go_ret
      exact ⟨rfl, Below.refl _ _⟩
    go_wp2
    go_ret
    exact ⟨rfl, Below.refl _ _⟩
  have g4 : (65536 : Int) < (l4 : Int) := by omega
  go_enter Try.func3, Try.ntmps3
  go_wp2_with fail
  refine (bytesCut_any m kk a2 a3 l2 c2 l3 c3 H1.out H4.out).mono ?_
  rintro e w' ⟨⟨x, rfl⟩, hw⟩
  obtain rfl : W = w' := hw.symm
  cases x
  · go_wp2
    go_ret
    exact ⟨rfl, Below.refl _ _⟩
  go_wp2
  go_ret
  exact ⟨rfl, Below.refl _ _⟩

set_option maxRecDepth 100000 in
set_option maxHeartbeats 2000000 in
theorem cut_part {m : Bool} {a1 a2 a3 a4 : Option Addr} {len l2 l3 c1 c2 c3 l4 c4 : Nat} {s1 s4 : List ByteArray} {kk : Int} {W : World}
    (h1 : IsStrs W a1 len c1 s1) (h4 : IsStrs W a4 l4 c4 s4)
    (g1 : len ≤ 65536) (g2 : l2 ≤ 65536) (g3 : l3 ≤ 65536) (g4 : l4 ≤ 65536) (hne : l2 ≠ len ∨ l3 ≠ len) :
    Calls Try.prog 3 #[.bool m, .slice a1 len c1, .slice a2 l2 c2, .slice a3 l3 c3, .slice a4 l4 c4, .int .i64 kk] W fun e w' => e = .returned (.bool true) ∧ Below W.heap.size W w' := by
  have H1 : Hid (IsStrs W a1 len c1 s1) := h1
  have H4 : Hid (IsStrs W a4 l4 c4 s4) := h4
  clear h1 h4
  go_enter Try.func3, Try.ntmps3
  go_wp2_with fail
  refine (bytesCut_any m kk a2 a3 l2 c2 l3 c3 H1.out H4.out).mono ?_
  rintro e w' ⟨⟨x, rfl⟩, hw⟩
  obtain rfl : W = w' := hw.symm
  cases x
  · go_wp2
    go_ret
    exact ⟨rfl, Below.refl _ _⟩
  go_upto_block 0 with fail
  go_cut [13, 14] (fun s13 _ wc => (∃ t : Int, s13 = .int .i64 t) ∧ W = wc)
  case first =>
    go_wp2
    go_loop [13, 14] (fun a i => ∃ (k : Nat) (t : Int), k ≤ len ∧ i = .int .i64 k ∧ a = .int .i64 t) (fun _ i => len - (intOf i).toNat)
    case atStart => exact ⟨0, _, Nat.zero_le _, rfl, rfl⟩
    case round =>
      obtain ⟨k, t, hk, rfl, rfl⟩ := hrel
      by_cases hlt : k < len
      · obtain ⟨b, off, rfl, hb, hck⟩ := H1.out.at hlt
        go_wp2
        · exact ⟨⟨k + 1, _, by omega, by go_num, rfl⟩, by simp [intOf]; omega⟩
        · go_meet
          case rel => exact ⟨⟨_, rfl⟩, rfl⟩
      · go_wp2
        go_meet
        case rel => exact ⟨⟨_, rfl⟩, rfl⟩
  case rest =>
    obtain ⟨⟨t1, rfl⟩, rfl⟩ := hcut
    go_upto_block 2 with fail
    go_cut [13, 15] (fun s13 _ wc => (∃ t : Int, s13 = .int .i64 t) ∧ W = wc)
    case first =>
      go_wp2
      go_loop [13, 15] (fun a i => ∃ (k : Nat) (t : Int), k ≤ l4 ∧ i = .int .i64 k ∧ a = .int .i64 t) (fun _ i => l4 - (intOf i).toNat)
      case atStart => exact ⟨0, _, Nat.zero_le _, rfl, rfl⟩
      case round =>
        obtain ⟨k, t, hk, rfl, rfl⟩ := hrel
        by_cases hlt : k < l4
        · obtain ⟨b, off, rfl, hb, hck⟩ := H4.out.at hlt
          go_wp2
          · exact ⟨⟨k + 1, _, by omega, by go_num, rfl⟩, by simp [intOf]; omega⟩
          · go_meet
            case rel => exact ⟨⟨_, rfl⟩, rfl⟩
        · go_wp2
          go_meet
          case rel => exact ⟨⟨_, rfl⟩, rfl⟩
    case rest =>
      obtain ⟨⟨t2, rfl⟩, rfl⟩ := hcut
      by_cases ht2 : (1048576 : Int) < t2
      · go_wp2
        go_ret
        exact ⟨rfl, Below.refl _ _⟩
      by_cases e2 : l2 = len
      · have e3 : l3 ≠ len := by omega
        have q2 : ((l2 : Int) != (len : Int)) = false := by rw [e2]; simp
        have q3 : ((l3 : Int) != (len : Int)) = true := by rw [bne_iff_ne]; omega
        clear e2 e3 hne
        go_wp2
        go_ret
        exact ⟨rfl, Below.refl _ _⟩
      · have q2 : ((l2 : Int) != (len : Int)) = true := by rw [bne_iff_ne]; omega
        clear e2 hne
        go_wp2
        go_ret
        exact ⟨rfl, Below.refl _ _⟩

theorem cut_law {a0 : Bool} {a1 a2 a3 a4 : Option Addr} {len1 cap1 len2 cap2 len3 cap3 len4 cap4 : Nat} {z1 z4 : List ByteArray} {z2 z3 : List Int} {a5 : Int} {W : World}
    (w1 : IsStrs W a1 len1 cap1 z1) (w2 : IsRow .u64 W a2 len2 cap2 z2) (w3 : IsRow .u8 W a3 len3 cap3 z3) (w4 : IsStrs W a4 len4 cap4 z4) (_w5 : (Lit.int .i64 a5).wf = true) :
    Calls Try.prog 3 #[.bool a0, .slice a1 len1 cap1, .slice a2 len2 cap2, .slice a3 len3 cap3, .slice a4 len4 cap4, .int .i64 a5] W fun e w' => e = .returned (.bool true) ∧ Below W.heap.size W w' := by
  by_cases hbig : 65536 < len1 ∨ 65536 < len2 ∨ 65536 < len3 ∨ 65536 < len4
  · exact cut_big w1 w4 hbig
  · by_cases hne : len2 ≠ len1 ∨ len3 ≠ len1
    · exact cut_part w1 w4 (by omega) (by omega) (by omega) (by omega) hne
    · obtain rfl : len2 = len1 := by omega
      obtain rfl : len3 = len2 := by omega
      exact cut_in w1 w2 w3 w4 (by omega) (by omega)
end Go.Proofs.Qxb6616338a
