import Derived.Test.Qxb6616314aMake
namespace Go.Proofs.Qxb6616314a
open Go.RowKit

/-- the plain function: v put in at place p. -/
def inserted (ss : List ByteArray) (p : Nat) (v : ByteArray) : List ByteArray := ss.take p ++ v :: ss.drop p

/-- what the second loop has gathered at j. -/
def insTo (ss : List ByteArray) (p j : Nat) (v : ByteArray) : List ByteArray := ss.take p ++ v :: (ss.take j).drop p
theorem insTo_start (ss : List ByteArray) (p : Nat) (v : ByteArray) : insTo ss p p v = ss.take p ++ [v] := by
  unfold insTo
  rw [List.drop_take_self]
theorem insTo_step {ss : List ByteArray} {p j : Nat} {v t : ByteArray} (hp : p ≤ j) (h : j < ss.length) (ht : t = ss.getD j ByteArray.empty) : insTo ss p (j + 1) v = insTo ss p j v ++ [t] := by
  unfold insTo
  rw [take_getD h, ← ht, List.drop_append_of_le_length (by simp; omega)]
  simp
theorem insTo_end {ss : List ByteArray} {p j : Nat} {v : ByteArray} (h : ss.length ≤ j) : insTo ss p j v = inserted ss p v := by
  unfold insTo inserted
  rw [List.take_of_length_le (l := ss) (i := j) h]

set_option maxHeartbeats 1000000 in
theorem insert_some (b off len cap p : Nat) (ss : List ByteArray) (s : ByteArray) (w : World) (hl : ss.length = len) (hcap : len ≤ 1048576) (hp : p ≤ len) (hb : b < w.heap.size)
    (hc : ∀ i, i < len → w.cell? ⟨b, off + i, none⟩ = some (.string (ss.getD i ByteArray.empty))) :
    Calls Try.prog 12 #[.slice (some ⟨b, off, none⟩) len cap, .int .i64 p, .string s] w fun e w' => (∃ a' n' c', e = .returned (.slice a' n' c') ∧ IsStrs w' a' n' c' (inserted ss p s)) ∧ Below w.heap.size w w' := by
  obtain ⟨i0, hi, hz0, hz1, hz2⟩ := info_parts Try.info9
  go_enter Try.func12, Try.ntmps12
  go_wp2_with (at_make; refine wpList_make_own _ rfl _ _ 22 rfl w.heap.size 9 i0 (.string ⟨#[]⟩) 1 Try.underlying22 hi hz0 hz1 _ _ _ (len + 1) rfl rfl (by omega) ?b2 ?b3 (Nat.le_refl _) ?_)
  case b2 => rw [hz2]; omega
  case b3 => unfold maxLen; omega
  intro w0 hown0 hgrow0
  go_wp2
  go_loopw [7, 8] (fun out i wr => ∃ k : Nat, k ≤ p ∧ i = .int .i64 k ∧ out = .slice (some ⟨w.heap.size, 0, none⟩) k (len + 1) ∧
      wr.ownsRow w.heap.size 9 1 (.slice (some ⟨w.heap.size, 0, none⟩) k (len + 1)) k ((ss.take k).map Value.string) ∧ Below w.heap.size w wr)
    (fun _ i _ => p - (intOf i).toNat)
  case atStart => exact ⟨0, Nat.zero_le _, rfl, rfl, hown0, (Below.refl _ _).grown hgrow0 (Nat.le_refl _) (fun k h => by cases h)⟩
  case round =>
    obtain ⟨k, hk, rfl, rfl, hown, hnx⟩ := hrel
    by_cases hlt : k < p
    · obtain ⟨t, ht⟩ : ∃ t, t = ss.getD k ByteArray.empty := ⟨_, rfl⟩
      have hck : wr.cell? ⟨b, off + k, none⟩ = some (.string t) := by rw [ht]; exact (hnx.cell (by exact hb)).trans (hc k (by omega))
      have HT : Hid (t = ss.getD k ByteArray.empty) := ht
      clear hc hown0 hgrow0 ht
      go_wp2_with (at_builtin; refine wpList_append_fits _ rfl _ _ 22 rfl w.heap.size 9 i0 1 Try.underlying22 hi hz1 w.heap.size k (len + 1) _ rfl (hown.alloc _) ⟨wr.heap.size, 0, none⟩ 1 1 [.string t] rfl rfl (cell_one_new _ _ _) (strs_oneCell [t]) (by omega) ?_; intro w1 hown1 hgrow1)
      go_roundw
      case rel => exact ⟨k + 1, by omega, by go_num, rfl, by rw [take_getD (by omega), ← HT.out, List.map_append]; exact hown1, (hnx.alloc hnx.size _).grown hgrow1 (by simp; have := hnx.size; omega) (fun k hk => by cases hk; exact Nat.le_refl _)⟩
      case measure => simp [intOf]; omega
    · obtain rfl : k = p := by omega
      clear hown0 hgrow0
      go_wp2_with (at_builtin; refine wpList_append_fits _ rfl _ _ 22 rfl w.heap.size 9 i0 1 Try.underlying22 hi hz1 w.heap.size k (len + 1) _ rfl (hown.alloc _) ⟨wr.heap.size, 0, none⟩ 1 1 [.string s] rfl rfl (cell_one_new _ _ _) (strs_oneCell [s]) (by omega) ?_; intro w1 hown1 hgrow1)
      have hnx1 : Below w.heap.size w w1 := (hnx.alloc hnx.size _).grown hgrow1 (by simp; have := hnx.size; omega) (fun k hk => by cases hk; exact Nat.le_refl _)
      have HO : Hid (w1.ownsRow w.heap.size 9 1 (.slice (some ⟨w.heap.size, 0, none⟩) (k + 1) (len + 1)) (k + 1) ((insTo ss k k s).map Value.string)) := by rw [insTo_start, List.map_append]; exact hown1
      clear hgrow1 hown1 hnx hown
      go_wp2
      go_loopw [7, 9] (fun out i wr => ∃ j : Nat, k ≤ j ∧ j ≤ len ∧ i = .int .i64 j ∧ out = .slice (some ⟨w.heap.size, 0, none⟩) (j + 1) (len + 1) ∧
          wr.ownsRow w.heap.size 9 1 (.slice (some ⟨w.heap.size, 0, none⟩) (j + 1) (len + 1)) (j + 1) ((insTo ss k j s).map Value.string) ∧ Below w.heap.size w wr)
        (fun _ i _ => len - (intOf i).toNat)
      case atStart => exact ⟨k, Nat.le_refl _, hp, rfl, rfl, HO.out, hnx1⟩
      case round =>
        obtain ⟨j, hkj, hj, rfl, rfl, hown, hnx⟩ := hrel
        clear HO hnx1
        by_cases hlt2 : j < len
        · obtain ⟨t, ht⟩ : ∃ t, t = ss.getD j ByteArray.empty := ⟨_, rfl⟩
          have hck : wr.cell? ⟨b, off + j, none⟩ = some (.string t) := by rw [ht]; exact (hnx.cell (by exact hb)).trans (hc j (by omega))
          have HT : Hid (t = ss.getD j ByteArray.empty) := ht
          clear hc ht
          go_wp2_with (at_builtin; refine wpList_append_fits _ rfl _ _ 22 rfl w.heap.size 9 i0 1 Try.underlying22 hi hz1 w.heap.size (j + 1) (len + 1) _ rfl (hown.alloc _) ⟨wr.heap.size, 0, none⟩ 1 1 [.string t] rfl rfl (cell_one_new _ _ _) (strs_oneCell [t]) (by omega) ?_; intro w1 hown1 hgrow1)
          go_roundw
          case rel => exact ⟨j + 1, by omega, by omega, by go_num, rfl, by rw [insTo_step hkj (by omega) HT.out, List.map_append]; exact hown1, (hnx.alloc hnx.size _).grown hgrow1 (by simp; have := hnx.size; omega) (fun k hk => by cases hk; exact Nat.le_refl _)⟩
          case measure => simp [intOf]; omega
        · go_wp2
          go_ret
          refine ⟨⟨_, _, _, rfl, ?_⟩, hnx⟩
          have e1 := isStrs_owns hown
          rw [insTo_end (by omega)] at e1
          exact e1

set_option maxHeartbeats 1000000 in
theorem insert_none (a : Option Addr) (cap : Nat) (s : ByteArray) (w : World) :
    Calls Try.prog 12 #[.slice a 0 cap, .int .i64 0, .string s] w fun e w' => (∃ a' n' c', e = .returned (.slice a' n' c') ∧ IsStrs w' a' n' c' [s]) ∧ Below w.heap.size w w' := by
  obtain ⟨i0, hi, hz0, hz1, hz2⟩ := info_parts Try.info9
  go_enter Try.func12, Try.ntmps12
  go_wp2_with (at_make; refine wpList_make_own _ rfl _ _ 22 rfl w.heap.size 9 i0 (.string ⟨#[]⟩) 1 Try.underlying22 hi hz0 hz1 _ _ _ 1 rfl rfl (by omega) ?b2 ?b3 (Nat.le_refl _) ?_)
  case b2 => rw [hz2]; omega
  case b3 => unfold maxLen; omega
  intro w0 hown0 hgrow0
  go_wp2
  refine wp_loop_rounds 1 ?_
  rw [rounds_succ]
  go_wp2_with (at_builtin; refine wpList_append_fits _ rfl _ _ 22 rfl w.heap.size 9 i0 1 Try.underlying22 hi hz1 w.heap.size 0 1 _ rfl (hown0.alloc _) ⟨w0.heap.size, 0, none⟩ 1 1 [.string s] rfl rfl (cell_one_new _ _ _) (strs_oneCell [s]) (by omega) ?_; intro w1 hown1 hgrow1)
  have hnx : Below w.heap.size w w0 := (Below.refl _ _).grown hgrow0 (Nat.le_refl _) (fun k h => by cases h)
  have hnx1 : Below w.heap.size w w1 := (hnx.alloc hnx.size _).grown hgrow1 (by simp; have := hnx.size; omega) (fun k hk => by cases hk; exact Nat.le_refl _)
  have HO : Hid (w1.ownsRow w.heap.size 9 1 (.slice (some ⟨w.heap.size, 0, none⟩) 1 1) 1 (([s] : List ByteArray).map Value.string)) := hown1
  clear hown1 hgrow1 hnx hown0 hgrow0
  go_wp2
  refine wp_loop_rounds 1 ?_
  rw [rounds_succ]
  go_wp2
  go_ret
  exact ⟨⟨_, _, _, rfl, isStrs_owns HO.out⟩, hnx1⟩

theorem insert_any {a : Option Addr} {len cap : Nat} {ss : List ByteArray} (p : Nat) (s : ByteArray) {w : World} (hlen : len ≤ 1048576) (hp : p ≤ len) (h : IsStrs w a len cap ss) :
    Calls Try.prog 12 #[.slice a len cap, .int .i64 p, .string s] w fun e w' => (∃ a' n' c', e = .returned (.slice a' n' c') ∧ IsStrs w' a' n' c' (inserted ss p s)) ∧ Below w.heap.size w w' := by
  obtain ⟨h1, h2, h3, h0 | ⟨b, off, rfl, hb, hc⟩⟩ := h
  · subst h0
    have : ss = [] := List.length_eq_zero_iff.1 h1
    subst this
    obtain rfl : p = 0 := by omega
    exact insert_none a cap s w
  · exact insert_some b off len cap p ss s w h1 hlen hp hb hc
end Go.Proofs.Qxb6616314a
