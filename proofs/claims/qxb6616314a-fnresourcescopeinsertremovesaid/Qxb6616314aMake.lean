import Derived.Test.Qxb6616314aStarts
namespace Go.Proofs.Qxb6616314a
open Go.RowKit

theorem Try.info9 : (Try.prog.info? 9).map (fun i => (i.zero, i.size, i.bytes)) = some (some (.string ⟨#[]⟩), 1, 16) := by kernel_rfl

theorem strs_oneCell (xs : List ByteArray) : ∀ u ∈ xs.map Value.string, u.oneCell' = true := by
  intro u hu
  obtain ⟨x, _, rfl⟩ := List.mem_map.1 hu
  rfl

theorem isStrs_owns {w : World} {base g n cap : Nat} {xs : List ByteArray} (h : w.ownsRow base 9 1 (.slice (some ⟨g, 0, none⟩) n cap) n (xs.map Value.string)) : IsStrs w (some ⟨g, 0, none⟩) n cap xs := by
  obtain ⟨h1, h2 | ⟨g', cap', cur, hv, hg, hh, hn, hm, hs, ht⟩⟩ := h
  · cases h2.1
  cases hv
  simp at h1
  unfold maxLen at hm
  refine ⟨h1, hn, hm, .inr ⟨g, 0, rfl, (Array.getElem?_eq_some_iff.1 hh).1, fun i hi => ?_⟩⟩
  have e1 : cur.toList[i]? = some (.string (xs.getD i ByteArray.empty)) := by
    have := congrArg (fun l => l[i]?) ht
    simp only [Nat.mul_one, List.getElem?_take, hi, if_true] at this
    rw [this]
    simp [h1, hi]
  simp [World.cell?, hh]
  simpa using e1

/-- the plain function: the list without s. -/
def without (ss : List ByteArray) (s : ByteArray) : List ByteArray := ss.filter (fun t => !(t.toList == s.toList))

theorem take_getD {ss : List ByteArray} {k : Nat} (h : k < ss.length) : ss.take (k + 1) = ss.take k ++ [ss.getD k ByteArray.empty] := by
  rw [List.take_succ_eq_append_getElem h]
  simp [h]
theorem without_yes {ss : List ByteArray} {s t : ByteArray} {k : Nat} (h : k < ss.length) (ht : t = ss.getD k ByteArray.empty) (h1 : (!t.toList == s.toList) = true) : without (ss.take (k + 1)) s = without (ss.take k) s ++ [t] := by
  rw [take_getD h, ← ht]
  unfold without
  rw [List.filter_append, List.filter_cons, h1]
  rfl
theorem without_no {ss : List ByteArray} {s t : ByteArray} {k : Nat} (h : k < ss.length) (ht : t = ss.getD k ByteArray.empty) (h1 : (!t.toList == s.toList) = false) : without (ss.take (k + 1)) s = without (ss.take k) s := by
  rw [take_getD h, ← ht]
  unfold without
  rw [List.filter_append, List.filter_cons, h1]
  simp
theorem without_le (ss : List ByteArray) (s : ByteArray) : (without ss s).length ≤ ss.length := List.length_filter_le _ _

set_option maxHeartbeats 1000000 in
theorem without_some (b off len cap : Nat) (ss : List ByteArray) (s : ByteArray) (w : World) (hl : ss.length = len) (hcap : len ≤ 1048576) (hb : b < w.heap.size)
    (hc : ∀ i, i < len → w.cell? ⟨b, off + i, none⟩ = some (.string (ss.getD i ByteArray.empty))) :
    Calls Try.prog 10 #[.slice (some ⟨b, off, none⟩) len cap, .string s] w fun e w' => (∃ a' n' c', e = .returned (.slice a' n' c') ∧ IsStrs w' a' n' c' (without ss s)) ∧ Below w.heap.size w w' := by
  obtain ⟨i0, hi, hz0, hz1, hz2⟩ := info_parts Try.info9
  go_enter Try.func10, Try.ntmps10
  go_wp2_with (at_make; refine wpList_make_own _ rfl _ _ 22 rfl w.heap.size 9 i0 (.string ⟨#[]⟩) 1 Try.underlying22 hi hz0 hz1 _ _ _ len rfl rfl (by omega) ?b2 ?b3 (Nat.le_refl _) ?_)
  case b2 => rw [hz2]; omega
  case b3 => unfold maxLen; omega
  intro w0 hown0 hgrow0
  go_wp2
  go_loopw [5, 6] (fun out i wr => ∃ k m : Nat, k ≤ len ∧ m ≤ k ∧ i = .int .i64 k ∧ out = .slice (some ⟨w.heap.size, 0, none⟩) m len ∧ m = (without (ss.take k) s).length ∧
      wr.ownsRow w.heap.size 9 1 (.slice (some ⟨w.heap.size, 0, none⟩) m len) m ((without (ss.take k) s).map Value.string) ∧ Below w.heap.size w wr)
    (fun _ i _ => len - (intOf i).toNat)
  case atStart => exact ⟨0, 0, Nat.zero_le _, Nat.zero_le _, rfl, rfl, rfl, hown0, (Below.refl _ _).grown hgrow0 (Nat.le_refl _) (fun k h => by cases h)⟩
  case round =>
    obtain ⟨k, m, hk, hmk, rfl, rfl, hm, hown, hnx⟩ := hrel
    have HM : Hid (m = (without (ss.take k) s).length) := hm
    clear hm
    by_cases hlt : k < len
    · obtain ⟨t, ht⟩ : ∃ t, t = ss.getD k ByteArray.empty := ⟨_, rfl⟩
      have hck : wr.cell? ⟨b, off + k, none⟩ = some (.string t) := by rw [ht]; exact (hnx.cell (by exact hb)).trans (hc k hlt)
      have HT : Hid (t = ss.getD k ByteArray.empty) := ht
      clear hc hown0 hgrow0 ht
      go_wp2_with (at_builtin; refine wpList_append_fits _ rfl _ _ 22 rfl w.heap.size 9 i0 1 Try.underlying22 hi hz1 w.heap.size m len _ rfl (hown.alloc _) ⟨wr.heap.size, 0, none⟩ 1 1 [.string t] rfl rfl (cell_one_new _ _ _) (strs_oneCell [t]) (by omega) ?_; intro w1 hown1 hgrow1)
      · go_roundw
        case rel => exact ⟨k + 1, m + 1, by omega, by omega, by go_num, rfl, by rw [without_yes (by omega) HT.out (by assumption), List.length_append, ← HM.out]; rfl, by rw [without_yes (by omega) HT.out (by assumption), List.map_append]; exact hown1, (hnx.alloc hnx.size _).grown hgrow1 (by simp; have := hnx.size; omega) (fun k hk => by cases hk; exact Nat.le_refl _)⟩
        case measure => simp [intOf]; omega
      · go_roundw
        case rel => exact ⟨k + 1, m, by omega, by omega, by go_num, rfl, by rw [without_no (by omega) HT.out (by assumption)]; exact HM.out, by rw [without_no (by omega) HT.out (by assumption)]; exact hown, hnx⟩
        case measure => simp [intOf]; omega
    · go_wp2
      go_ret
      refine ⟨⟨_, _, _, rfl, ?_⟩, hnx⟩
      have e1 := isStrs_owns hown
      rw [List.take_of_length_le (by omega)] at e1
      exact e1

set_option maxHeartbeats 1000000 in
theorem without_none (a : Option Addr) (cap : Nat) (s : ByteArray) (w : World) :
    Calls Try.prog 10 #[.slice a 0 cap, .string s] w fun e w' => (∃ a' n' c', e = .returned (.slice a' n' c') ∧ IsStrs w' a' n' c' []) ∧ Below w.heap.size w w' := by
  obtain ⟨i0, hi, hz0, hz1, hz2⟩ := info_parts Try.info9
  go_enter Try.func10, Try.ntmps10
  go_wp2_with (at_make; refine wpList_make_own _ rfl _ _ 22 rfl w.heap.size 9 i0 (.string ⟨#[]⟩) 1 Try.underlying22 hi hz0 hz1 _ _ _ 0 rfl rfl (by omega) ?b2 ?b3 (Nat.le_refl _) ?_)
  case b2 => rw [hz2]; omega
  case b3 => unfold maxLen; omega
  intro w0 hown0 hgrow0
  go_wp2
  refine wp_loop_rounds 1 ?_
  rw [rounds_succ]
  go_wp2
  go_ret
  exact ⟨⟨_, _, _, rfl, isStrs_owns (xs := []) hown0⟩, (Below.refl _ _).grown hgrow0 (Nat.le_refl _) (fun k h => by cases h)⟩

theorem without_any {a : Option Addr} {len cap : Nat} {ss : List ByteArray} (s : ByteArray) {w : World} (hlen : len ≤ 1048576) (h : IsStrs w a len cap ss) :
    Calls Try.prog 10 #[.slice a len cap, .string s] w fun e w' => (∃ a' n' c', e = .returned (.slice a' n' c') ∧ IsStrs w' a' n' c' (without ss s)) ∧ Below w.heap.size w w' := by
  obtain ⟨h1, h2, h3, h0 | ⟨b, off, rfl, hb, hc⟩⟩ := h
  · subst h0
    have : ss = [] := List.length_eq_zero_iff.1 h1
    subst this
    exact without_none a cap s w
  · exact without_some b off len cap ss s w h1 hlen hb hc
end Go.Proofs.Qxb6616314a
