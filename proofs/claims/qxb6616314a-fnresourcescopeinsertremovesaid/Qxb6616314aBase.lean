import Derived.Test.Qxb6616314aProg
import Derived.ProofKit
import Derived.WalkKit
import Derived.WalkSpells
import Derived.WalkLawsBesides
namespace Go.Proofs.Qxb6616314a
open Go.RowKit

/-- A slice of strings in memory: 'len' elements, the list 'ss'. -/
def IsStrs (w : World) (a : Option Addr) (len cap : Nat) (ss : List ByteArray) : Prop :=
  ss.length = len ∧ len ≤ cap ∧ cap ≤ 9223372036854775807 ∧
  (len = 0 ∨ ∃ b off, a = some ⟨b, off, none⟩ ∧ b < w.heap.size ∧ ∀ i, i < len → w.cell? ⟨b, off + i, none⟩ = some (.string (ss.getD i ByteArray.empty)))

theorem block_lt {w : World} {a : Addr} {v : Value} (h : w.cell? a = some v) : a.block < w.heap.size := by
  unfold World.cell? at h
  split at h
  · rename_i hb; exact (Array.getElem?_eq_some_iff.1 hb).1
  · cases h
theorem isStrs_nil (w : World) : IsStrs w none 0 0 [] := ⟨rfl, Nat.le_refl _, by omega, .inl rfl⟩
theorem isStrs_of {w : World} {a : Addr} {len cap : Nat} {ss : List ByteArray} (hl : len ≤ cap) (hm : cap ≤ maxLen) (hz : ss.length = cap) (hc : ∀ i, i < ss.length → w.cell? (a.add i) = some (.string (ss.getD i ByteArray.empty))) :
    IsStrs w (some a) len cap (ss.take len) := by
  unfold maxLen at hm
  refine ⟨by simp; omega, hl, hm, ?_⟩
  by_cases h0 : len = 0
  · exact .inl h0
  right
  obtain ⟨b, off, spot⟩ := a
  have hspot : spot = none := by simpa [Addr.add] using World.cell?_spot (hc 0 (by omega))
  subst hspot
  refine ⟨b, off, rfl, ?_, fun i hi => ?_⟩
  · have h1 := hc 0 (by omega)
    exact block_lt h1
  · have h1 := hc i (by omega)
    rw [WideShapes.add_plain] at h1
    rw [h1]
    simp [hi]

/-- the plain function: is s among them? -/
def hasS (ss : List ByteArray) (s : ByteArray) : Bool := ss.any (fun t => s.toList == t.toList)

theorem hasS_append (a b : List ByteArray) (s : ByteArray) : hasS (a ++ b) s = (hasS a s || hasS b s) := by
  simp [hasS]
theorem hasS_cons (a : ByteArray) (b : List ByteArray) (s : ByteArray) : hasS (a :: b) s = ((s.toList == a.toList) || hasS b s) := by
  simp [hasS]
theorem hasS_nil (s : ByteArray) : hasS [] s = false := rfl
theorem hasS_snoc {ss : List ByteArray} {s : ByteArray} {k : Nat} (h : k < ss.length) (h0 : hasS (ss.take k) s = false) (h1 : (s.toList == ss[k].toList) = false) : hasS (ss.take (k + 1)) s = false := by
  rw [List.take_succ_eq_append_getElem h, hasS_append, h0, hasS_cons, h1]; rfl
theorem hasS_hit {ss : List ByteArray} {s : ByteArray} {k : Nat} (h : k < ss.length) (h1 : (s.toList == ss[k].toList) = true) : hasS ss s = true := by
  unfold hasS
  rw [List.any_eq_true]
  exact ⟨ss[k], List.getElem_mem h, h1⟩

set_option maxHeartbeats 400000 in
theorem index_some (b off len cap : Nat) (ss : List ByteArray) (s : ByteArray) (w : World) (hl : ss.length = len) (hcap : len ≤ 9223372036854775807)
    (hc : ∀ i, i < len → w.cell? ⟨b, off + i, none⟩ = some (.string (ss.getD i ByteArray.empty))) :
    Calls Try.prog 28 #[.slice (some ⟨b, off, none⟩) len cap, .string s] w fun e w' => (∃ n : Int, e = .returned (.int .i64 n) ∧ decide (0 ≤ n) = hasS ss s) ∧ w' = w := by
  go_enter Try.func28, Try.ntmps28
  go_wp2
  go_loop [5, 8] (fun _ i => ∃ k : Nat, k ≤ len ∧ i = .int .i64 k ∧ hasS (ss.take k) s = false) (fun _ i => len - (intOf i).toNat)
  case atStart => exact ⟨0, Nat.zero_le _, rfl, rfl⟩
  case round =>
    obtain ⟨k, hk, rfl, hno⟩ := hrel
    have HN : Hid (hasS (ss.take k) s = false) := hno
    clear hno
    have hck : k < len → w.cell? ⟨b, off + k, none⟩ = some (.string (ss.getD k ByteArray.empty)) := fun h => hc k h
    go_wp2
    · go_ret
      refine ⟨⟨_, rfl, ?_⟩, rfl⟩
      rw [hasS_hit (k := k) (by omega) (by assumption)]
      simp
    · exact ⟨⟨k + 1, by omega, by go_num, hasS_snoc (by omega) HN.out (by assumption)⟩, by simp [intOf]; omega⟩
    · go_ret
      refine ⟨⟨_, rfl, ?_⟩, rfl⟩
      have e1 := HN.out
      rw [List.take_of_length_le (by omega)] at e1
      rw [e1]
      rfl

set_option maxHeartbeats 400000 in
theorem index_none (a : Option Addr) (cap : Nat) (s : ByteArray) (w : World) :
    Calls Try.prog 28 #[.slice a 0 cap, .string s] w fun e w' => e = .returned (.int .i64 (-1)) ∧ w' = w := by
  go_enter Try.func28, Try.ntmps28
  go_wp2
  refine wp_loop_rounds 1 ?_
  rw [rounds_succ]
  go_wp2
  go_ret
  exact ⟨rfl, rfl⟩

theorem index_any {a : Option Addr} {len cap : Nat} {ss : List ByteArray} (s : ByteArray) {w : World} (h : IsStrs w a len cap ss) :
    Calls Try.prog 28 #[.slice a len cap, .string s] w fun e w' => (∃ n : Int, e = .returned (.int .i64 n) ∧ decide (0 ≤ n) = hasS ss s) ∧ w' = w := by
  obtain ⟨h1, h2, h3, h0 | ⟨b, off, rfl, hb, hc⟩⟩ := h
  · subst h0
    have : ss = [] := List.length_eq_zero_iff.1 h1
    subst this
    exact (index_none a cap s w).mono fun e w' ⟨he, hw⟩ => ⟨⟨_, he, rfl⟩, hw⟩
  · exact index_some b off len cap ss s w h1 (by omega) hc

set_option maxHeartbeats 400000 in
theorem contains_any {a : Option Addr} {len cap : Nat} {ss : List ByteArray} (s : ByteArray) {w : World} (h : IsStrs w a len cap ss) :
    Calls Try.prog 27 #[.slice a len cap, .string s] w fun e w' => e = .returned (.bool (hasS ss s)) ∧ w' = w := by
  have H : Hid (IsStrs w a len cap ss) := h
  clear h
  go_enter Try.func27, Try.ntmps27
  go_wp2_with fail
  refine (index_any s H.out).mono ?_
  rintro e w' ⟨⟨n, rfl, hn⟩, rfl⟩
  have HN : Hid (decide (0 ≤ n) = hasS ss s) := hn
  clear hn
  go_wp2
  go_ret
  exact ⟨by rw [← HN.out]; rfl, rfl⟩

end Go.Proofs.Qxb6616314a
