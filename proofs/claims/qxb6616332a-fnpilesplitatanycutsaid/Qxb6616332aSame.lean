import Derived.Test.Qxb6616332aBase
namespace Go.Proofs.Qxb6616332a
open Go.RowKit

theorem below_drewN {B : Nat} {a w : World} (h : Below B a w) : ∀ n, Below B a (w.drewN n) := by
  intro n
  induction n with
  | zero => exact h
  | succ n ih => exact ih.drew

set_option maxHeartbeats 1000000 in
theorem same_yes {a a' : Option Addr} {n c n' c' : Nat} {zs : List Int} {w : World} (h : IsRow .i64 w a n c zs) (h' : IsRow .i64 w a' n' c' zs) :
    Calls Try.prog 14 #[.slice a n c, .slice a' n' c'] w fun e w' => e = .returned (.bool true) ∧ Below w.heap.size w w' := by
  have e1 : n' = n := by rw [← h.1, ← h'.1]
  subst e1
  have hcn : n' ≤ 9223372036854775807 := Nat.le_trans h.2.1 h.2.2.1
  have H : Hid (IsRow .i64 w a n' c zs) := h
  have H' : Hid (IsRow .i64 w a' n' c' zs) := h'
  clear h h'
  go_enter Try.func14, Try.ntmps14
  go_wp2
  go_loopw [5] (fun i wr => ∃ k : Nat, k ≤ n' ∧ i = .int .i64 k ∧ Below w.heap.size w wr) (fun i _ => n' - (intOf i).toNat)
  case atStart => exact ⟨0, Nat.zero_le _, rfl, Below.refl _ _⟩
  case round =>
    obtain ⟨k, hk, rfl, hnx⟩ := hrel
    have N : Hid (Below w.heap.size w wr) := hnx
    clear hnx
    by_cases hlt : k < n'
    · obtain ⟨b, off, rfl, hb, hc0⟩ := H.out.at hlt
      obtain ⟨b', off', rfl, hb', hc0'⟩ := H'.out.at hlt
      obtain ⟨t, ht⟩ : ∃ t, t = zs.getD k 0 := ⟨_, rfl⟩
      rw [← ht] at hc0 hc0'
      have hck : wr.cell? ⟨b, off + k, none⟩ = some (.int .i64 t) := (N.out.cell (p := ⟨b, off + k, none⟩) hb).trans hc0
      have hck' : wr.cell? ⟨b', off' + k, none⟩ = some (.int .i64 t) := (N.out.cell (p := ⟨b', off' + k, none⟩) hb').trans hc0'
      clear hc0 hc0' ht
      have hltI : (k : Int) < (n' : Int) := by omega
      have hk0 : (0 : Int) ≤ (k : Int) := by omega
      go_wp2
      go_quiet (fail)
      go_wp2
      go_roundw
      case rel => exact ⟨k + 1, by omega, by go_num, below_drewN N.out _⟩
      case measure => simp [intOf]; omega
    · go_wp2
      go_ret
      exact ⟨rfl, N.out⟩
end Go.Proofs.Qxb6616332a
