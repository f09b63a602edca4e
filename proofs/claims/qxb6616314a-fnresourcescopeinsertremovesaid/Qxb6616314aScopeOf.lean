import Derived.Test.Qxb6616314aScope
namespace Go.Proofs.Qxb6616314a
open Go.RowKit

/-- the plain function: the scope of a role for one action of a resource of one permission entry. -/
def scpOf (pub same al ow : Bool) : Int := if pub = true then 2 else if same = true then scp al ow else 0

set_option maxHeartbeats 400000 in
theorem scopeOf_any (pub : Bool) (act : ByteArray) {a0 a1 : Option Addr} {l0 c0 l1 c1 : Nat} {s0 s1 : List ByteArray} (s asked : ByteArray) {w : World} (x : Bool) (hx : (asked == act) = x) (h0 : IsStrs w a0 l0 c0 s0) (h1 : IsStrs w a1 l1 c1 s1) :
    Calls Try.prog 11 #[.bool pub, .string act, .slice a0 l0 c0, .slice a1 l1 c1, .string s, .string asked] w fun e w' => e = .returned (.int .i64 (scpOf pub x (hasS s0 s) (hasS s1 s))) ∧ Below w.heap.size w w' := by
  have hmm := @run_makeMap Try.prog
  have hin := run_insert w act (.agg #[.slice a0 l0 c0, .slice a1 l1 c1])
  have hlk : ∀ o, (Instr.lookup 31 (.map (some w.heap.size)) (.string asked) false).run Try.prog ((w.alloc (.map #[{ key := .string act, val := .agg #[.slice a0 l0 c0, .slice a1 l1 c1], born := 0 }] 1)).alloc o) = .ok (if x = true then .agg #[.slice a0 l0 c0, .slice a1 l1 c1] else .agg #[.slice none 0 0, .slice none 0 0]) ((w.alloc (.map #[{ key := .string act, val := .agg #[.slice a0 l0 c0, .slice a1 l1 c1], born := 0 }] 1)).alloc o) := by
    intro o
    refine run_lookup _ _ 1 act asked _ ?_ x hx
    rw [(MapKept.heap_alloc _ o).2 _ (by simp)]
    exact (MapKept.heap_alloc w _).1
  have H0 : Hid (IsStrs w a0 l0 c0 s0) := h0
  have H1 : Hid (IsStrs w a1 l1 c1 s1) := h1
  clear h0 h1 hx
  cases pub
  · cases x
    · simp only [Bool.false_eq_true, if_false] at hlk
      go_enter Try.func11, Try.ntmps11
      go_wp2_with (first | (go_at_call 23; refine (permScope_any s (IsStrs.nil none 0 (by omega)) (IsStrs.nil none 0 (by omega))).mono ?_; rintro e w1 ⟨rfl, hb1⟩; have B1 : Hid (Below w.heap.size w w1) := (((Below.refl _ _).alloc (Nat.le_refl _) _).alloc (by simp) _).trans (hb1.mono (by simp; omega)); clear hb1) | go_in)
      go_ret
      exact ⟨rfl, B1.out⟩
    · simp only [if_true] at hlk
      go_enter Try.func11, Try.ntmps11
      go_wp2_with (first | (go_at_call 23; refine (permScope_any s (H0.out.below (((Below.refl _ _).alloc (Nat.le_refl _) _).alloc (by simp) _)) (H1.out.below (((Below.refl _ _).alloc (Nat.le_refl _) _).alloc (by simp) _))).mono ?_; rintro e w1 ⟨rfl, hb1⟩; have B1 : Hid (Below w.heap.size w w1) := (((Below.refl _ _).alloc (Nat.le_refl _) _).alloc (by simp) _).trans (hb1.mono (by simp; omega)); clear hb1) | go_in)
      go_ret
      exact ⟨rfl, B1.out⟩
  · go_enter Try.func11, Try.ntmps11
    go_wp2
    go_ret
    exact ⟨rfl, ((Below.refl _ _).alloc (Nat.le_refl _) _).alloc (by simp) _⟩
end Go.Proofs.Qxb6616314a
