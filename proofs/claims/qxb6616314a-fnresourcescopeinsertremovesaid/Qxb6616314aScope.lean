import Derived.Test.Qxb6616314aCutOr
namespace Go.Proofs.Qxb6616314a
open Go.RowKit

/-- the plain function: what a caller of a role that is (not) in the lists may take. -/
def scp (al ow : Bool) : Int := if al = true then 2 else if ow = true then 1 else 0

set_option maxHeartbeats 400000 in
theorem permScope_any {a0 a1 : Option Addr} {l0 c0 l1 c1 : Nat} {s0 s1 : List ByteArray} (s : ByteArray) {w : World} (h0 : IsStrs w a0 l0 c0 s0) (h1 : IsStrs w a1 l1 c1 s1) :
    Calls Try.prog 23 #[.agg #[.slice a0 l0 c0, .slice a1 l1 c1], .string s] w fun e w' => e = .returned (.int .i64 (scp (hasS s0 s) (hasS s1 s))) ∧ Below w.heap.size w w' := by
  have H0 : Hid (IsStrs w a0 l0 c0 s0) := h0
  have H1 : Hid (IsStrs w a1 l1 c1 s1) := h1
  clear h0 h1
  obtain ⟨x0, e0⟩ : ∃ x, hasS s0 s = x := ⟨_, rfl⟩
  obtain ⟨x1, e1⟩ : ∃ x, hasS s1 s = x := ⟨_, rfl⟩
  rw [e0, e1]
  have E0 : Hid (hasS s0 s = x0) := e0
  have E1 : Hid (hasS s1 s = x1) := e1
  clear e0 e1
  go_enter Try.func23, Try.ntmps23
  go_wp2_with fail
  refine (contains_any s (H0.out.below ((Below.refl _ _).alloc (Nat.le_refl _) _))).mono ?_
  rintro e w' ⟨rfl, hw⟩
  rw [E0.out]
  obtain rfl := hw.symm
  cases x0
  · go_wp2_with fail
    refine (contains_any s (H1.out.below ((Below.refl _ _).alloc (Nat.le_refl _) _))).mono ?_
    rintro e w' ⟨rfl, hw⟩
    rw [E1.out]
    obtain rfl := hw.symm
    cases x1
    · go_wp2
      go_ret
      exact ⟨rfl, (Below.refl _ _).alloc (Nat.le_refl _) _⟩
    · go_wp2
      go_ret
      exact ⟨rfl, (Below.refl _ _).alloc (Nat.le_refl _) _⟩
  · go_wp2
    go_ret
    exact ⟨rfl, (Below.refl _ _).alloc (Nat.le_refl _) _⟩

theorem und31 : Try.prog.underlying 31 = some (.map 37 51) := by kernel_rfl
theorem und37 : Try.prog.underlying 37 = some .string := by kernel_rfl

theorem isKeyS (s : ByteArray) : MapKept.IsKey .string (.string s) := trivial
theorem setLast (w : World) (o o' : Obj) : { w.alloc o with heap := (w.alloc o).heap.setIfInBounds w.heap.size o' } = w.alloc o' := by
  have e : (w.alloc o).heap = w.heap.push o := rfl
  have e' : (w.alloc o').heap = w.heap.push o' := rfl
  rw [e]
  have h : (w.heap.push o).setIfInBounds w.heap.size o' = w.heap.push o' := by
    apply Array.ext_getElem?
    intro i
    simp [Array.getElem?_setIfInBounds, Array.getElem?_push]
    by_cases hi : w.heap.size = i
    · subst hi; simp
    · simp [hi, Ne.symm hi]
  rw [h]
  rfl

theorem run_insert (w : World) (s : ByteArray) (v : Value) : (Instr.mapUpdate 31 (.map (some w.heap.size)) (.string s) v).run Try.prog (w.alloc (.map #[] 0)) = .ok () (w.alloc (.map #[{ key := .string s, val := v, born := 0 }] 1)) := by
  have hb := (MapKept.heap_alloc w (.map #[] 0)).1
  have h1 : Instr.findNow .string (.string s) (#[] : Array MapEntry).toList 0 = some none := rfl
  simp [Instr.mapUpdate, run_underlying und31, MapKept.run_getObj_map hb, MapKept.run_checkKey und37 (isKeyS s), MapKept.run_findKey und37 h1, MapKept.run_setObj_map _ hb, Result.andThen]
  exact setLast w _ _


theorem run_lookup (W : World) (r clock : Nat) (s t : ByteArray) (v : Value) (hb : W.heap[r]? = some (.map #[{ key := .string s, val := v, born := 0 }] clock)) (x : Bool) (hx : (t == s) = x) :
    (Instr.lookup 31 (.map (some r)) (.string t) false).run Try.prog W = .ok (if x = true then v else .agg #[.slice none 0 0, .slice none 0 0]) W := by
  subst hx
  by_cases h : (t == s) = true
  · have h1 : Instr.findNow .string (.string t) (#[{ key := .string s, val := v, born := 0 }] : Array MapEntry).toList 0 = some (some (0, v)) := by simp [Instr.findNow, Instr.sameNow, h]
    simp [Instr.lookup, run_underlying und31, MapKept.run_getObj_map hb, MapKept.run_checkKey und37 (isKeyS t), MapKept.run_findKey und37 h1, Result.andThen, h]
  · have h' : (t == s) = false := by simpa using h
    have h1 : Instr.findNow .string (.string t) (#[{ key := .string s, val := v, born := 0 }] : Array MapEntry).toList 0 = some none := by simp [Instr.findNow, Instr.sameNow, h']
    simp [Instr.lookup, run_underlying und31, MapKept.run_getObj_map hb, MapKept.run_checkKey und37 (isKeyS t), MapKept.run_findKey und37 h1, Result.andThen, h']

theorem run_lookup_nil (W : World) (t : ByteArray) :
    (Instr.lookup 31 (.map none) (.string t) false).run Try.prog W = .ok (.agg #[.slice none 0 0, .slice none 0 0]) W := by
  have h1 : Instr.findNow .string (.string t) (#[] : Array MapEntry).toList 0 = some none := rfl
  simp [Instr.lookup, run_underlying und31, MapKept.run_checkKey und37 (isKeyS t), MapKept.run_findKey und37 h1, Result.andThen]
end Go.Proofs.Qxb6616314a
