import Derived.Test.Qxb6616338aProg
import Derived.ProofKit
import Derived.WalkKit
import Derived.WalkSpells
import Derived.WalkLawsBesides
namespace Go.Proofs.Qxb6616338a
open Go.RowKit

theorem block_lt {w : World} {a : Addr} {v : Value} (h : w.cell? a = some v) : a.block < w.heap.size := by
  unfold World.cell? at h
  split at h
  · rename_i hb; exact (Array.getElem?_eq_some_iff.1 hb).1
  · cases h

/-- A slice of strings in memory: 'len' elements, the list 'ss'. -/
def IsStrs (w : World) (a : Option Addr) (len cap : Nat) (ss : List ByteArray) : Prop :=
  ss.length = len ∧ len ≤ cap ∧ cap ≤ 9223372036854775807 ∧ (a = none → cap = 0) ∧
  (len = 0 ∨ ∃ b off, a = some ⟨b, off, none⟩ ∧ b < w.heap.size ∧ ∀ i, i < len → w.cell? ⟨b, off + i, none⟩ = some (.string (ss.getD i ByteArray.empty)))
theorem isStrs_nil (w : World) : IsStrs w none 0 0 [] := ⟨rfl, Nat.le_refl _, by omega, fun _ => rfl, .inl rfl⟩
theorem isStrs_of {w : World} {a : Addr} {len cap : Nat} {ss : List ByteArray} (hl : len ≤ cap) (hm : cap ≤ maxLen) (hz : ss.length = cap) (hc : ∀ i, i < ss.length → w.cell? (a.add i) = some (.string (ss.getD i ByteArray.empty))) :
    IsStrs w (some a) len cap (ss.take len) := by
  unfold maxLen at hm
  refine ⟨by simp; omega, hl, hm, fun h => (by cases h), ?_⟩
  by_cases h0 : len = 0
  · exact .inl h0
  right
  obtain ⟨b, off, spot⟩ := a
  have hspot : spot = none := by simpa [Addr.add] using World.cell?_spot (hc 0 (by omega))
  subst hspot
  refine ⟨b, off, rfl, block_lt (hc 0 (by omega)), fun i hi => ?_⟩
  have h1 := hc i (by omega)
  rw [WideShapes.add_plain] at h1
  rw [h1]
  simp [hi]
theorem IsStrs.below {w w' : World} {a : Option Addr} {len cap : Nat} {ss : List ByteArray} (h : IsStrs w a len cap ss) (hb : Below w.heap.size w w') : IsStrs w' a len cap ss := by
  obtain ⟨h1, h2, h3, h4, h0 | ⟨b, off, rfl, hlt, hc⟩⟩ := h
  · exact ⟨h1, h2, h3, h4, .inl h0⟩
  · exact ⟨h1, h2, h3, h4, .inr ⟨b, off, rfl, Nat.lt_of_lt_of_le hlt hb.size, fun i hi => (hb.cell (p := ⟨b, off + i, none⟩) hlt).trans (hc i hi)⟩⟩
theorem IsStrs.at {w : World} {a : Option Addr} {len cap : Nat} {ss : List ByteArray} (h : IsStrs w a len cap ss) {k : Nat} (hk : k < len) :
    ∃ b off, a = some ⟨b, off, none⟩ ∧ b < w.heap.size ∧ w.cell? ⟨b, off + k, none⟩ = some (.string (ss.getD k ByteArray.empty)) := by
  obtain ⟨h1, h2, h3, h4, h0 | ⟨b, off, ha, hlt, hc⟩⟩ := h
  · omega
  · exact ⟨b, off, ha, hlt, hc k hk⟩

/-- A slice of integers in memory. -/
def IsRow (q : IntKind) (w : World) (a : Option Addr) (len cap : Nat) (zs : List Int) : Prop :=
  zs.length = len ∧ len ≤ cap ∧ cap ≤ 9223372036854775807 ∧ (∀ n ∈ zs, (Lit.int q n).wf = true) ∧
  (len = 0 ∨ ∃ b off, a = some ⟨b, off, none⟩ ∧ b < w.heap.size ∧ ∀ i, i < len → w.cell? ⟨b, off + i, none⟩ = some (.int q (zs.getD i 0)))
theorem isRow_nil (q : IntKind) (w : World) : IsRow q w none 0 0 [] := ⟨rfl, Nat.le_refl _, by omega, by simp, .inl rfl⟩
theorem isRow_of {q : IntKind} {w : World} {a : Addr} {len cap : Nat} {zs : List Int} (hl : len ≤ cap) (hm : cap ≤ maxLen) (hz : zs.length = cap) (hc : ∀ i, i < zs.length → w.cell? (a.add i) = some (.int q (zs.getD i 0))) (hw : ∀ n ∈ zs, (Lit.int q n).wf = true) :
    IsRow q w (some a) len cap (zs.take len) := by
  unfold maxLen at hm
  refine ⟨by simp; omega, hl, hm, fun n hn => hw n (List.mem_of_mem_take hn), ?_⟩
  by_cases h0 : len = 0
  · exact .inl h0
  right
  obtain ⟨b, off, spot⟩ := a
  have hspot : spot = none := by simpa [Addr.add] using World.cell?_spot (hc 0 (by omega))
  subst hspot
  refine ⟨b, off, rfl, block_lt (hc 0 (by omega)), fun i hi => ?_⟩
  have h1 := hc i (by omega)
  rw [WideShapes.add_plain] at h1
  rw [h1]
  simp [hi]
theorem IsRow.below {q : IntKind} {w w' : World} {a : Option Addr} {len cap : Nat} {zs : List Int} (h : IsRow q w a len cap zs) (hb : Below w.heap.size w w') : IsRow q w' a len cap zs := by
  obtain ⟨h1, h2, h3, h4, h0 | ⟨b, off, rfl, hlt, hc⟩⟩ := h
  · exact ⟨h1, h2, h3, h4, .inl h0⟩
  · exact ⟨h1, h2, h3, h4, .inr ⟨b, off, rfl, Nat.lt_of_lt_of_le hlt hb.size, fun i hi => (hb.cell (p := ⟨b, off + i, none⟩) hlt).trans (hc i hi)⟩⟩
theorem IsRow.at {q : IntKind} {w : World} {a : Option Addr} {len cap : Nat} {zs : List Int} (h : IsRow q w a len cap zs) {k : Nat} (hk : k < len) :
    ∃ b off, a = some ⟨b, off, none⟩ ∧ b < w.heap.size ∧ w.cell? ⟨b, off + k, none⟩ = some (.int q (zs.getD k 0)) := by
  obtain ⟨h1, h2, h3, h4, h0 | ⟨b, off, ha, hlt, hc⟩⟩ := h
  · omega
  · exact ⟨b, off, ha, hlt, hc k hk⟩

/-! THE PLAIN LAW -/
def full : ByteArray := ⟨#[102, 117, 108, 108]⟩
/-- no kind in the list is the full's -/
def noFull (ks : List ByteArray) : Bool := ks.all (fun k => !(k.toList == [102, 117, 108, 108]))
theorem noFull_append (a b : List ByteArray) : noFull (a ++ b) = (noFull a && noFull b) := by simp [noFull]
theorem noFull_cons (k : ByteArray) (b : List ByteArray) : noFull (k :: b) = (!(k.toList == [102, 117, 108, 108]) && noFull b) := by simp [noFull]
theorem noFull_nil : noFull [] = true := rfl
/-- merges into the newest: the plain answer -/
def newest (m : Bool) (ks : List ByteArray) : Bool := m && (decide (1 ≤ ks.length) && noFull (ks.drop 1))

theorem newest_cut (m : Bool) (ks : List ByteArray) {k : Nat} (h1 : 1 ≤ k) (h2 : k ≤ ks.length) : newest m ks = (newest m (ks.take k) && newest m (ks.drop (k - 1))) := by
  obtain ⟨j, rfl⟩ : ∃ j, k = j + 1 := ⟨k - 1, by omega⟩
  cases ks with
  | nil => simp at h2
  | cons x r =>
    have e : noFull r = (noFull (r.take j) && noFull (r.drop j)) := by rw [← noFull_append, List.take_append_drop]
    have e2 : ((x :: r).drop j).drop 1 = r.drop j := by rw [List.drop_drop]; rfl
    have hl : 1 ≤ ((x :: r).drop j).length := by simp at h2 ⊢; omega
    unfold newest
    rw [show j + 1 - 1 = j from rfl, e2]
    cases m
    · rfl
    · simp only [List.take_succ_cons, List.drop_one, List.tail_cons, Bool.true_and, decide_eq_true hl, List.length_cons, e]
      simp

theorem newest_insert0 (m : Bool) (ks : List ByteArray) (x : ByteArray) : newest m (x :: ks) = (m && noFull ks) := by
  simp [newest]
theorem newest_insert {m : Bool} {ks : List ByteArray} {x : ByteArray} {i : Nat} (h0 : 0 < i) (h1 : i ≤ ks.length) : newest m (ks.take i ++ x :: ks.drop i) = (newest m ks && !(x.toList == [102, 117, 108, 108])) := by
  obtain ⟨j, rfl⟩ : ∃ j, i = j + 1 := ⟨i - 1, by omega⟩
  cases ks with
  | nil => simp at h1
  | cons y r =>
    have e : noFull r = (noFull (r.take j) && noFull (r.drop j)) := by rw [← noFull_append, List.take_append_drop]
    unfold newest
    simp only [List.take_succ_cons, List.cons_append, List.drop_succ_cons, List.drop_zero, List.length_cons, noFull_append, noFull_cons, e]
    cases m <;> cases noFull (r.take j) <;> cases noFull (r.drop j) <;> cases (x.toList == [102, 117, 108, 108]) <;> simp

theorem noFull_step {ks : List ByteArray} {f k : Nat} {t : ByteArray} (hf : f ≤ k) (h : k < ks.length) (ht : t = ks.getD k ByteArray.empty) (hd : noFull ((ks.take k).drop f) = true) (hn : (t.toList == [102, 117, 108, 108]) = false) : noFull ((ks.take (k + 1)).drop f) = true := by
  have e : ks.take (k + 1) = ks.take k ++ [t] := by
    rw [List.take_succ_eq_append_getElem h, ht]; simp [h]
  rw [e, List.drop_append_of_le_length (by simp; omega), noFull_append, hd, noFull_cons, hn]
  rfl
theorem noFull_hit {ks : List ByteArray} {f k : Nat} {t : ByteArray} (hf : f ≤ k) (h : k < ks.length) (ht : t = ks.getD k ByteArray.empty) (hn : (t.toList == [102, 117, 108, 108]) = true) : noFull (ks.drop f) = false := by
  unfold noFull
  rw [List.all_eq_false]
  refine ⟨t, ?_, by simp [hn]⟩
  rw [ht, show ks.getD k ByteArray.empty = ks[k] from by simp [h]]
  have e : ks[k] = (ks.drop f)[k - f]'(by simp; omega) := by
    rw [List.getElem_drop]
    congr 1
    omega
  rw [e]
  exact List.getElem_mem _
theorem noFull_end {ks : List ByteArray} {f k : Nat} (h : ks.length ≤ k) (hd : noFull ((ks.take k).drop f) = true) : noFull (ks.drop f) = true := by
  rwa [List.take_of_length_le h] at hd

set_option maxHeartbeats 1000000 in
/-- zzNoFullFrom(kinds, from), from ≤ len or beyond. -/
theorem noFull_any {a : Option Addr} {len cap : Nat} {ss : List ByteArray} (f : Nat) (hf : f ≤ 1) {w : World} (h : IsStrs w a len cap ss) :
    Calls Try.prog 8 #[.slice a len cap, .int .i64 f] w fun e w' => e = .returned (.bool (noFull (ss.drop f))) ∧ w' = w := by
  have hcap : len ≤ 9223372036854775807 := Nat.le_trans h.2.1 h.2.2.1
  have hsl := h.1
  have H : Hid (IsStrs w a len cap ss) := h
  clear h
  obtain ⟨v, hv⟩ : ∃ v, v = noFull (ss.drop f) := ⟨_, rfl⟩
  rw [← hv]
  have HV : Hid (v = noFull (ss.drop f)) := hv
  clear hv
  go_enter Try.func8, Try.ntmps8
  go_wp2
  go_loop [5] (fun i => ∃ k : Nat, f ≤ k ∧ (k ≤ len ∨ k = f) ∧ i = .int .i64 k ∧ noFull ((ss.take k).drop f) = true) (fun i => len - (intOf i).toNat)
  case atStart => exact ⟨f, Nat.le_refl _, .inr rfl, rfl, by rw [List.drop_take_self]; rfl⟩
  case round =>
    obtain ⟨k, hk0, hk, rfl, hno⟩ := hrel
    have HN : Hid (noFull ((ss.take k).drop f) = true) := hno
    clear hno
    have hkb : k ≤ 9223372036854775807 := by omega
    by_cases hlt : k < len
    · obtain ⟨b, off, rfl, hb, hc0⟩ := H.out.at hlt
      obtain ⟨t, ht⟩ : ∃ t, t = ss.getD k ByteArray.empty := ⟨_, rfl⟩
      rw [← ht] at hc0
      have HT : Hid (t = ss.getD k ByteArray.empty) := ht
      clear ht
      go_wp2
      · go_ret
        exact ⟨by rw [HV.out, noFull_hit hk0 (by omega) HT.out (by assumption)]; rfl, rfl⟩
      · exact ⟨⟨k + 1, by omega, .inl (by omega), by go_num, noFull_step hk0 (by omega) HT.out HN.out (by assumption)⟩, by simp [intOf]; omega⟩
    · go_wp2
      go_ret
      exact ⟨by rw [HV.out, noFull_end (by omega) HN.out]; rfl, rfl⟩

/-- A slice of points in memory: of each its kind. -/
def IsPts (w : World) (a : Option Addr) (len cap : Nat) (ks : List ByteArray) : Prop :=
  ks.length = len ∧ len ≤ cap ∧ len ≤ 9223372036854775807 ∧
  (len = 0 ∨ ∃ b off, a = some ⟨b, off, none⟩ ∧ b < w.heap.size ∧ ∀ i, i < len → w.cell? ⟨b, off + i * 6 + 4, none⟩ = some (.string (ks.getD i ByteArray.empty)))
theorem IsPts.below {w w' : World} {a : Option Addr} {len cap : Nat} {ss : List ByteArray} (h : IsPts w a len cap ss) (hb : Below w.heap.size w w') : IsPts w' a len cap ss := by
  obtain ⟨h1, h2, h3, h0 | ⟨b, off, rfl, hlt, hc⟩⟩ := h
  · exact ⟨h1, h2, h3, .inl h0⟩
  · exact ⟨h1, h2, h3, .inr ⟨b, off, rfl, Nat.lt_of_lt_of_le hlt hb.size, fun i hi => (hb.cell (p := ⟨b, off + i * 6 + 4, none⟩) hlt).trans (hc i hi)⟩⟩
theorem IsPts.at {w : World} {a : Option Addr} {len cap : Nat} {ss : List ByteArray} (h : IsPts w a len cap ss) {k : Nat} (hk : k < len) :
    ∃ b off, a = some ⟨b, off, none⟩ ∧ w.cell? ⟨b, off + k * 6 + 4, none⟩ = some (.string (ss.getD k ByteArray.empty)) := by
  obtain ⟨h1, h2, h3, h0 | ⟨b, off, ha, hlt, hc⟩⟩ := h
  · omega
  · exact ⟨b, off, ha, hc k hk⟩

set_option maxHeartbeats 1000000 in
/-- chainEnd: it comes to the length just if no point behind the first is a full. -/
theorem chainEnd_any {a : Option Addr} {len cap : Nat} {ss : List ByteArray} {w : World} (h : IsPts w a len cap ss) :
    Calls Try.prog 12 #[.slice a len cap] w fun e w' => (∃ n : Int, e = .returned (.int .i64 n) ∧ (n == (len : Int)) = (decide (1 ≤ ss.length) && noFull (ss.drop 1))) ∧ w' = w := by
  have hsl := h.1
  have hcap := h.2.2.1
  have H : Hid (IsPts w a len cap ss) := h
  clear h
  obtain ⟨v, hv⟩ : ∃ v, v = (decide (1 ≤ ss.length) && noFull (ss.drop 1)) := ⟨_, rfl⟩
  rw [← hv]
  have HV : Hid (v = (decide (1 ≤ ss.length) && noFull (ss.drop 1))) := hv
  clear hv
  go_enter Try.func12, Try.ntmps12
  go_wp2
  go_loop [3] (fun i => ∃ k : Nat, 1 ≤ k ∧ (k ≤ len ∨ k = 1) ∧ i = .int .i64 k ∧ noFull ((ss.take k).drop 1) = true) (fun i => len - (intOf i).toNat)
  case atStart => exact ⟨1, Nat.le_refl _, .inr rfl, rfl, by rw [List.drop_take_self]; rfl⟩
  case round =>
    obtain ⟨k, hk0, hk, rfl, hno⟩ := hrel
    have HN : Hid (noFull ((ss.take k).drop 1) = true) := hno
    clear hno
    have hkb : k ≤ 9223372036854775807 := by omega
    by_cases hlt : k < len
    · obtain ⟨b, off, rfl, hc0⟩ := H.out.at hlt
      obtain ⟨t, ht⟩ : ∃ t, t = ss.getD k ByteArray.empty := ⟨_, rfl⟩
      rw [← ht] at hc0
      have HT : Hid (t = ss.getD k ByteArray.empty) := ht
      clear ht
      cases hq : (t.toList == [102, 117, 108, 108])
      · have HQ : Hid ((t.toList == [102, 117, 108, 108]) = false) := hq
        go_wp2
        exact ⟨⟨k + 1, by omega, .inl (by omega), by go_num, noFull_step hk0 (by omega) HT.out HN.out HQ.out⟩, by simp [intOf]; omega⟩
      · have HQ : Hid ((t.toList == [102, 117, 108, 108]) = true) := hq
        go_wp2
        go_ret
        refine ⟨⟨_, rfl, ?_⟩, rfl⟩
        have e1 := noFull_hit hk0 (show k < ss.length by omega) HT.out HQ.out
        rw [HV.out, e1, Bool.and_false, beq_eq_false_iff_ne]
        omega
    · go_wp2
      go_ret
      refine ⟨⟨_, rfl, ?_⟩, rfl⟩
      have e1 := noFull_end (show ss.length ≤ k by omega) HN.out
      rw [HV.out, e1, Bool.and_true]
      by_cases h1 : 1 ≤ ss.length
      · rw [decide_eq_true h1, beq_iff_eq]
        omega
      · rw [decide_eq_false h1, beq_eq_false_iff_ne]
        omega
end Go.Proofs.Qxb6616338a
