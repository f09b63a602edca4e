import Derived.Test.Qxb6616332aProg
import Derived.Test.Qxb6616332aPlain
import Derived.ProofKit
import Derived.WalkKit
import Derived.WalkSpells
import Derived.WalkLawsBesides
import Derived.Laws.CopyOwn
import Derived.Deep.QuietTactic
import Derived.BigQuiet
namespace Go.Proofs.Qxb6616332a
open Go.RowKit

theorem block_lt {w : World} {a : Addr} {v : Value} (h : w.cell? a = some v) : a.block < w.heap.size := by
  unfold World.cell? at h
  split at h
  · rename_i hb; exact (Array.getElem?_eq_some_iff.1 hb).1
  · cases h

/-- A slice of integers in memory: 'len' elements, the list 'zs'. -/
def IsRow (q : IntKind) (w : World) (a : Option Addr) (len cap : Nat) (zs : List Int) : Prop :=
  zs.length = len ∧ len ≤ cap ∧ cap ≤ 9223372036854775807 ∧ (∀ n ∈ zs, (Lit.int q n).wf = true) ∧ (a = none → cap = 0) ∧
  (len = 0 ∨ ∃ b off, a = some ⟨b, off, none⟩ ∧ b < w.heap.size ∧ ∀ i, i < len → w.cell? ⟨b, off + i, none⟩ = some (.int q (zs.getD i 0)))

theorem isRow_nil (q : IntKind) (w : World) : IsRow q w none 0 0 [] := ⟨rfl, Nat.le_refl _, by omega, by simp, fun _ => rfl, .inl rfl⟩
theorem isRow_of {q : IntKind} {w : World} {a : Addr} {len cap : Nat} {zs : List Int} (hl : len ≤ cap) (hm : cap ≤ maxLen) (hz : zs.length = cap) (hc : ∀ i, i < zs.length → w.cell? (a.add i) = some (.int q (zs.getD i 0))) (hw : ∀ n ∈ zs, (Lit.int q n).wf = true) :
    IsRow q w (some a) len cap (zs.take len) := by
  unfold maxLen at hm
  refine ⟨by simp; omega, hl, hm, fun n hn => hw n (List.mem_of_mem_take hn), fun h => (by cases h), ?_⟩
  by_cases h0 : len = 0
  · exact .inl h0
  right
  obtain ⟨b, off, spot⟩ := a
  have hspot : spot = none := by simpa [Addr.add] using World.cell?_spot (hc 0 (by omega))
  subst hspot
  refine ⟨b, off, rfl, block_lt (hc 0 (by omega)), fun i hi => ?_⟩
  have h1 := hc i (by omega)
  rw [WideShapes.add_plain] at h1
  rw [h1]
  simp [hi]

theorem IsRow.below {q : IntKind} {w w' : World} {a : Option Addr} {len cap : Nat} {zs : List Int} (h : IsRow q w a len cap zs) (hb : Below w.heap.size w w') : IsRow q w' a len cap zs := by
  obtain ⟨h1, h2, h3, h4, h5, h0 | ⟨b, off, rfl, hlt, hc⟩⟩ := h
  · exact ⟨h1, h2, h3, h4, h5, .inl h0⟩
  · exact ⟨h1, h2, h3, h4, h5, .inr ⟨b, off, rfl, Nat.lt_of_lt_of_le hlt hb.size, fun i hi => (hb.cell (p := ⟨b, off + i, none⟩) hlt).trans (hc i hi)⟩⟩
theorem IsRow.at {q : IntKind} {w : World} {a : Option Addr} {len cap : Nat} {zs : List Int} (h : IsRow q w a len cap zs) {k : Nat} (hk : k < len) :
    ∃ b off, a = some ⟨b, off, none⟩ ∧ b < w.heap.size ∧ w.cell? ⟨b, off + k, none⟩ = some (.int q (zs.getD k 0)) := by
  obtain ⟨h1, h2, h3, h4, h5, h0 | ⟨b, off, ha, hlt, hc⟩⟩ := h
  · omega
  · exact ⟨b, off, ha, hlt, hc k hk⟩

/-- Block b is the row xs, none of its cells frozen. -/
def RowL (w : World) (b : Nat) (t : TypeId) (xs : List Value) : Prop := w.heap[b]? = some (.cells xs.toArray t (0, 0))
theorem RowL.cell {w : World} {b : Nat} {t : TypeId} {xs : List Value} (h : RowL w b t xs) {i : Nat} {v : Value} (hi : xs[i]? = some v) : w.cell? ⟨b, i, none⟩ = some v := by
  unfold RowL at h
  simp [World.cell?, h, hi]
theorem RowL.frozen {w : World} {b : Nat} {t : TypeId} {xs : List Value} (h : RowL w b t xs) (i : Nat) : w.frozen? ⟨b, i, none⟩ = false := by
  unfold RowL at h
  simp [World.frozen?, h]
theorem RowL.lt {w : World} {b : Nat} {t : TypeId} {xs : List Value} (h : RowL w b t xs) : b < w.heap.size := (Array.getElem?_eq_some_iff.1 h).1
theorem RowL.below {w w' : World} {b B : Nat} {t : TypeId} {xs : List Value} (h : RowL w b t xs) (hb : Below B w w') (hB : b < B) : RowL w' b t xs := (hb.block b hB).trans h
theorem RowL.set {w : World} {b : Nat} {t : TypeId} {xs : List Value} (h : RowL w b t xs) (i : Nat) (v : Value) : RowL (w.setCell ⟨b, i, none⟩ v) b t (xs.set i v) := by
  unfold RowL at h ⊢
  simp [World.setCell, Array.getElem?_modify, h]
theorem RowL.setOther {w : World} {b : Nat} {t : TypeId} {xs : List Value} (h : RowL w b t xs) {a : Addr} (ha : b ≠ a.block) (v : Value) : RowL (w.setCell a v) b t xs := (Below.heap_setCell w a v b ha).trans h
theorem RowL.alloc {w : World} {b : Nat} {t : TypeId} {xs : List Value} (h : RowL w b t xs) (o : Obj) : RowL (w.alloc o) b t xs := (Below.heap_alloc w o b h.lt).trans h
theorem RowL.drew {w : World} {b : Nat} {t : TypeId} {xs : List Value} (h : RowL w b t xs) : RowL w.drew b t xs := h
theorem RowL.ne {w : World} {b c : Nat} {t u : TypeId} {xs ys : List Value} (h : RowL w b t xs) (k : RowL w c u ys) (htu : t ≠ u) : b ≠ c := by
  rintro rfl
  unfold RowL at h k
  rw [h] at k
  simp at k
  exact htu k.2

theorem rowL_of_owns {w : World} {base g n cap : Nat} {t : TypeId} {xs : List Value} (h : w.ownsRow base t 1 (.slice (some ⟨g, 0, none⟩) n cap) n xs) (hc : cap = n) : RowL w g t xs := by
  obtain ⟨h1, h2 | ⟨g', cap', cur, hv, hg, hh, hn, hm, hs, ht⟩⟩ := h
  · cases h2.1
  cases hv
  unfold RowL
  rw [hh]
  have e : cur.toList = xs := by
    rw [← ht, List.take_of_length_le (by simp; omega)]
  rw [← e]

/-- the ints as cells -/
def ints (q : IntKind) (zs : List Int) : List Value := zs.map (Value.int q)
theorem ints_get {q : IntKind} {zs : List Int} {i : Nat} (h : i < zs.length) : (ints q zs)[i]? = some (.int q (zs.getD i 0)) := by
  simp [ints, h]
theorem ints_set (q : IntKind) (zs : List Int) (i : Nat) (x : Int) : (ints q zs).set i (.int q x) = ints q (zs.set i x) := by
  simp [ints, List.map_set]
theorem ints_length (q : IntKind) (zs : List Int) : (ints q zs).length = zs.length := by simp [ints]

/-- A slice of the call's own (from block B on), whole: the list 'zs'; of an empty one nothing is said but its length. -/
def OwnI (w : World) (B : Nat) (a : Option Addr) (n : Nat) (zs : List Int) : Prop :=
  zs.length = n ∧ n ≤ 32768 ∧ (∀ x ∈ zs, (Lit.int .i64 x).wf = true) ∧ (n = 0 ∨ ∃ g, a = some ⟨g, 0, none⟩ ∧ B ≤ g ∧ RowL w g 2 (ints .i64 zs))
theorem OwnI.isRow {w : World} {B : Nat} {a : Option Addr} {n : Nat} {zs : List Int} (h : OwnI w B a n zs) : IsRow .i64 w a n n zs := by
  obtain ⟨h1, h2, h3, h0 | ⟨g, rfl, hB, hr⟩⟩ := h
  · exact ⟨h1, Nat.le_refl _, by omega, h3, fun _ => h0, .inl h0⟩
  · exact ⟨h1, Nat.le_refl _, by omega, h3, fun h => (by cases h), .inr ⟨g, 0, rfl, hr.lt, fun i hi => by rw [Nat.zero_add]; exact hr.cell (ints_get (by omega))⟩⟩
theorem OwnI.below {w w' : World} {B B' : Nat} {a : Option Addr} {n : Nat} {zs : List Int} (h : OwnI w B a n zs) (hb : Below B' w w') (hB : w.heap.size ≤ B') : OwnI w' B a n zs := by
  obtain ⟨h1, h2, h3, h0 | ⟨g, rfl, hB', hr⟩⟩ := h
  · exact ⟨h1, h2, h3, .inl h0⟩
  · exact ⟨h1, h2, h3, .inr ⟨g, rfl, hB', hr.below hb (Nat.lt_of_lt_of_le hr.lt hB)⟩⟩

theorem Try.info2 : (Try.prog.info? 2).map (fun i => (i.zero, i.size, i.bytes)) = some (some (.int .i64 0), 1, 8) := by kernel_rfl
theorem Try.info21 : (Try.prog.info? 21).map (fun i => (i.zero, i.size, i.bytes)) = some (some (.int .i32 0), 1, 4) := by kernel_rfl
theorem Try.info4 : (Try.prog.info? 4).map (fun i => (i.zero, i.size, i.bytes)) = some (some (.bool false), 1, 1) := by kernel_rfl

/-- what the clone's loop has written at k. -/
def part (zs : List Int) (k n : Nat) : List Value := ints .i64 (zs.take k) ++ List.replicate (n - k) (.int .i64 0)
theorem part_step {zs : List Int} {k n : Nat} (hl : zs.length = n) (hk : k < n) {x : Int} (hx : x = zs.getD k 0) : (part zs k n).set k (.int .i64 x) = part zs (k + 1) n := by
  unfold part
  have e1 : (ints .i64 (zs.take k)).length = k := by rw [ints_length, List.length_take]; omega
  rw [List.set_append_right (h := by omega), e1, Nat.sub_self, take_snoc (by omega), ← hx]
  rw [show n - k = (n - (k + 1)) + 1 from by omega, List.replicate_succ]
  simp [ints]
theorem part_start (zs : List Int) (n : Nat) : part zs 0 n = List.replicate n (.int .i64 0) := by simp [part, ints]
theorem part_end {zs : List Int} {n : Nat} (hl : zs.length = n) : part zs n n = ints .i64 zs := by
  unfold part
  rw [List.take_of_length_le (by omega)]
  simp

theorem made_one (z : Value) (n : Nat) : (madeCells #[z] n).toList = List.replicate n z := by
  rw [List.eq_replicate_iff]
  refine ⟨by simp [madeCells], fun b hb => ?_⟩
  simp [madeCells, Nat.mod_one] at hb
  exact hb.2.symm

set_option maxHeartbeats 1000000 in
/-- cloneI64 of a slice that is not nil. -/
theorem clone_some (x : Addr) (len cap : Nat) (zs : List Int) (w : World) (hlen : len ≤ 32768) (h : IsRow .i64 w (some x) len cap zs) :
    Calls Try.prog 9 #[.slice (some x) len cap] w fun e w' => (∃ a', e = .returned (.slice a' len len) ∧ OwnI w' w.heap.size a' len zs) ∧ Below w.heap.size w w' := by
  obtain ⟨i0, hi, hz0, hz1, hz2⟩ := info_parts Try.info2
  have hzl := h.1
  have H : Hid (IsRow .i64 w (some x) len cap zs) := h
  clear h
  have hnil := fun W => Lib.run_eql_slice_nil (P := Try.prog) W 22 2 (some x) len cap 0 0 Try.underlying22
  go_enter Try.func9, Try.ntmps9
  go_wp2_with (at_make; refine wpList_make_full _ rfl _ _ 22 rfl w.heap.size 2 i0 (.int .i64 0) 1 Try.underlying22 hi hz0 hz1 _ _ _ _ len rfl rfl (by omega) (by omega) ?b2 ?b3 (Nat.le_refl _) ?_)
  case b2 => rw [hz2]; omega
  case b3 => unfold maxLen; omega
  intro w0 hown0 hgrow0
  have R0 : Hid (RowL w0 w.heap.size 2 (part zs 0 len)) := by
    rw [part_start, ← made_one]
    exact rowL_of_owns hown0 rfl
  have B0 : Hid (Below w.heap.size w w0) := (Below.refl _ _).grown hgrow0 (Nat.le_refl _) (fun k h => by cases h)
  clear hown0 hgrow0
  go_wp2
  go_loopw [4] (fun i wr => ∃ k : Nat, k ≤ len ∧ i = .int .i64 k ∧ RowL wr w.heap.size 2 (part zs k len) ∧ Below w.heap.size w wr) (fun i _ => len - (intOf i).toNat)
  case atStart => exact ⟨0, Nat.zero_le _, rfl, R0.out, B0.out⟩
  case round =>
    obtain ⟨k, hk, rfl, hrow, hnx⟩ := hrel
    clear R0 B0
    have R : Hid (RowL wr w.heap.size 2 (part zs k len)) := hrow
    have N : Hid (Below w.heap.size w wr) := hnx
    clear hrow hnx
    by_cases hlt : k < len
    · obtain ⟨b, off, hxb, hb, hck0⟩ := H.out.at hlt
      obtain rfl : x = ⟨b, off, none⟩ := Option.some.inj hxb
      clear hxb
      obtain ⟨t, ht⟩ : ∃ t, t = zs.getD k 0 := ⟨_, rfl⟩
      have hck : wr.cell? ⟨b, off + k, none⟩ = some (.int .i64 t) := by rw [ht]; exact (N.out.cell (p := ⟨b, off + k, none⟩) hb).trans hck0
      have hold : ∃ v, (part zs k len)[k]? = some v := by
        have hpl : (part zs k len).length = len := by simp [part, ints]; omega
        exact ⟨(part zs k len)[k], List.getElem?_eq_getElem (by omega)⟩
      obtain ⟨v0, hv0⟩ := hold
      have hdst : wr.cell? ⟨w.heap.size, k, none⟩ = some v0 := R.out.cell hv0
      have hdf : wr.frozen? ⟨w.heap.size, k, none⟩ = false := R.out.frozen k
      have HT : Hid (t = zs.getD k 0) := ht
      clear ht hck0 hv0
      go_wp2
      go_roundw
      case rel => exact ⟨k + 1, by omega, by go_num, by rw [← part_step hzl hlt HT.out]; exact R.out.set k _, N.out.setCell (by simp) _⟩
      case measure => simp [intOf]; omega
    · obtain rfl : k = len := by omega
      go_wp2
      go_ret
      refine ⟨⟨_, rfl, hzl, hlen, H.out.2.2.2.1, .inr ⟨_, rfl, Nat.le_refl _, ?_⟩⟩, N.out⟩
      have e := R.out
      rw [part_end hzl] at e
      exact e

set_option maxHeartbeats 1000000 in
theorem clone_nil (w : World) :
    Calls Try.prog 9 #[.slice none 0 0] w fun e w' => e = .returned (.slice none 0 0) ∧ w' = w := by
  have hnil := fun W => Lib.run_eql_slice_nil (P := Try.prog) W 22 2 none 0 0 0 0 Try.underlying22
  go_enter Try.func9, Try.ntmps9
  go_wp2
  go_ret
  exact ⟨rfl, rfl⟩

theorem clone_any {a : Option Addr} {len cap : Nat} {zs : List Int} {w : World} (hlen : len ≤ 32768) (h : IsRow .i64 w a len cap zs) :
    Calls Try.prog 9 #[.slice a len cap] w fun e w' => (∃ a', e = .returned (.slice a' len len) ∧ OwnI w' w.heap.size a' len zs) ∧ Below w.heap.size w w' := by
  cases a with
  | some x => exact clone_some x len cap zs w hlen h
  | none =>
    have hc := h.2.2.2.2.1 rfl
    subst hc
    obtain ⟨h1, h2, h3, h4, h5⟩ := h
    obtain rfl : len = 0 := by omega
    exact (clone_nil w).mono fun e w' ⟨he, hw⟩ => ⟨⟨none, he, h1, by omega, h4, .inl rfl⟩, by rw [hw]; exact Below.refl _ _⟩
end Go.Proofs.Qxb6616332a
