import Derived.Test.Qxb6616338aRet
namespace Go.Proofs.Qxb6616338a
open Go.RowKit

/-- Block b is the row xs, none of its cells frozen. -/
def RowL (w : World) (b : Nat) (t : TypeId) (xs : List Value) : Prop := w.heap[b]? = some (.cells xs.toArray t (0, 0))
theorem RowL.cell {w : World} {b : Nat} {t : TypeId} {xs : List Value} (h : RowL w b t xs) {i : Nat} {v : Value} (hi : xs[i]? = some v) : w.cell? ⟨b, i, none⟩ = some v := by
  unfold RowL at h
  simp [World.cell?, h, hi]
theorem RowL.frozen {w : World} {b : Nat} {t : TypeId} {xs : List Value} (h : RowL w b t xs) (i : Nat) : w.frozen? ⟨b, i, none⟩ = false := by
  unfold RowL at h
  simp [World.frozen?, h]
theorem RowL.lt {w : World} {b : Nat} {t : TypeId} {xs : List Value} (h : RowL w b t xs) : b < w.heap.size := (Array.getElem?_eq_some_iff.1 h).1
theorem RowL.below {w w' : World} {b B : Nat} {t : TypeId} {xs : List Value} (h : RowL w b t xs) (hb : Below B w w') (hB : b < B) : RowL w' b t xs := (hb.block b hB).trans h
theorem RowL.set {w : World} {b : Nat} {t : TypeId} {xs : List Value} (h : RowL w b t xs) (i : Nat) (v : Value) : RowL (w.setCell ⟨b, i, none⟩ v) b t (xs.set i v) := by
  unfold RowL at h ⊢
  simp [World.setCell, Array.getElem?_modify, h]

/-- a point's cells -/
def pc (id : Int) (k : ByteArray) (f : Int) : List Value := [.int .u64 id, .int .u64 0, .int .i64 0, .pointer none, .string k, .int .u8 f]
/-- the cells of points -/
def pcs (ps : List (Int × ByteArray × Int)) : List Value := ps.flatMap (fun p => pc p.1 p.2.1 p.2.2)
theorem pcs_length (ps : List (Int × ByteArray × Int)) : (pcs ps).length = ps.length * 6 := by
  induction ps with
  | nil => rfl
  | cons p ps ih =>
    unfold pcs at ih ⊢
    rw [List.flatMap_cons, List.length_append, ih]
    simp [pc]; omega
theorem pcs_append (a b : List (Int × ByteArray × Int)) : pcs (a ++ b) = pcs a ++ pcs b := by simp [pcs]
theorem pcs_get {ps : List (Int × ByteArray × Int)} : ∀ {i : Nat} {j : Nat} {p : Int × ByteArray × Int}, ps[i]? = some p → j < 6 → (pcs ps)[i * 6 + j]? = (pc p.1 p.2.1 p.2.2)[j]? := by
  induction ps with
  | nil => intro i j p h; simp at h
  | cons q ps ih =>
    intro i j p h hj
    have e : pcs (q :: ps) = pc q.1 q.2.1 q.2.2 ++ pcs ps := by simp [pcs]
    have el : (pc q.1 q.2.1 q.2.2).length = 6 := rfl
    rw [e]
    cases i with
    | zero =>
      simp at h
      subst h
      rw [Nat.zero_mul, Nat.zero_add, List.getElem?_append_left (by omega)]
    | succ i =>
      rw [List.getElem?_append_right (by omega), el, show (i + 1) * 6 + j - 6 = i * 6 + j from by omega]
      exact ih (by simpa using h) hj

theorem Try.info34 : (Try.prog.info? 34).map (fun i => (i.zero, i.size, i.bytes)) = some (some (.agg #[.int .u64 0, .int .u64 0, .int .i64 0, .pointer none, .string ⟨#[]⟩, .int .u8 0]), 6, 56) := by kernel_rfl

theorem rowL_of_owns {w : World} {base g n cap : Nat} {t : TypeId} {sz : Nat} {xs : List Value} (h : w.ownsRow base t sz (.slice (some ⟨g, 0, none⟩) n cap) n xs) (hc : cap = n) : RowL w g t xs := by
  obtain ⟨h1, h2 | ⟨g', cap', cur, hv, hg, hh, hn, hm, hs, ht⟩⟩ := h
  · cases h2.1
  cases hv
  unfold RowL
  rw [hh]
  have e : cur.toList = xs := by
    rw [← ht, List.take_of_length_le (by subst hc; simp; omega)]
  rw [← e]

/-- the zero points -/
def zeros (n : Nat) : List (Int × ByteArray × Int) := List.replicate n (0, ⟨#[]⟩, 0)
theorem made_pts (n : Nat) : (madeCells #[.int .u64 0, .int .u64 0, .int .i64 0, .pointer none, .string ⟨#[]⟩, .int .u8 0] (n * 6)).toList = pcs (zeros n) := by
  apply List.ext_getElem?
  intro i
  by_cases hi : i < n * 6
  · obtain ⟨q, r, hr, rfl⟩ : ∃ q r, r < 6 ∧ i = q * 6 + r := ⟨i / 6, i % 6, Nat.mod_lt _ (by omega), by omega⟩
    have hq : (zeros n)[q]? = some (0, ⟨#[]⟩, 0) := by unfold zeros; rw [List.getElem?_replicate, if_pos (by omega)]
    rw [pcs_get hq hr]
    simp [madeCells, hi]
    match r, hr with
    | 0, _ => simp [pc]
    | 1, _ => simp [pc]
    | 2, _ => simp [pc]
    | 3, _ => simp [pc]
    | 4, _ => simp [pc]
    | 5, _ => simp [pc]
  · rw [List.getElem?_eq_none (by simp [madeCells]; omega), List.getElem?_eq_none (by rw [pcs_length]; simp [zeros]; omega)]

/-- what the loop has written at k -/
def ptsTo (q : Nat → Int × ByteArray × Int) (k n : Nat) : List (Int × ByteArray × Int) := (List.range k).map q ++ zeros (n - k)
theorem ptsTo_zero (q : Nat → Int × ByteArray × Int) (n : Nat) : ptsTo q 0 n = zeros n := by simp [ptsTo]
theorem ptsTo_get {q : Nat → Int × ByteArray × Int} {k n : Nat} (h : k < n) : (ptsTo q k n)[k]? = some (0, ⟨#[]⟩, 0) := by
  unfold ptsTo
  rw [List.getElem?_append_right (by simp)]
  unfold zeros
  rw [List.getElem?_replicate, if_pos (by simp; omega)]
theorem ptsTo_end (q : Nat → Int × ByteArray × Int) (n : Nat) : ptsTo q n n = (List.range n).map q := by simp [ptsTo, zeros]
/-- six stores -/
def set6 (xs : List Value) (k : Nat) (c : Int × ByteArray × Int) : List Value :=
  (((((xs.set (k * 6) (.int .u64 c.1)).set (k * 6 + 1) (.int .u64 0)).set (k * 6 + 2) (.int .i64 0)).set (k * 6 + 3) (.pointer none)).set (k * 6 + 4) (.string c.2.1)).set (k * 6 + 5) (.int .u8 c.2.2)
theorem ptsTo_step {q : Nat → Int × ByteArray × Int} {k n : Nat} (h : k < n) : set6 (pcs (ptsTo q k n)) k (q k) = pcs (ptsTo q (k + 1) n) := by
  have e1 : ptsTo q k n = (List.range k).map q ++ ((0, ⟨#[]⟩, 0) :: zeros (n - (k + 1))) := by
    unfold ptsTo zeros
    rw [show n - k = (n - (k + 1)) + 1 from by omega, List.replicate_succ]
  have e2 : ptsTo q (k + 1) n = (List.range k).map q ++ (q k :: zeros (n - (k + 1))) := by
    unfold ptsTo
    rw [List.range_succ, List.map_append]
    simp
  have el : (pcs ((List.range k).map q)).length = k * 6 := by rw [pcs_length]; simp
  have ec : ∀ p r, pcs (p :: r) = pc p.1 p.2.1 p.2.2 ++ pcs r := fun p r => by simp [pcs]
  rw [e1, e2, pcs_append, pcs_append, ec, ec]
  unfold set6
  generalize pcs ((List.range k).map q) = A at el ⊢
  generalize pcs (zeros (n - (k + 1))) = R
  have s1 : ∀ (X : List Value) (j : Nat) (v : Value), (A ++ X).set (k * 6 + j) v = A ++ X.set j v := by
    intro X j v
    rw [List.set_append_right (h := by omega), el]
    congr 2
    omega
  have s0 := s1 (pc 0 ⟨#[]⟩ 0 ++ R) 0
  rw [Nat.add_zero] at s0
  rw [s0, s1, s1, s1, s1, s1]
  rfl

theorem RowL.set6 {w : World} {b : Nat} {t : TypeId} {xs : List Value} (h : RowL w b t xs) (k : Nat) (c : Int × ByteArray × Int) :
    RowL ((((((w.setCell ⟨b, k * 6, none⟩ (.int .u64 c.1)).setCell ⟨b, k * 6 + 1, none⟩ (.int .u64 0)).setCell ⟨b, k * 6 + 2, none⟩ (.int .i64 0)).setCell ⟨b, k * 6 + 3, none⟩ (.pointer none)).setCell ⟨b, k * 6 + 4, none⟩ (.string c.2.1)).setCell ⟨b, k * 6 + 5, none⟩ (.int .u8 c.2.2)) b t (set6 xs k c) :=
  (((((h.set _ _).set _ _).set _ _).set _ _).set _ _).set _ _
theorem below6 {B b : Nat} {w0 w : World} (h : Below B w0 w) (hb : B ≤ b) (k : Nat) (v0 v1 v2 v3 v4 v5 : Value) :
    Below B w0 ((((((w.setCell ⟨b, k * 6, none⟩ v0).setCell ⟨b, k * 6 + 1, none⟩ v1).setCell ⟨b, k * 6 + 2, none⟩ v2).setCell ⟨b, k * 6 + 3, none⟩ v3).setCell ⟨b, k * 6 + 4, none⟩ v4).setCell ⟨b, k * 6 + 5, none⟩ v5) :=
  (((((h.setCell hb _).setCell hb _).setCell hb _).setCell hb _).setCell hb _).setCell hb _

set_option maxHeartbeats 1000000 in
theorem points_some (x : Addr) (len cap : Nat) (ss : List ByteArray) (w : World) (hlen : len ≤ 65536) (h : IsStrs w (some x) len cap ss) :
    Calls Try.prog 6 #[.slice (some x) len cap] w fun e w' => e = .returned (.slice (some ⟨w.heap.size, 0, none⟩) len len) ∧ RowL w' w.heap.size 34 (pcs ((List.range len).map (fun i => (0, ss.getD i ByteArray.empty, 0)))) ∧ Below w.heap.size w w' := by
  obtain ⟨i0, hi, hz0, hz1, hz2⟩ := info_parts Try.info34
  have hzl := h.1
  have H : Hid (IsStrs w (some x) len cap ss) := h
  clear h
  obtain ⟨q, hq⟩ : ∃ q : Nat → Int × ByteArray × Int, q = fun i => (0, ss.getD i ByteArray.empty, 0) := ⟨_, rfl⟩
  rw [← hq]
  have HQ : Hid (q = fun i => (0, ss.getD i ByteArray.empty, 0)) := hq
  clear hq
  have hnil := fun W => Lib.run_eql_slice_nil (P := Try.prog) W 22 9 (some x) len cap 0 0 Try.underlying22
  go_enter Try.func6, Try.ntmps6
  go_wp2_with (at_make; refine wpList_make_full _ rfl _ _ 26 rfl w.heap.size 34 i0 _ 6 Try.underlying26 hi hz0 hz1 _ _ _ _ len rfl rfl (by omega) (by omega) ?b2 ?b3 (Nat.le_refl _) ?_)
  case b2 => rw [hz2]; omega
  case b3 => unfold maxLen; omega
  intro w0 hown0 hgrow0
  have R0 : Hid (RowL w0 w.heap.size 34 (pcs (ptsTo q 0 len))) := by
    rw [ptsTo_zero, ← made_pts]
    exact rowL_of_owns hown0 rfl
  have B0 : Hid (Below w.heap.size w w0) := (Below.refl _ _).grown hgrow0 (Nat.le_refl _) (fun k h => by cases h)
  clear hown0 hgrow0 hz0 hz1 hz2 hi
  go_wp2
  go_loopw [4] (fun i wr => ∃ k : Nat, k ≤ len ∧ i = .int .i64 k ∧ RowL wr w.heap.size 34 (pcs (ptsTo q k len)) ∧ Below w.heap.size w wr) (fun i _ => len - (intOf i).toNat)
  case atStart => exact ⟨0, Nat.zero_le _, rfl, R0.out, B0.out⟩
  case round =>
    obtain ⟨k, hk, rfl, hrow, hnx⟩ := hrel
    clear R0 B0
    have R : Hid (RowL wr w.heap.size 34 (pcs (ptsTo q k len))) := hrow
    have N : Hid (Below w.heap.size w wr) := hnx
    clear hrow hnx
    by_cases hlt : k < len
    · obtain ⟨b, off, hxb, hb, hck0⟩ := H.out.at hlt
      obtain rfl : x = ⟨b, off, none⟩ := Option.some.inj hxb
      clear hxb
      obtain ⟨t, ht⟩ : ∃ t, t = ss.getD k ByteArray.empty := ⟨_, rfl⟩
      have hck : wr.cell? ⟨b, off + k, none⟩ = some (.string t) := by rw [ht]; exact (N.out.cell (p := ⟨b, off + k, none⟩) hb).trans hck0
      have HT : Hid (t = ss.getD k ByteArray.empty) := ht
      have c0 : wr.cell? ⟨w.heap.size, k * 6, none⟩ = some (.int .u64 0) := R.out.cell (by have := pcs_get (ptsTo_get (q := q) hlt) (show 0 < 6 by omega); rw [Nat.add_zero] at this; rw [this]; rfl)
      have c1 : wr.cell? ⟨w.heap.size, k * 6 + 1, none⟩ = some (.int .u64 0) := R.out.cell (by rw [pcs_get (ptsTo_get hlt) (by omega)]; rfl)
      have c2 : wr.cell? ⟨w.heap.size, k * 6 + 2, none⟩ = some (.int .i64 0) := R.out.cell (by rw [pcs_get (ptsTo_get hlt) (by omega)]; rfl)
      have c3 : wr.cell? ⟨w.heap.size, k * 6 + 3, none⟩ = some (.pointer none) := R.out.cell (by rw [pcs_get (ptsTo_get hlt) (by omega)]; rfl)
      have c4 : wr.cell? ⟨w.heap.size, k * 6 + 4, none⟩ = some (.string ⟨#[]⟩) := R.out.cell (by rw [pcs_get (ptsTo_get hlt) (by omega)]; rfl)
      have c5 : wr.cell? ⟨w.heap.size, k * 6 + 5, none⟩ = some (.int .u8 0) := R.out.cell (by rw [pcs_get (ptsTo_get hlt) (by omega)]; rfl)
      have hf : ∀ j, wr.frozen? ⟨w.heap.size, j, none⟩ = false := R.out.frozen
      clear ht hck0
      go_wp2
      go_roundw
      case rel =>
        have eq : q k = (0, t, 0) := by rw [HQ.out, HT.out]
        have e := R.out.set6 k (0, t, 0)
        rw [← eq, ptsTo_step hlt] at e
        rw [eq] at e
        exact ⟨k + 1, by omega, by go_num, e, below6 N.out (Nat.le_refl _) k _ _ _ _ _ _⟩
      case measure => simp [intOf]; omega
    · obtain rfl : k = len := by omega
      go_wp2
      go_ret
      have e := R.out
      rw [ptsTo_end] at e
      exact ⟨rfl, e, N.out⟩

theorem kinds_range {ss : List ByteArray} {len : Nat} (h : ss.length = len) : (List.range len).map (fun i => ((0 : Int), ss.getD i ByteArray.empty, (0 : Int))) = ss.map (fun k => ((0 : Int), k, (0 : Int))) := by
  apply List.ext_getElem?
  intro i
  by_cases hi : i < len
  · have hi2 : i < ss.length := by omega
    simp [hi, hi2]
  · rw [List.getElem?_eq_none (by simp; omega), List.getElem?_eq_none (by simp; omega)]

/-- points of the call's own, whole -/
def OwnP (w : World) (a : Option Addr) (len : Nat) (ps : List (Int × ByteArray × Int)) : Prop :=
  ps.length = len ∧ len ≤ 65537 ∧ (len = 0 ∨ ∃ g, a = some ⟨g, 0, none⟩ ∧ RowL w g 34 (pcs ps))
theorem OwnP.below {w w' : World} {a : Option Addr} {len : Nat} {ps : List (Int × ByteArray × Int)} (h : OwnP w a len ps) (hb : Below w.heap.size w w') : OwnP w' a len ps := by
  obtain ⟨h1, h2, h0 | ⟨g, rfl, hr⟩⟩ := h
  · exact ⟨h1, h2, .inl h0⟩
  · exact ⟨h1, h2, .inr ⟨g, rfl, hr.below hb hr.lt⟩⟩
theorem isPts_row {w : World} {g len cap : Nat} {ps : List (Int × ByteArray × Int)} (h1 : ps.length = len) (h2 : len ≤ cap) (h3 : len ≤ 65537) (hc : ∀ i, i < len → w.cell? ⟨g, i * 6 + 4, none⟩ = some (.string ((ps.map (·.2.1)).getD i ByteArray.empty))) (hlt : g < w.heap.size) : IsPts w (some ⟨g, 0, none⟩) len cap (ps.map (·.2.1)) :=
  ⟨by simpa using h1, h2, by omega, .inr ⟨g, 0, rfl, hlt, fun i hi => by rw [Nat.zero_add]; exact hc i hi⟩⟩
theorem row_kind {w : World} {g : Nat} {ps : List (Int × ByteArray × Int)} {R : List Value} (hr : RowL w g 34 (pcs ps ++ R)) {i : Nat} (hi : i < ps.length) : w.cell? ⟨g, i * 6 + 4, none⟩ = some (.string ((ps.map (·.2.1)).getD i ByteArray.empty)) := by
  refine hr.cell ?_
  rw [List.getElem?_append_left (by rw [pcs_length]; omega), pcs_get (List.getElem?_eq_getElem hi) (by omega)]
  simp [pc, hi]
theorem OwnP.isPts {w : World} {a : Option Addr} {len : Nat} {ps : List (Int × ByteArray × Int)} (h : OwnP w a len ps) : IsPts w a len len (ps.map (·.2.1)) := by
  obtain ⟨h1, h2, h0 | ⟨g, rfl, hr⟩⟩ := h
  · exact ⟨by simpa using h1, Nat.le_refl _, by omega, .inl h0⟩
  · exact isPts_row h1 (Nat.le_refl _) h2 (fun i hi => row_kind (R := []) (by rw [List.append_nil]; exact hr) (by omega)) hr.lt

set_option maxHeartbeats 1000000 in
theorem points_nil (w : World) :
    Calls Try.prog 6 #[.slice none 0 0] w fun e w' => e = .returned (.slice none 0 0) ∧ w' = w := by
  have hnil := fun W => Lib.run_eql_slice_nil (P := Try.prog) W 22 9 none 0 0 0 0 Try.underlying22
  go_enter Try.func6, Try.ntmps6
  go_wp2
  go_ret
  exact ⟨rfl, rfl⟩

theorem points_any {a : Option Addr} {len cap : Nat} {ss : List ByteArray} {w : World} (hlen : len ≤ 65536) (h : IsStrs w a len cap ss) :
    Calls Try.prog 6 #[.slice a len cap] w fun e w' => (∃ a', e = .returned (.slice a' len len) ∧ OwnP w' a' len (ss.map (fun k => (0, k, 0)))) ∧ Below w.heap.size w w' := by
  have h1 := h.1
  cases a with
  | some x =>
    refine (points_some x len cap ss w hlen h).mono fun e w' ⟨he, hr, hb⟩ => ⟨⟨_, he, by simpa using h1, by omega, .inr ⟨_, rfl, ?_⟩⟩, hb⟩
    rw [kinds_range h1] at hr
    exact hr
  | none =>
    have hc := h.2.2.2.1 rfl
    subst hc
    obtain rfl : len = 0 := by have := h.2.1; omega
    exact (points_nil w).mono fun e w' ⟨he, hw⟩ => ⟨⟨none, he, by simpa using h1, by omega, .inl rfl⟩, by rw [hw]; exact Below.refl _ _⟩
theorem kp_kinds (ss : List ByteArray) : (ss.map (fun k => ((0 : Int), k, (0 : Int)))).map (·.2.1) = ss := by
  rw [List.map_map]
  exact List.map_id ss

set_option maxHeartbeats 1000000 in
theorem bytesCut_any (m : Bool) (c : Int) (a2 a3 : Option Addr) (l2 c2 l3 c3 : Nat) {a1 a4 : Option Addr} {l1 c1 l4 c4 : Nat} {s1 s4 : List ByteArray} {w : World} (h1 : IsStrs w a1 l1 c1 s1) (h4 : IsStrs w a4 l4 c4 s4) :
    Calls Try.prog 5 #[.bool m, .slice a1 l1 c1, .slice a2 l2 c2, .slice a3 l3 c3, .slice a4 l4 c4, .int .i64 c] w fun e w' => RetB e ∧ w' = w := by
  have H1 : Hid (IsStrs w a1 l1 c1 s1) := h1
  have H4 : Hid (IsStrs w a4 l4 c4 s4) := h4
  clear h1 h4
  go_enter Try.func5, Try.ntmps5
  go_wp2
  · go_ret
    exact ⟨retB_mk _, rfl⟩
  go_loop [13, 14] (fun a i => ∃ (k : Nat) (m : Int), k ≤ l1 ∧ i = .int .i64 k ∧ a = .int .i64 m) (fun _ i => l1 - (intOf i).toNat)
  case atStart => exact ⟨0, _, Nat.zero_le _, rfl, rfl⟩
  case round =>
    obtain ⟨k, m, hk, rfl, rfl⟩ := hrel
    by_cases hlt : k < l1
    · obtain ⟨b, off, rfl, hb, hck⟩ := H1.out.at hlt
      go_wp2
      case roundEnd => exact ⟨⟨k + 1, _, by omega, by go_num, rfl⟩, by simp [intOf]; omega⟩
      all_goals (go_ret; exact ⟨retB_mk _, rfl⟩)
    · go_wp2
      · go_ret
        exact ⟨retB_mk _, rfl⟩
      · go_ret
        exact ⟨retB_mk _, rfl⟩
      · go_ret
        exact ⟨retB_mk _, rfl⟩
      · go_ret
        exact ⟨retB_mk _, rfl⟩
      · go_ret
        exact ⟨retB_mk _, rfl⟩
      · go_ret
        exact ⟨retB_mk _, rfl⟩
      go_loop [13, 15] (fun a i => ∃ (k : Nat) (m : Int), k ≤ l4 ∧ i = .int .i64 k ∧ a = .int .i64 m) (fun _ i => l4 - (intOf i).toNat)
      case atStart => exact ⟨0, _, Nat.zero_le _, rfl, rfl⟩
      case round =>
        obtain ⟨k, m, hk, rfl, rfl⟩ := hrel
        by_cases hlt : k < l4
        · obtain ⟨b, off, rfl, hb, hck⟩ := H4.out.at hlt
          go_wp2
          case roundEnd => exact ⟨⟨k + 1, _, by omega, by go_num, rfl⟩, by simp [intOf]; omega⟩
          all_goals (go_ret; exact ⟨retB_mk _, rfl⟩)
        · go_wp2
          all_goals (go_ret; exact ⟨retB_mk _, rfl⟩)
end Go.Proofs.Qxb6616338a
