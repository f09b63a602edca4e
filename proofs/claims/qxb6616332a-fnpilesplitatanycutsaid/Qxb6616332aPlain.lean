import Derived.WalkKit
namespace Go.Proofs.Qxb6616332a
open Go.RowKit

/-! THE PLAIN LAW: no Go in sight. -/

/-- One node is piled. The state: the order, the least and the greatest place. -/
def pstep (skip : Int) (up : Bool) (u : Int) (s : List Int × Int × Int) : List Int × Int × Int :=
  if u = skip then s else
  if up = true then (s.1.set u.toNat (wrap64 (s.2.2 + 2)), s.2.1, wrap64 (s.2.2 + 2)) else
  (s.1.set u.toNat (wrap64 (s.2.1 - 1)), wrap64 (s.2.1 - 1), s.2.2)
def pile (skip : Int) (up : Bool) (nodes : List Int) (s : List Int × Int × Int) : List Int × Int × Int := nodes.foldr (pstep skip up) s

theorem pile_split (skip : Int) (up : Bool) (nodes : List Int) (k : Nat) (s : List Int × Int × Int) :
    pile skip up (nodes.take k) (pile skip up (nodes.drop k) s) = pile skip up nodes s := by
  unfold pile
  rw [← List.foldr_append, List.take_append_drop]

theorem pile_nil (skip : Int) (up : Bool) (s : List Int × Int × Int) : pile skip up [] s = s := rfl
theorem pile_cons (skip : Int) (up : Bool) (u : Int) (l : List Int) (s : List Int × Int × Int) : pile skip up (u :: l) s = pstep skip up u (pile skip up l s) := rfl

theorem pstep_length (skip : Int) (up : Bool) (u : Int) (s : List Int × Int × Int) : (pstep skip up u s).1.length = s.1.length := by
  unfold pstep
  split
  · rfl
  · split <;> simp
theorem pile_length (skip : Int) (up : Bool) (l : List Int) (s : List Int × Int × Int) : (pile skip up l s).1.length = s.1.length := by
  induction l with
  | nil => rfl
  | cons u l ih => rw [pile_cons, pstep_length, ih]

/-- How many are not skip. -/
def cnt (skip : Int) (l : List Int) : Nat := (l.filter (fun u => u != skip)).length
theorem cnt_nil (skip : Int) : cnt skip [] = 0 := rfl
theorem cnt_cons_skip {skip u : Int} (h : u = skip) (l : List Int) : cnt skip (u :: l) = cnt skip l := by
  unfold cnt; rw [List.filter_cons]; simp [h]
theorem cnt_cons_ne {skip u : Int} (h : u ≠ skip) (l : List Int) : cnt skip (u :: l) = cnt skip l + 1 := by
  unfold cnt; rw [List.filter_cons]; simp [h]
theorem cnt_append (skip : Int) (a b : List Int) : cnt skip (a ++ b) = cnt skip a + cnt skip b := by
  unfold cnt; rw [List.filter_append, List.length_append]
theorem cnt_le (skip : Int) (l : List Int) : cnt skip l ≤ l.length := List.length_filter_le _ _

/-- The place that the c-th of them gets, counted from the end. -/
def val (up : Bool) (lo hi : Int) (c : Nat) : Int := if up = true then wrap64 (hi + 2 * c) else wrap64 (lo - c)

theorem wrap64_add2 (a : Int) (c : Nat) : wrap64 (wrap64 (a + 2 * c) + 2) = wrap64 (a + 2 * ((c + 1 : Nat) : Int)) := by
  unfold wrap64; omega
theorem wrap64_sub1 (a : Int) (c : Nat) : wrap64 (wrap64 (a - c) - 1) = wrap64 (a - ((c + 1 : Nat) : Int)) := by
  unfold wrap64; omega
theorem wrap64_id {a : Int} (h1 : -9223372036854775808 ≤ a) (h2 : a ≤ 9223372036854775807) : wrap64 a = a := by
  unfold wrap64; omega

/-- The order that is left, the places counted from d on. -/
def lay (skip : Int) (up : Bool) (lo hi : Int) (o : List Int) (d : Nat) : List Int → List Int
  | [] => o
  | u :: l => if u = skip then lay skip up lo hi o d l else (lay skip up lo hi o d l).set u.toNat (val up lo hi (cnt skip l + 1 + d))

/-- WHAT PILING LEAVES, IN CLOSED FORM. -/
theorem pile_form {lo hi : Int} (l1 : -9223372036854775808 ≤ lo) (l2 : lo ≤ 9223372036854775807) (h1 : -9223372036854775808 ≤ hi) (h2 : hi ≤ 9223372036854775807) (skip : Int) (up : Bool) (o : List Int) (l : List Int) :
    pile skip up l (o, lo, hi) = (lay skip up lo hi o 0 l, if up = true then lo else val false lo hi (cnt skip l), if up = true then val true lo hi (cnt skip l) else hi) := by
  induction l with
  | nil =>
    rw [pile_nil, cnt_nil]
    have e1 : val true lo hi 0 = hi := by simp [val]; exact wrap64_id h1 h2
    have e2 : val false lo hi 0 = lo := by simp [val]; exact wrap64_id l1 l2
    rw [e1, e2]
    cases up <;> rfl
  | cons u l ih =>
    rw [pile_cons, ih]
    by_cases hu : u = skip
    · rw [cnt_cons_skip hu]
      simp [pstep, lay, hu]
    · rw [cnt_cons_ne hu]
      cases up
      · have e := wrap64_sub1 lo (cnt skip l)
        simp only [pstep, lay, hu, if_false, Bool.false_eq_true, val, Nat.add_zero, e]
      · have e := wrap64_add2 hi (cnt skip l)
        simp only [pstep, lay, hu, if_false, if_true, val, Nat.add_zero, e]

theorem lay_length (skip : Int) (up : Bool) (lo hi : Int) (o : List Int) (d : Nat) (l : List Int) : (lay skip up lo hi o d l).length = o.length := by
  induction l with
  | nil => rfl
  | cons u l ih =>
    unfold lay
    split
    · exact ih
    · rw [List.length_set, ih]

/-- Is u (not skip) among them? By its place. -/
def seen (skip : Int) (l : List Int) (u : Nat) : Bool := l.any (fun v => v != skip && v.toNat == u)

theorem lay_miss {skip : Int} {up : Bool} {lo hi : Int} {d : Nat} {u : Nat} {x : Int} : ∀ (l : List Int) (o : List Int), seen skip l u = false → lay skip up lo hi (o.set u x) d l = (lay skip up lo hi o d l).set u x
  | [], o, _ => rfl
  | v :: l, o, h => by
    unfold seen at h
    rw [List.any_cons, Bool.or_eq_false_iff] at h
    have ih := lay_miss (up := up) (lo := lo) (hi := hi) (d := d) (x := x) l o h.2
    unfold lay
    by_cases hv : v = skip
    · rw [if_pos hv, if_pos hv, ih]
    · rw [if_neg hv, if_neg hv, ih]
      have hne : v.toNat ≠ u := by
        have := h.1
        simp [hv] at this
        exact this
      rw [List.set_comm _ _ (fun e => hne e.symm)]

theorem lay_hit {skip : Int} {up : Bool} {lo hi : Int} {d : Nat} {u : Nat} {x : Int} : ∀ (l : List Int) (o : List Int), seen skip l u = true → lay skip up lo hi (o.set u x) d l = lay skip up lo hi o d l
  | [], _, h => by cases h
  | v :: l, o, h => by
    unfold lay
    by_cases hv : v = skip
    · rw [if_pos hv, if_pos hv]
      refine lay_hit l o ?_
      unfold seen at h ⊢
      rw [List.any_cons] at h
      simpa [hv] using h
    · rw [if_neg hv, if_neg hv]
      by_cases hs : seen skip l u = true
      · rw [lay_hit l o hs]
      · have hs' : seen skip l u = false := by simpa using hs
        rw [lay_miss l o hs']
        have hvu : v.toNat = u := by
          unfold seen at h hs'
          rw [List.any_cons, hs'] at h
          simpa [hv] using h
        rw [hvu, List.set_set]

theorem lay_snoc_skip {skip : Int} {up : Bool} {lo hi : Int} {u : Int} (hu : u = skip) (o : List Int) (d : Nat) : ∀ l : List Int, lay skip up lo hi o d (l ++ [u]) = lay skip up lo hi o d l
  | [] => by simp [lay, hu]
  | v :: l => by
    rw [List.cons_append]
    unfold lay
    rw [lay_snoc_skip hu o d l, cnt_append, cnt_cons_skip hu, cnt_nil, Nat.add_zero]

theorem lay_snoc_ne {skip : Int} {up : Bool} {lo hi : Int} {u : Int} (hu : u ≠ skip) (o : List Int) (d : Nat) : ∀ l : List Int, lay skip up lo hi o d (l ++ [u]) = lay skip up lo hi (o.set u.toNat (val up lo hi (d + 1))) (d + 1) l
  | [] => by simp [lay, hu, cnt_nil, Nat.add_comm]
  | v :: l => by
    rw [List.cons_append]
    unfold lay
    rw [lay_snoc_ne hu o d l, cnt_append, cnt_cons_ne hu, cnt_nil]
    rw [show cnt skip l + (0 + 1) + 1 + d = cnt skip l + 1 + (d + 1) from by omega]

/-- The law's own loop: what 'want' holds when the first k nodes have been looked at. -/
def want (skip : Int) (up : Bool) (lo hi : Int) (o : List Int) (nodes : List Int) (k : Nat) : List Int := lay skip up lo hi o (cnt skip (nodes.drop k)) (nodes.take k)

theorem want_zero (skip : Int) (up : Bool) (lo hi : Int) (o nodes : List Int) : want skip up lo hi o nodes 0 = o := rfl
theorem want_end (skip : Int) (up : Bool) (lo hi : Int) (o nodes : List Int) {k : Nat} (h : nodes.length ≤ k) : want skip up lo hi o nodes k = lay skip up lo hi o 0 nodes := by
  unfold want
  rw [List.drop_eq_nil_of_le h, List.take_of_length_le h, cnt_nil]

theorem take_snoc {l : List Int} {k : Nat} (h : k < l.length) : l.take (k + 1) = l.take k ++ [l.getD k 0] := by
  rw [List.take_succ_eq_append_getElem h]; simp [h]
theorem drop_cons {l : List Int} {k : Nat} (h : k < l.length) : l.drop k = l.getD k 0 :: l.drop (k + 1) := by
  rw [List.drop_eq_getElem_cons h]; simp [h]

theorem want_skip {skip : Int} {up : Bool} {lo hi : Int} {o nodes : List Int} {k : Nat} {u : Int} (h : k < nodes.length) (hu : u = nodes.getD k 0) (hs : u = skip) : want skip up lo hi o nodes (k + 1) = want skip up lo hi o nodes k := by
  unfold want
  rw [take_snoc h, drop_cons h, ← hu, lay_snoc_skip hs, cnt_cons_skip hs]
theorem want_hit {skip : Int} {up : Bool} {lo hi : Int} {o nodes : List Int} {k : Nat} {u : Int} (h : k < nodes.length) (hu : u = nodes.getD k 0) (hs : u ≠ skip) (hd : seen skip (nodes.take k) u.toNat = true) : want skip up lo hi o nodes (k + 1) = want skip up lo hi o nodes k := by
  unfold want
  rw [take_snoc h, drop_cons h, ← hu, lay_snoc_ne hs, cnt_cons_ne hs, lay_hit _ _ hd]
theorem want_miss {skip : Int} {up : Bool} {lo hi : Int} {o nodes : List Int} {k : Nat} {u : Int} (h : k < nodes.length) (hu : u = nodes.getD k 0) (hs : u ≠ skip) (hd : seen skip (nodes.take k) u.toNat = false) :
    want skip up lo hi o nodes (k + 1) = (want skip up lo hi o nodes k).set u.toNat (val up lo hi (cnt skip nodes - cnt skip (nodes.take k))) := by
  have e : cnt skip nodes - cnt skip (nodes.take k) = cnt skip (nodes.drop (k + 1)) + 1 := by
    have e1 : cnt skip nodes = cnt skip (nodes.take k) + cnt skip (nodes.drop k) := by rw [← cnt_append, List.take_append_drop]
    rw [drop_cons h, ← hu, cnt_cons_ne hs] at e1
    omega
  rw [e]
  unfold want
  rw [take_snoc h, drop_cons h, ← hu, lay_snoc_ne hs, cnt_cons_ne hs, lay_miss _ _ hd]

theorem seen_snoc_skip {skip : Int} {nodes : List Int} {k : Nat} {u : Int} (h : k < nodes.length) (hu : u = nodes.getD k 0) (hs : u = skip) (v : Nat) : seen skip (nodes.take (k + 1)) v = seen skip (nodes.take k) v := by
  rw [take_snoc h, ← hu]
  simp [seen, hs]
theorem seen_snoc_ne {skip : Int} {nodes : List Int} {k : Nat} {u : Int} (h : k < nodes.length) (hu : u = nodes.getD k 0) (hs : u ≠ skip) (v : Nat) : seen skip (nodes.take (k + 1)) v = (seen skip (nodes.take k) v || u.toNat == v) := by
  rw [take_snoc h, ← hu]
  have hb : (u != skip) = true := bne_iff_ne.2 hs
  simp [seen, hb]

/-! ### for the cut -/
theorem cnt_zero_pile {skip : Int} {up : Bool} {l : List Int} (h : cnt skip l = 0) (s : List Int × Int × Int) : pile skip up l s = s := by
  induction l with
  | nil => rfl
  | cons u l ih =>
    by_cases hu : u = skip
    · rw [cnt_cons_skip hu] at h
      rw [pile_cons, ih h]
      simp [pstep, hu]
    · rw [cnt_cons_ne hu] at h
      omega

/-- The first node that is not skip ends on top. -/
theorem pile_top {skip : Int} {up : Bool} {nodes : List Int} {f : Nat} {u : Int} (h : f < nodes.length) (hu : u = nodes.getD f 0) (hs : u ≠ skip) (h0 : cnt skip (nodes.take f) = 0) (s : List Int × Int × Int) (hl : u.toNat < s.1.length) :
    (pile skip up nodes s).1.getD u.toNat 0 = if up = true then (pile skip up nodes s).2.2 else (pile skip up nodes s).2.1 := by
  have e : pile skip up nodes s = pstep skip up u (pile skip up (nodes.drop (f + 1)) s) := by
    rw [← pile_split skip up nodes f s, cnt_zero_pile h0, drop_cons h, ← hu, pile_cons]
  rw [e]
  have hl2 := pile_length skip up (nodes.drop (f + 1)) s
  unfold pstep
  rw [if_neg hs]
  cases up
  · simp
    rw [List.getElem?_set_self (by omega)]
    rfl
  · simp
    rw [List.getElem?_set_self (by omega)]
    rfl

end Go.Proofs.Qxb6616332a
