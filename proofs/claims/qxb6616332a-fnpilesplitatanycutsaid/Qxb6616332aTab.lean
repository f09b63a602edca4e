import Derived.Test.Qxb6616332aSame
import Derived.RegionTactic
import Derived.OpenShut
import Derived.Deep.RegionHeld3
namespace Go.Proofs.Qxb6616332a
open Go.RowKit

/-- the lock table's cells -/
def tab (a : Option Addr) (n : Nat) (lo hi : Int) : List Value :=
  [.slice none 0 0, .slice none 0 0, .slice none 0 0, .slice none 0 0, .slice none 0 0, .slice none 0 0, .slice none 0 0, .slice none 0 0, .slice a n n, .int .i64 lo, .int .i64 hi, .slice none 0 0]
def TabIs (w : World) (L : Nat) (a : Option Addr) (n : Nat) (lo hi : Int) : Prop := RowL w L 43 (tab a n lo hi)

set_option maxHeartbeats 1000000 in
theorem newTab_any (a : Option Addr) (n : Nat) (lo hi : Int) (w : World) :
    Calls Try.prog 8 #[.slice a n n, .int .i64 lo, .int .i64 hi] w fun e w' => e = .returned (.pointer (some ⟨w.heap.size, 0, none⟩)) ∧ w' = w.alloc (.cells (tab a n lo hi).toArray 43) := by
  go_enter Try.func8, Try.ntmps8
  go_wp2
  go_ret
  exact ⟨rfl, rfl⟩
theorem tabIs_new (a : Option Addr) (n : Nat) (lo hi : Int) (w : World) : TabIs (w.alloc (.cells (tab a n lo hi).toArray 43)) w.heap.size a n lo hi := (MapKept.heap_alloc w _).1

/-- Nodes that lie below block B. -/
def NodesIn (w : World) (B : Nat) (a : Option Addr) (len : Nat) (zs : List Int) : Prop :=
  zs.length = len ∧ len ≤ 65536 ∧ (∀ n ∈ zs, (Lit.int .i32 n).wf = true) ∧
  (len = 0 ∨ ∃ b off, a = some ⟨b, off, none⟩ ∧ b < B ∧ ∀ i, i < len → w.cell? ⟨b, off + i, none⟩ = some (.int .i32 (zs.getD i 0)))
theorem NodesIn.at {w : World} {B : Nat} {a : Option Addr} {len : Nat} {zs : List Int} (h : NodesIn w B a len zs) {k : Nat} (hk : k < len) :
    ∃ b off, a = some ⟨b, off, none⟩ ∧ b < B ∧ w.cell? ⟨b, off + k, none⟩ = some (.int .i32 (zs.getD k 0)) := by
  obtain ⟨h1, h2, h3, h0 | ⟨b, off, ha, hlt, hc⟩⟩ := h
  · omega
  · exact ⟨b, off, ha, hlt, hc k hk⟩

/-- Each node is skip or a place of the order. -/
def Fits (skip : Int) (n : Nat) (nodes : List Int) : Prop := ∀ u ∈ nodes, u = skip ∨ (0 ≤ u ∧ u < (n : Int))

set_option maxHeartbeats 1000000 in
theorem pile_any {B L : Nat} {a an : Option Addr} {n ln cn : Nat} {zs nodes : List Int} {lo hi skip : Int} {up : Bool} {w : World} (hB : B ≤ L) (hN : NodesIn w B an ln nodes) (hF : Fits skip n nodes) (hT : TabIs w L a n lo hi) (hO : OwnI w B a n zs) :
    Calls Try.prog 20 #[.pointer (some ⟨L, 0, none⟩), .slice an ln cn, .int .i64 skip, .bool up] w fun e w' => e = .returned (.tuple #[]) ∧
      TabIs w' L a n (pile skip up nodes (zs, lo, hi)).2.1 (pile skip up nodes (zs, lo, hi)).2.2 ∧ OwnI w' B a n (pile skip up nodes (zs, lo, hi)).1 ∧ Below B w w' := by
  have hln : ln ≤ 65536 := hN.2.1
  have HN : Hid (NodesIn w B an ln nodes) := hN
  have HF : Hid (Fits skip n nodes) := hF
  have HT : Hid (TabIs w L a n lo hi) := hT
  have HO : Hid (OwnI w B a n zs) := hO
  clear hN hF hT hO
  go_enter Try.func20, Try.ntmps20
  go_wp2
  go_loopw [8] (fun i wr => ∃ k : Nat, k ≤ ln ∧ i = .int .i64 ((k : Int) - 1) ∧ TabIs wr L a n (pile skip up (nodes.drop k) (zs, lo, hi)).2.1 (pile skip up (nodes.drop k) (zs, lo, hi)).2.2 ∧ OwnI wr B a n (pile skip up (nodes.drop k) (zs, lo, hi)).1 ∧ Below B w wr)
    (fun i _ => (intOf i + 1).toNat)
  case atStart =>
    refine ⟨ln, Nat.le_refl _, rfl, ?_⟩
    rw [List.drop_eq_nil_of_le (by rw [HN.out.1]; exact Nat.le_refl _), pile_nil]
    exact ⟨HT.out, HO.out, Below.refl _ _⟩
  case round =>
    obtain ⟨k, hk, rfl, hT, hO, hnx⟩ := hrel
    obtain ⟨s, hs⟩ : ∃ s, s = pile skip up (nodes.drop k) (zs, lo, hi) := ⟨_, rfl⟩
    rw [← hs] at hT hO
    have HS : Hid (s = pile skip up (nodes.drop k) (zs, lo, hi)) := hs
    have T : Hid (TabIs wr L a n s.2.1 s.2.2) := hT
    have O : Hid (OwnI wr B a n s.1) := hO
    have N : Hid (Below B w wr) := hnx
    clear hs hT hO hnx HT HO
    by_cases hlt : 0 < k
    · obtain ⟨j, rfl⟩ : ∃ j, k = j + 1 := ⟨k - 1, by omega⟩
      rw [show (((j + 1 : Nat) : Int) - 1) = (j : Int) from by omega]
      obtain ⟨b, off, rfl, hb, hc0⟩ := HN.out.at (k := j) (by omega)
      obtain ⟨u, hu⟩ : ∃ u, u = nodes.getD j 0 := ⟨_, rfl⟩
      have hck : wr.cell? ⟨b, off + j, none⟩ = some (.int .i32 u) := by rw [hu]; exact (N.out.cell (p := ⟨b, off + j, none⟩) hb).trans hc0
      have hmem : u ∈ nodes := by
        have hjl : j < nodes.length := by have := HN.out.1; omega
        rw [hu, show nodes.getD j 0 = nodes[j] from by simp [hjl]]
        exact List.getElem_mem hjl
      have hub := bounds_i32 (HN.out.2.2.1 u hmem)
      have hub1 := hub.1
      have hub2 := hub.2
      have HU : Hid (u = nodes.getD j 0) := hu
      have hfit := HF.out u hmem
      clear hc0 hu hub hmem
      have hjln : (j : Int) < (ln : Int) := by omega
      by_cases husk : u = skip
      · have hq : (u == skip) = true := by simp [husk]
        clear hfit
        go_wp2
        go_roundw
        case rel =>
          have hdr : nodes.drop j = u :: nodes.drop (j + 1) := by rw [HU.out]; exact drop_cons (by have := HN.out.1; omega)
          refine ⟨j, by omega, rfl, ?_⟩
          rw [hdr, pile_cons, ← HS.out]
          have e : pstep skip up u s = s := by simp [pstep, husk]
          rw [e]
          exact ⟨T.out, O.out, N.out⟩
        case measure => simp [intOf]
      · have hq : (u == skip) = false := by simp [husk]
        obtain ⟨hu0, hun⟩ := hfit.resolve_left husk
        obtain ⟨m, rfl⟩ := Int.eq_ofNat_of_zero_le hu0
        obtain ⟨g, rfl, hBg, hrow⟩ := O.out.2.2.2.resolve_left (by omega)
        have hm : m < s.1.length := by rw [O.out.1]; omega
        have c8 : wr.cell? ⟨L, 8, none⟩ = some (.slice (some ⟨g, 0, none⟩) n n) := T.out.cell rfl
        have c9 : wr.cell? ⟨L, 9, none⟩ = some (.int .i64 s.2.1) := T.out.cell rfl
        have c10 : wr.cell? ⟨L, 10, none⟩ = some (.int .i64 s.2.2) := T.out.cell rfl
        have f9 : wr.frozen? ⟨L, 9, none⟩ = false := T.out.frozen 9
        have f10 : wr.frozen? ⟨L, 10, none⟩ = false := T.out.frozen 10
        have cg : wr.cell? ⟨g, m, none⟩ = some (.int .i64 (s.1.getD m 0)) := hrow.cell (ints_get hm)
        have fg : wr.frozen? ⟨g, m, none⟩ = false := hrow.frozen m
        have hgL : g ≠ L := hrow.ne T.out (by decide)
        have R : Hid (RowL wr g 2 (ints .i64 s.1)) := hrow
        clear hrow
        cases up
        · go_wp2
          obtain ⟨W1, hW1⟩ : ∃ W1, W1 = wr.setCell ⟨L, 9, none⟩ (.int .i64 (wrap64 (s.2.1 - 1))) := ⟨_, rfl⟩
          rw [← hW1]
          have T1 : Hid (TabIs W1 L (some ⟨g, 0, none⟩) n (wrap64 (s.2.1 - 1)) s.2.2) := by rw [hW1]; exact T.out.set 9 _
          have R1 : Hid (RowL W1 g 2 (ints .i64 s.1)) := by rw [hW1]; exact R.out.setOther hgL _
          have N1 : Hid (Below B w W1) := by rw [hW1]; exact N.out.setCell hB _
          clear hW1 c8 c9 c10 f9 f10 cg fg hck
          have c8 : W1.cell? ⟨L, 8, none⟩ = some (.slice (some ⟨g, 0, none⟩) n n) := T1.out.cell rfl
          have c9 : W1.cell? ⟨L, 9, none⟩ = some (.int .i64 (wrap64 (s.2.1 - 1))) := T1.out.cell rfl
          have cg : W1.cell? ⟨g, m, none⟩ = some (.int .i64 (s.1.getD m 0)) := R1.out.cell (ints_get hm)
          have fg : W1.frozen? ⟨g, m, none⟩ = false := R1.out.frozen m
          go_region
          go_wp2
          go_roundw
          case rel =>
            have hdr : nodes.drop j = (m : Int) :: nodes.drop (j + 1) := by rw [HU.out]; exact drop_cons (by have := HN.out.1; omega)
            refine ⟨j, by omega, rfl, ?_⟩
            rw [hdr, pile_cons, ← HS.out]
            have e : pstep skip false (m : Int) s = (s.1.set m (wrap64 (s.2.1 - 1)), wrap64 (s.2.1 - 1), s.2.2) := by simp [pstep, husk]
            rw [e]
            refine ⟨T1.out.drew.setOther (Ne.symm hgL) _, ⟨by rw [List.length_set]; exact O.out.1, O.out.2.1, ?_, .inr ⟨g, rfl, hBg, ?_⟩⟩, N1.out.drew.setCell hBg _⟩
            · intro x hx
              rcases List.mem_or_eq_of_mem_set hx with h | h
              · exact O.out.2.2.1 x h
              · rw [h]; exact wrap64_wf _
            · rw [← ints_set]
              exact R1.out.drew.set m _
          case measure => simp [intOf]
        · go_wp2
          obtain ⟨W1, hW1⟩ : ∃ W1, W1 = wr.setCell ⟨L, 10, none⟩ (.int .i64 (wrap64 (s.2.2 + 2))) := ⟨_, rfl⟩
          rw [← hW1]
          have T1 : Hid (TabIs W1 L (some ⟨g, 0, none⟩) n s.2.1 (wrap64 (s.2.2 + 2))) := by rw [hW1]; exact T.out.set 10 _
          have R1 : Hid (RowL W1 g 2 (ints .i64 s.1)) := by rw [hW1]; exact R.out.setOther hgL _
          have N1 : Hid (Below B w W1) := by rw [hW1]; exact N.out.setCell hB _
          clear hW1 c8 c9 c10 f9 f10 cg fg hck
          have c8 : W1.cell? ⟨L, 8, none⟩ = some (.slice (some ⟨g, 0, none⟩) n n) := T1.out.cell rfl
          have c10 : W1.cell? ⟨L, 10, none⟩ = some (.int .i64 (wrap64 (s.2.2 + 2))) := T1.out.cell rfl
          have cg : W1.cell? ⟨g, m, none⟩ = some (.int .i64 (s.1.getD m 0)) := R1.out.cell (ints_get hm)
          have fg : W1.frozen? ⟨g, m, none⟩ = false := R1.out.frozen m
          go_region
          go_wp2
          go_roundw
          case rel =>
            have hdr : nodes.drop j = (m : Int) :: nodes.drop (j + 1) := by rw [HU.out]; exact drop_cons (by have := HN.out.1; omega)
            refine ⟨j, by omega, rfl, ?_⟩
            rw [hdr, pile_cons, ← HS.out]
            have e : pstep skip true (m : Int) s = (s.1.set m (wrap64 (s.2.2 + 2)), s.2.1, wrap64 (s.2.2 + 2)) := by simp [pstep, husk]
            rw [e]
            refine ⟨T1.out.drew.setOther (Ne.symm hgL) _, ⟨by rw [List.length_set]; exact O.out.1, O.out.2.1, ?_, .inr ⟨g, rfl, hBg, ?_⟩⟩, N1.out.drew.setCell hBg _⟩
            · intro x hx
              rcases List.mem_or_eq_of_mem_set hx with h | h
              · exact O.out.2.2.1 x h
              · rw [h]; exact wrap64_wf _
            · rw [← ints_set]
              exact R1.out.drew.set m _
          case measure => simp [intOf]
    · obtain rfl : k = 0 := by omega
      go_wp2
      go_end0
      rw [List.drop_zero] at HS
      rw [← HS.out]
      exact ⟨rfl, T.out, O.out, N.out⟩
end Go.Proofs.Qxb6616332a
