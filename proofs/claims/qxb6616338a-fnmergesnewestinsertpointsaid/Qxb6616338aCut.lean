import Derived.Test.Qxb6616338aPts
import Derived.RegionTactic
import Derived.Deep.DeepCutAuto
import Derived.Deep.CutBlock
import Derived.OpenShut
namespace Go.Proofs.Qxb6616338a
open Go.RowKit

theorem RowL.drew {w : World} {b : Nat} {t : TypeId} {xs : List Value} (h : RowL w b t xs) : RowL w.drew b t xs := h

theorem range_kinds {ss : List ByteArray} {len : Nat} {f g : Nat → Int} (h : ss.length = len) : ((List.range len).map (fun i => (f i, ss.getD i ByteArray.empty, g i))).map (·.2.1) = ss := by
  apply List.ext_getElem?
  intro i
  by_cases hi : i < len
  · have hi2 : i < ss.length := by omega
    simp [hi, hi2]
  · rw [List.getElem?_eq_none (by simp; omega), List.getElem?_eq_none (by omega)]

/-- A Retention lies in block b. -/
def RetAt (w : World) (b : Nat) (ar : Option Addr) (lr cr : Nat) (a : Option Addr) (l c : Nat) (u : Option Addr) : Prop :=
  b < w.heap.size ∧ w.cell? ⟨b, 0, none⟩ = some (.slice ar lr cr) ∧ w.cell? ⟨b, 1, none⟩ = some (.slice a l c) ∧ w.cell? ⟨b, 2, none⟩ = some (.pointer u)
theorem retAt_new (w : World) (ar : Option Addr) (lr cr : Nat) (a : Option Addr) (l c : Nat) (u : Option Addr) : RetAt (w.alloc (.cells #[.slice ar lr cr, .slice a l c, .pointer u] 38)) w.heap.size ar lr cr a l c u :=
  ⟨by simp, by simp [go_sem], by simp [go_sem], by simp [go_sem]⟩
theorem RetAt.below {w w' : World} {b : Nat} {ar : Option Addr} {lr cr : Nat} {a : Option Addr} {l c : Nat} {u : Option Addr} (h : RetAt w b ar lr cr a l c u) (hb : Below w.heap.size w w') : RetAt w' b ar lr cr a l c u :=
  ⟨Nat.lt_of_lt_of_le h.1 hb.size, (hb.cell (p := ⟨b, 0, none⟩) h.1).trans h.2.1, (hb.cell (p := ⟨b, 1, none⟩) h.1).trans h.2.2.1, (hb.cell (p := ⟨b, 2, none⟩) h.1).trans h.2.2.2⟩

theorem IsPts.take {w : World} {a : Option Addr} {len cap : Nat} {ks : List ByteArray} (h : IsPts w a len cap ks) {k : Nat} (hk : k ≤ len) : IsPts w a k cap (ks.take k) := by
  obtain ⟨h1, h2, h3, h0 | ⟨b, off, rfl, hlt, hc⟩⟩ := h
  · exact ⟨by simp; omega, by omega, by omega, .inl (by omega)⟩
  · refine ⟨by simp; omega, by omega, by omega, .inr ⟨b, off, rfl, hlt, fun i hi => ?_⟩⟩
    rw [hc i (by omega)]
    simp [hi]
theorem IsPts.drop {w : World} {a : Option Addr} {len cap : Nat} {ks : List ByteArray} (h : IsPts w a len cap ks) {k : Nat} (hk : k ≤ len) :
    ∃ a' c', (∀ w', (Instr.slice 26 (.slice a len cap) (some (.int .i64 k)) none none).run Try.prog w' = .ok (.slice a' (len - k) c') w') ∧ IsPts w a' (len - k) c' (ks.drop k) := by
  obtain ⟨h1, h2, h3, hd⟩ := h
  refine ⟨if cap = k then a else a.map (·.add (k * 6)), cap - k, fun w' => ?_, by simp; omega, by omega, by omega, ?_⟩
  · have e1 : (sizeOf 34).run Try.prog w' = .ok 6 w' := by kernel_rfl
    have e2 : (underlying 26).run Try.prog w' = .ok (.slice 34) w' := by kernel_rfl
    simp [Instr.slice, Instr.sliceBounds, Instr.sliceBound, asIntOf, go_sem, e1, e2, hk]
  · rcases hd with h0 | ⟨b, off, rfl, hlt, hc⟩
    · exact .inl (by omega)
    · by_cases hz : len - k = 0
      · exact .inl hz
      · refine .inr ⟨b, off + k * 6, by rw [if_neg (by omega)]; simp [Addr.add], hlt, fun i hi => ?_⟩
        have := hc (k + i) (by omega)
        rw [show off + k * 6 + i * 6 + 4 = off + (k + i) * 6 + 4 from by omega, this]
        simp

set_option maxRecDepth 100000 in
set_option maxHeartbeats 2000000 in
theorem cut_in {m : Bool} {a1 a2 a3 a4 : Option Addr} {len c1 c2 c3 l4 c4 : Nat} {s1 s4 : List ByteArray} {z2 z3 : List Int} {kk : Int} {W : World}
    (h1 : IsStrs W a1 len c1 s1) (h2 : IsRow .u64 W a2 len c2 z2) (h3 : IsRow .u8 W a3 len c3 z3) (h4 : IsStrs W a4 l4 c4 s4) (hl : len ≤ 65536) (hl4 : l4 ≤ 65536) :
    Calls Try.prog 3 #[.bool m, .slice a1 len c1, .slice a2 len c2, .slice a3 len c3, .slice a4 l4 c4, .int .i64 kk] W fun e w' => e = .returned (.bool true) ∧ Below W.heap.size W w' := by
  obtain ⟨i0, hi, hz0, hz1, hz2⟩ := info_parts Try.info34
  have hneq := fun W => run_neq_slice_nil_any (P := Try.prog) W 22 9 a1 len c1 0 0 Try.underlying22
  have H1 : Hid (IsStrs W a1 len c1 s1) := h1
  have H2 : Hid (IsRow .u64 W a2 len c2 z2) := h2
  have H3 : Hid (IsRow .u8 W a3 len c3 z3) := h3
  have H4 : Hid (IsStrs W a4 l4 c4 s4) := h4
  clear h1 h2 h3 h4
  go_enter Try.func3, Try.ntmps3
  go_wp2_with fail
  refine (bytesCut_any m kk a2 a3 len c2 len c3 H1.out H4.out).mono ?_
  rintro e w' ⟨⟨x, rfl⟩, hw⟩
  obtain rfl : W = w' := hw.symm
  cases x
  · go_wp2
    go_ret
    exact ⟨rfl, Below.refl _ _⟩
  go_upto_block 0 with fail
  go_cut [13, 14] (fun s13 _ wc => (∃ t : Int, s13 = .int .i64 t) ∧ W = wc)
  case first =>
    go_wp2
    go_loop [13, 14] (fun a i => ∃ (k : Nat) (t : Int), k ≤ len ∧ i = .int .i64 k ∧ a = .int .i64 t) (fun _ i => len - (intOf i).toNat)
    case atStart => exact ⟨0, _, Nat.zero_le _, rfl, rfl⟩
    case round =>
      obtain ⟨k, t, hk, rfl, rfl⟩ := hrel
      by_cases hlt : k < len
      · obtain ⟨b, off, rfl, hb, hck⟩ := H1.out.at hlt
        go_wp2
        · exact ⟨⟨k + 1, _, by omega, by go_num, rfl⟩, by simp [intOf]; omega⟩
        · go_meet
          case rel => exact ⟨⟨_, rfl⟩, rfl⟩
      · go_wp2
        go_meet
        case rel => exact ⟨⟨_, rfl⟩, rfl⟩
  case rest =>
    obtain ⟨⟨t1, rfl⟩, rfl⟩ := hcut
    go_upto_block 2 with fail
    go_cut [13, 15] (fun s13 _ wc => (∃ t : Int, s13 = .int .i64 t) ∧ W = wc)
    case first =>
      go_wp2
      go_loop [13, 15] (fun a i => ∃ (k : Nat) (t : Int), k ≤ l4 ∧ i = .int .i64 k ∧ a = .int .i64 t) (fun _ i => l4 - (intOf i).toNat)
      case atStart => exact ⟨0, _, Nat.zero_le _, rfl, rfl⟩
      case round =>
        obtain ⟨k, t, hk, rfl, rfl⟩ := hrel
        by_cases hlt : k < l4
        · obtain ⟨b, off, rfl, hb, hck⟩ := H4.out.at hlt
          go_wp2
          · exact ⟨⟨k + 1, _, by omega, by go_num, rfl⟩, by simp [intOf]; omega⟩
          · go_meet
            case rel => exact ⟨⟨_, rfl⟩, rfl⟩
        · go_wp2
          go_meet
          case rel => exact ⟨⟨_, rfl⟩, rfl⟩
    case rest =>
      obtain ⟨⟨t2, rfl⟩, rfl⟩ := hcut
      by_cases ht2 : (1048576 : Int) < t2
      · go_wp2
        go_ret
        exact ⟨rfl, Below.refl _ _⟩
      go_upto_if 114 with fail
      go_cut [16, 17] (fun s16 _ wc => ∃ ak, s16 = .slice ak len len ∧ IsPts wc ak len len s1 ∧ Below W.heap.size W wc)
      case first =>
        cases a1 with
        | none =>
          go_wp2
          go_meet
          case rel =>
            have e0 : len = 0 := by have e1 := H1.out.2.2.2.1 rfl; have e2 := H1.out.2.1; omega
            subst e0
            exact ⟨none, rfl, ⟨H1.out.1, Nat.le_refl _, by omega, .inl rfl⟩, Below.refl _ _⟩
        | some x =>
          go_wp2_with (at_make; refine wpList_make_full _ rfl _ _ 26 rfl W.heap.size 34 i0 _ 6 Try.underlying26 hi hz0 hz1 _ _ _ _ len rfl rfl (by omega) (by omega) ?b2 ?b3 (Nat.le_refl _) ?_)
          case b2 => omega
          case b3 => unfold maxLen; omega
          intro w0 hown0 hgrow0
          obtain ⟨q, hq⟩ : ∃ q : Nat → Int × ByteArray × Int, q = fun i => (z2.getD i 0, s1.getD i ByteArray.empty, z3.getD i 0) := ⟨_, rfl⟩
          have HQ : Hid (q = fun i => (z2.getD i 0, s1.getD i ByteArray.empty, z3.getD i 0)) := hq
          clear hq
          have R0 : Hid (RowL w0 W.heap.size 34 (pcs (ptsTo q 0 len))) := by
            rw [ptsTo_zero, ← made_pts]
            exact rowL_of_owns hown0 rfl
          have B0 : Hid (Below W.heap.size W w0) := (Below.refl _ _).grown hgrow0 (Nat.le_refl _) (fun k h => by cases h)
          clear hown0 hgrow0 hz0 hz1 hz2 hi hneq
          go_wp2
          go_loopw [17] (fun i wr => ∃ k : Nat, k ≤ len ∧ i = .int .i64 k ∧ RowL wr W.heap.size 34 (pcs (ptsTo q k len)) ∧ Below W.heap.size W wr) (fun i _ => len - (intOf i).toNat)
          case atStart => exact ⟨0, Nat.zero_le _, rfl, R0.out, B0.out⟩
          case round =>
            obtain ⟨k, hk, rfl, hrow, hnx⟩ := hrel
            clear R0 B0
            have R : Hid (RowL wr W.heap.size 34 (pcs (ptsTo q k len))) := hrow
            have N : Hid (Below W.heap.size W wr) := hnx
            clear hrow hnx
            by_cases hlt : k < len
            · obtain ⟨b1, o1, hxb, hb1, hc1⟩ := H1.out.at hlt
              obtain rfl : x = ⟨b1, o1, none⟩ := Option.some.inj hxb
              clear hxb
              obtain ⟨b2, o2, rfl, hb2, hc2⟩ := H2.out.at hlt
              obtain ⟨b3, o3, rfl, hb3, hc3⟩ := H3.out.at hlt
              obtain ⟨t, ht⟩ : ∃ t, t = s1.getD k ByteArray.empty := ⟨_, rfl⟩
              obtain ⟨y, hy⟩ : ∃ y, y = z2.getD k 0 := ⟨_, rfl⟩
              obtain ⟨f, hf0⟩ : ∃ f, f = z3.getD k 0 := ⟨_, rfl⟩
              rw [← ht] at hc1
              rw [← hy] at hc2
              rw [← hf0] at hc3
              have d1 : wr.cell? ⟨b1, o1 + k, none⟩ = some (.string t) := (N.out.cell (p := ⟨b1, o1 + k, none⟩) hb1).trans hc1
              have d2 : wr.cell? ⟨b2, o2 + k, none⟩ = some (.int .u64 y) := (N.out.cell (p := ⟨b2, o2 + k, none⟩) hb2).trans hc2
              have d3 : wr.cell? ⟨b3, o3 + k, none⟩ = some (.int .u8 f) := (N.out.cell (p := ⟨b3, o3 + k, none⟩) hb3).trans hc3
              have HT : Hid (q k = (y, t, f)) := by show q k = (y, t, f); rw [HQ.out, ht, hy, hf0]
              have c0 : wr.cell? ⟨W.heap.size, k * 6, none⟩ = some (.int .u64 0) := R.out.cell (by have := pcs_get (ptsTo_get (q := q) hlt) (show 0 < 6 by omega); rw [Nat.add_zero] at this; rw [this]; rfl)
              have c1 : wr.cell? ⟨W.heap.size, k * 6 + 1, none⟩ = some (.int .u64 0) := R.out.cell (by rw [pcs_get (ptsTo_get hlt) (by omega)]; rfl)
              have c2 : wr.cell? ⟨W.heap.size, k * 6 + 2, none⟩ = some (.int .i64 0) := R.out.cell (by rw [pcs_get (ptsTo_get hlt) (by omega)]; rfl)
              have c3 : wr.cell? ⟨W.heap.size, k * 6 + 3, none⟩ = some (.pointer none) := R.out.cell (by rw [pcs_get (ptsTo_get hlt) (by omega)]; rfl)
              have c4 : wr.cell? ⟨W.heap.size, k * 6 + 4, none⟩ = some (.string ⟨#[]⟩) := R.out.cell (by rw [pcs_get (ptsTo_get hlt) (by omega)]; rfl)
              have c5 : wr.cell? ⟨W.heap.size, k * 6 + 5, none⟩ = some (.int .u8 0) := R.out.cell (by rw [pcs_get (ptsTo_get hlt) (by omega)]; rfl)
              have hf : ∀ j, wr.frozen? ⟨W.heap.size, j, none⟩ = false := R.out.frozen
              have hkI : (0 : Int) ≤ (k : Int) := by omega
              have hltI : (k : Int) < (len : Int) := by omega
              clear ht hy hf0 hc1 hc2 hc3
              go_wp2
              go_region
              go_wp2
              go_roundw
              case rel =>
                have e := R.out.set6 k (y, t, f)
                have eq := HT.out
                rw [← eq, ptsTo_step hlt] at e
                rw [eq] at e
                exact ⟨k + 1, by omega, by go_num, e.drew, (below6 N.out (Nat.le_refl _) k _ _ _ _ _ _).drew⟩
              case measure => simp [intOf]; omega
            · obtain rfl : k = len := by omega
              go_wp2
              go_meet
              case rel =>
                have e := R.out
                rw [ptsTo_end] at e
                have ek : ((List.range k).map q).map (·.2.1) = s1 := by
                  rw [HQ.out]
                  exact range_kinds H1.out.1
                refine ⟨_, rfl, ?_, N.out⟩
                rw [← ek]
                exact isPts_row (by simp) (Nat.le_refl _) (by omega) (fun i hi => row_kind (R := []) (by rw [List.append_nil]; exact e) (by simpa using hi)) e.lt
      case rest =>
        obtain ⟨ak, rfl, hP, hBc⟩ := hcut
        have PT : Hid (IsPts wc ak len len s1) := hP
        have BC : Hid (Below W.heap.size W wc) := hBc
        clear hP hBc hz0 hz1 hz2 hi hneq
        go_wp2_with fail
        refine (points_any hl4 (H4.out.below BC.out)).mono ?_
        rintro e w1 ⟨⟨ar, rfl, hOr⟩, hb1⟩
        have P1 : Hid (IsPts w1 ak len len s1) := PT.out.below hb1
        have B1 : Hid (Below W.heap.size W w1) := BC.out.trans (hb1.mono BC.out.size)
        clear hOr hb1 PT BC
        cases m
        · go_wp2_with fail
          refine (newRet_any _ _ _ _ _ _ _ _).mono ?_
          rintro e w2 ⟨rfl, hb2⟩
          have P2 : Hid (IsPts w2 ak len len s1) := P1.out.below hb2
          have B2 : Hid (Below W.heap.size W w2) := B1.out.trans (hb2.mono B1.out.size)
          clear hb2 P1 B1
          go_wp2_with fail
          obtain ⟨W3, hW3⟩ : ∃ W3, W3 = w2.alloc (.cells #[.slice ar l4 l4, .slice ak len len, .pointer none] 38) := ⟨_, rfl⟩
          rw [← hW3]
          have hb3 : Below w2.heap.size w2 W3 := by rw [hW3]; exact (Below.refl _ _).alloc (Nat.le_refl _) _
          have P3 : Hid (IsPts W3 ak len len s1) := P2.out.below hb3
          have B3 : Hid (Below W.heap.size W W3) := B2.out.trans (hb3.mono B2.out.size)
          have R3 : Hid (RetAt W3 w2.heap.size ar l4 l4 ak len len none) := by rw [hW3]; exact retAt_new _ _ _ _ _ _ _ _
          clear hW3 hb3 P2 B2
          refine (newest_any false (by simp [newest]) P3.out).mono ?_
          rintro e w4 ⟨rfl, hb4⟩
          have R4 : Hid (RetAt w4 w2.heap.size ar l4 l4 ak len len none) := R3.out.below hb4
          have P4 : Hid (IsPts w4 ak len len s1) := P3.out.below hb4
          have B4 : Hid (Below W.heap.size W w4) := B3.out.trans (hb4.mono B3.out.size)
          clear hb4 P3 B3 R3
          obtain ⟨_, d0, d1, d2⟩ := R4.out
          go_wp2_with fail
          refine (merges_any _ _ _ _ _ _ _ _).mono ?_
          rintro e w5 ⟨rfl, hb5⟩
          have P5 : Hid (IsPts w5 ak len len s1) := P4.out.below hb5
          have B5 : Hid (Below W.heap.size W w5) := B4.out.trans (hb5.mono B4.out.size)
          clear hb5 P4 B4 d0 d1 d2 R4
          by_cases hk0 : kk < 1
          · go_wp2
            go_ret
            exact ⟨rfl, B5.out⟩
          · by_cases hk1 : (len : Int) < kk
            · go_wp2
              go_ret
              exact ⟨rfl, B5.out⟩
            · obtain ⟨j, rfl⟩ : ∃ j : Nat, kk = (j : Int) + 1 := ⟨(kk - 1).toNat, by omega⟩
              have hjl : j + 1 ≤ len := by omega
              have hj0 : j ≤ len := by omega
              have EVV := newest_cut false s1 (k := j + 1) (by omega) (by rw [P5.out.1]; exact hjl)
              rw [(show newest false s1 = false from rfl), show j + 1 - 1 = j from rfl] at EVV
              have EV : Hid (false = (newest false (s1.take (j + 1)) && newest false (s1.drop j))) := EVV
              clear EVV
              obtain ⟨a', c', hsl, hPD⟩ := P5.out.drop hj0
              have PD5 : Hid (IsPts w5 a' (len - j) c' (s1.drop j)) := hPD
              have PT5 : Hid (IsPts w5 ak (j + 1) len (s1.take (j + 1))) := P5.out.take hjl
              clear hPD P5
              go_wp2_with fail
              refine (newRet_any _ _ _ _ _ _ _ _).mono ?_
              rintro e w6 ⟨rfl, hb6⟩
              obtain ⟨W6, hW6⟩ : ∃ W6, W6 = w6.alloc (.cells #[.slice ar l4 l4, .slice ak (j + 1) len, .pointer none] 38) := ⟨_, rfl⟩
              have hb6' : Below w6.heap.size w6 W6 := by rw [hW6]; exact (Below.refl _ _).alloc (Nat.le_refl _) _
              have hb56 : Below w5.heap.size w5 W6 := hb6.trans (hb6'.mono hb6.size)
              have PD6 : Hid (IsPts W6 a' (len - j) c' (s1.drop j)) := PD5.out.below hb56
              have PT6 : Hid (IsPts W6 ak (j + 1) len (s1.take (j + 1))) := PT5.out.below hb56
              have B6 : Hid (Below W.heap.size W W6) := B5.out.trans (hb56.mono B5.out.size)
              have R6 : Hid (RetAt W6 w6.heap.size ar l4 l4 ak (j + 1) len none) := by rw [hW6]; exact retAt_new _ _ _ _ _ _ _ _
              have HW6 : Hid (W6 = w6.alloc (.cells #[.slice ar l4 l4, .slice ak (j + 1) len, .pointer none] 38)) := hW6
              clear hW6 hb6' hb56 PD5 PT5 B5 hb6
              go_wp2_with fail
              rw [← HW6.out]
              clear HW6
              refine (newRet_any _ _ _ _ _ _ _ _).mono ?_
              rintro e w7 ⟨rfl, hb7⟩
              obtain ⟨W7, hW7⟩ : ∃ W7, W7 = w7.alloc (.cells #[.slice ar l4 l4, .slice a' (len - j) c', .pointer none] 38) := ⟨_, rfl⟩
              have hb7' : Below w7.heap.size w7 W7 := by rw [hW7]; exact (Below.refl _ _).alloc (Nat.le_refl _) _
              have hb67 : Below W6.heap.size W6 W7 := hb7.trans (hb7'.mono hb7.size)
              have PD7 : Hid (IsPts W7 a' (len - j) c' (s1.drop j)) := PD6.out.below hb67
              have PT7 : Hid (IsPts W7 ak (j + 1) len (s1.take (j + 1))) := PT6.out.below hb67
              have B7 : Hid (Below W.heap.size W W7) := B6.out.trans (hb67.mono B6.out.size)
              have R7 : Hid (RetAt W7 w6.heap.size ar l4 l4 ak (j + 1) len none) := R6.out.below hb67
              have S7 : Hid (RetAt W7 w7.heap.size ar l4 l4 a' (len - j) c' none) := by rw [hW7]; exact retAt_new _ _ _ _ _ _ _ _
              have HW7 : Hid (w7.alloc (.cells #[.slice ar l4 l4, .slice a' (len - j) c', .pointer none] 38) = W7) := hW7.symm
              obtain ⟨_, d0, d1, d2⟩ := R7.out
              rw [hW7] at d0 d1 d2
              clear hW7 hb7' hb67 PD6 PT6 B6 R6 hb7 hsl
              go_wp2_with fail
              rw [HW7.out]
              clear HW7 d0 d1 d2
              refine (newest_any false rfl PT7.out).mono ?_
              rintro e w8 ⟨rfl, hb8⟩
              have B8 : Hid (Below W.heap.size W w8) := B7.out.trans (hb8.mono B7.out.size)
              clear hb8
              go_wp2
              go_ret
              exact ⟨rfl, B8.out⟩
        · have P1x : Hid (IsPts (w1.alloc (.cells #[.slice none 0 0, .slice none 0 0, .pointer none] 38)) ak len len s1) := P1.out.below ((Below.refl _ _).alloc (Nat.le_refl _) _)
          have B1x : Hid (Below W.heap.size W (w1.alloc (.cells #[.slice none 0 0, .slice none 0 0, .pointer none] 38))) := B1.out.alloc B1.out.size _
          clear P1 B1
          have hsl0 := H1.out.1
          by_cases hlen1 : 1 ≤ len
          · obtain ⟨v, hv⟩ : ∃ v, noFull (s1.drop 1) = v := ⟨_, rfl⟩
            have HVN : Hid (noFull (s1.drop 1) = v) := hv
            have HVM : Hid (newest true s1 = v) := by
              show newest true s1 = v
              unfold newest
              rw [hv, decide_eq_true (by omega)]
              rfl
            clear hv
            go_wp2_with fail
            refine (newRet_any _ _ _ _ _ _ _ _).mono ?_
            rintro e w2 ⟨rfl, hb2⟩
            have P2 : Hid (IsPts w2 ak len len s1) := P1x.out.below hb2
            have B2 : Hid (Below W.heap.size W w2) := B1x.out.trans (hb2.mono B1x.out.size)
            clear hb2 P1x B1x
            go_wp2_with fail
            obtain ⟨W3, hW3⟩ : ∃ W3, W3 = w2.alloc (.cells #[.slice ar l4 l4, .slice ak len len, .pointer (some ⟨w1.heap.size, 0, none⟩)] 38) := ⟨_, rfl⟩
            rw [← hW3]
            have hb3 : Below w2.heap.size w2 W3 := by rw [hW3]; exact (Below.refl _ _).alloc (Nat.le_refl _) _
            have P3 : Hid (IsPts W3 ak len len s1) := P2.out.below hb3
            have B3 : Hid (Below W.heap.size W W3) := B2.out.trans (hb3.mono B2.out.size)
            have R3 : Hid (RetAt W3 w2.heap.size ar l4 l4 ak len len (some ⟨w1.heap.size, 0, none⟩)) := by rw [hW3]; exact retAt_new _ _ _ _ _ _ _ _
            clear hW3 hb3 P2 B2
            refine (noFull_any 1 (Nat.le_refl _) (H1.out.below B3.out)).mono ?_
            rintro e w3' ⟨rfl, hw3⟩
            obtain rfl : W3 = w3' := hw3.symm
            rw [HVN.out]
            obtain ⟨_, f0, f1, f2⟩ := R3.out
            go_wp2_with fail
            clear f0 f1 f2
            refine (newest_any v (by exact HVM.out) P3.out).mono ?_
            rintro e w4 ⟨rfl, hb4⟩
            have R4 : Hid (RetAt w4 w2.heap.size ar l4 l4 ak len len (some ⟨w1.heap.size, 0, none⟩)) := R3.out.below hb4
            have P4 : Hid (IsPts w4 ak len len s1) := P3.out.below hb4
            have B4 : Hid (Below W.heap.size W w4) := B3.out.trans (hb4.mono B3.out.size)
            clear hb4 P3 B3 R3
            obtain ⟨_, d0, d1, d2⟩ := R4.out
            go_wp2_with fail
            refine (merges_any _ _ _ _ _ _ _ _).mono ?_
            rintro e w5 ⟨rfl, hb5⟩
            have P5 : Hid (IsPts w5 ak len len s1) := P4.out.below hb5
            have B5 : Hid (Below W.heap.size W w5) := B4.out.trans (hb5.mono B4.out.size)
            clear hb5 P4 B4 d0 d1 d2 R4
            by_cases hk0 : kk < 1
            · go_wp2
              go_ret
              exact ⟨rfl, B5.out⟩
            · by_cases hk1 : (len : Int) < kk
              · go_wp2
                go_ret
                exact ⟨rfl, B5.out⟩
              · obtain ⟨j, rfl⟩ : ∃ j : Nat, kk = (j : Int) + 1 := ⟨(kk - 1).toNat, by omega⟩
                have hjl : j + 1 ≤ len := by omega
                have hj0 : j ≤ len := by omega
                have EVV := newest_cut true s1 (k := j + 1) (by omega) (by rw [P5.out.1]; exact hjl)
                rw [HVM.out, show j + 1 - 1 = j from rfl] at EVV
                have EV : Hid (v = (newest true (s1.take (j + 1)) && newest true (s1.drop j))) := EVV
                clear EVV
                obtain ⟨a', c', hsl, hPD⟩ := P5.out.drop hj0
                have PD5 : Hid (IsPts w5 a' (len - j) c' (s1.drop j)) := hPD
                have PT5 : Hid (IsPts w5 ak (j + 1) len (s1.take (j + 1))) := P5.out.take hjl
                clear hPD P5
                go_wp2_with fail
                refine (newRet_any _ _ _ _ _ _ _ _).mono ?_
                rintro e w6 ⟨rfl, hb6⟩
                obtain ⟨W6, hW6⟩ : ∃ W6, W6 = w6.alloc (.cells #[.slice ar l4 l4, .slice ak (j + 1) len, .pointer (some ⟨w1.heap.size, 0, none⟩)] 38) := ⟨_, rfl⟩
                have hb6' : Below w6.heap.size w6 W6 := by rw [hW6]; exact (Below.refl _ _).alloc (Nat.le_refl _) _
                have hb56 : Below w5.heap.size w5 W6 := hb6.trans (hb6'.mono hb6.size)
                have PD6 : Hid (IsPts W6 a' (len - j) c' (s1.drop j)) := PD5.out.below hb56
                have PT6 : Hid (IsPts W6 ak (j + 1) len (s1.take (j + 1))) := PT5.out.below hb56
                have B6 : Hid (Below W.heap.size W W6) := B5.out.trans (hb56.mono B5.out.size)
                have R6 : Hid (RetAt W6 w6.heap.size ar l4 l4 ak (j + 1) len (some ⟨w1.heap.size, 0, none⟩)) := by rw [hW6]; exact retAt_new _ _ _ _ _ _ _ _
                have HW6 : Hid (W6 = w6.alloc (.cells #[.slice ar l4 l4, .slice ak (j + 1) len, .pointer (some ⟨w1.heap.size, 0, none⟩)] 38)) := hW6
                clear hW6 hb6' hb56 PD5 PT5 B5 hb6
                go_wp2_with fail
                rw [← HW6.out]
                clear HW6
                refine (newRet_any _ _ _ _ _ _ _ _).mono ?_
                rintro e w7 ⟨rfl, hb7⟩
                obtain ⟨W7, hW7⟩ : ∃ W7, W7 = w7.alloc (.cells #[.slice ar l4 l4, .slice a' (len - j) c', .pointer (some ⟨w1.heap.size, 0, none⟩)] 38) := ⟨_, rfl⟩
                have hb7' : Below w7.heap.size w7 W7 := by rw [hW7]; exact (Below.refl _ _).alloc (Nat.le_refl _) _
                have hb67 : Below W6.heap.size W6 W7 := hb7.trans (hb7'.mono hb7.size)
                have PD7 : Hid (IsPts W7 a' (len - j) c' (s1.drop j)) := PD6.out.below hb67
                have PT7 : Hid (IsPts W7 ak (j + 1) len (s1.take (j + 1))) := PT6.out.below hb67
                have B7 : Hid (Below W.heap.size W W7) := B6.out.trans (hb67.mono B6.out.size)
                have R7 : Hid (RetAt W7 w6.heap.size ar l4 l4 ak (j + 1) len (some ⟨w1.heap.size, 0, none⟩)) := R6.out.below hb67
                have S7 : Hid (RetAt W7 w7.heap.size ar l4 l4 a' (len - j) c' (some ⟨w1.heap.size, 0, none⟩)) := by rw [hW7]; exact retAt_new _ _ _ _ _ _ _ _
                have HW7 : Hid (w7.alloc (.cells #[.slice ar l4 l4, .slice a' (len - j) c', .pointer (some ⟨w1.heap.size, 0, none⟩)] 38) = W7) := hW7.symm
                obtain ⟨_, d0, d1, d2⟩ := R7.out
                rw [hW7] at d0 d1 d2
                clear hW7 hb7' hb67 PD6 PT6 B6 R6 hb7 hsl
                go_wp2_with fail
                rw [HW7.out]
                clear HW7 d0 d1 d2
                cases hvp : newest true (s1.take (j + 1)) with
                | false =>
                  have ev : v = false := by rw [EV.out, hvp]; rfl
                  subst ev
                  refine (newest_any false (by exact hvp) PT7.out).mono ?_
                  rintro e w8 ⟨rfl, hb8⟩
                  have B8 : Hid (Below W.heap.size W w8) := B7.out.trans (hb8.mono B7.out.size)
                  clear hb8 hvp
                  go_wp2
                  go_ret
                  exact ⟨rfl, B8.out⟩
                | true =>
                  have hvq : newest true (s1.drop j) = v := by rw [EV.out, hvp]; rfl
                  have HVQ : Hid (newest true (s1.drop j) = v) := hvq
                  refine (newest_any true (by exact hvp) PT7.out).mono ?_
                  rintro e w8 ⟨rfl, hb8⟩
                  have B8 : Hid (Below W.heap.size W w8) := B7.out.trans (hb8.mono B7.out.size)
                  have S8 : Hid (RetAt w8 w7.heap.size ar l4 l4 a' (len - j) c' (some ⟨w1.heap.size, 0, none⟩)) := S7.out.below hb8
                  have PD8 : Hid (IsPts w8 a' (len - j) c' (s1.drop j)) := PD7.out.below hb8
                  clear hb8 hvp hvq EV HVM HVN
                  obtain ⟨_, d0, d1, d2⟩ := S8.out
                  cases v
                  · go_wp2_with fail
                    refine (newest_any false (by exact HVQ.out) PD8.out).mono ?_
                    rintro e w9 ⟨rfl, hb9⟩
                    have B9 : Hid (Below W.heap.size W w9) := B8.out.trans (hb9.mono B8.out.size)
                    clear hb9
                    go_wp2
                    go_ret
                    exact ⟨rfl, B9.out⟩
                  · go_wp2_with fail
                    refine (newest_any true (by exact HVQ.out) PD8.out).mono ?_
                    rintro e w9 ⟨rfl, hb9⟩
                    have B9 : Hid (Below W.heap.size W w9) := B8.out.trans (hb9.mono B8.out.size)
                    clear hb9
                    go_wp2
                    go_ret
                    exact ⟨rfl, B9.out⟩
          · have HVM : Hid (newest true s1 = false) := by
              show newest true s1 = false
              unfold newest
              rw [decide_eq_false (by omega)]
              rfl
            go_wp2_with fail
            refine (newRet_any _ _ _ _ _ _ _ _).mono ?_
            rintro e w2 ⟨rfl, hb2⟩
            have P2 : Hid (IsPts w2 ak len len s1) := P1x.out.below hb2
            have B2 : Hid (Below W.heap.size W w2) := B1x.out.trans (hb2.mono B1x.out.size)
            clear hb2 P1x B1x
            go_wp2_with fail
            obtain ⟨W3, hW3⟩ : ∃ W3, W3 = w2.alloc (.cells #[.slice ar l4 l4, .slice ak len len, .pointer (some ⟨w1.heap.size, 0, none⟩)] 38) := ⟨_, rfl⟩
            rw [← hW3]
            have hb3 : Below w2.heap.size w2 W3 := by rw [hW3]; exact (Below.refl _ _).alloc (Nat.le_refl _) _
            have P3 : Hid (IsPts W3 ak len len s1) := P2.out.below hb3
            have B3 : Hid (Below W.heap.size W W3) := B2.out.trans (hb3.mono B2.out.size)
            have R3 : Hid (RetAt W3 w2.heap.size ar l4 l4 ak len len (some ⟨w1.heap.size, 0, none⟩)) := by rw [hW3]; exact retAt_new _ _ _ _ _ _ _ _
            clear hW3 hb3 P2 B2
            refine (newest_any false (by exact HVM.out) P3.out).mono ?_
            rintro e w4 ⟨rfl, hb4⟩
            have R4 : Hid (RetAt w4 w2.heap.size ar l4 l4 ak len len (some ⟨w1.heap.size, 0, none⟩)) := R3.out.below hb4
            have P4 : Hid (IsPts w4 ak len len s1) := P3.out.below hb4
            have B4 : Hid (Below W.heap.size W w4) := B3.out.trans (hb4.mono B3.out.size)
            clear hb4 P3 B3 R3
            obtain ⟨_, d0, d1, d2⟩ := R4.out
            go_wp2_with fail
            refine (merges_any _ _ _ _ _ _ _ _).mono ?_
            rintro e w5 ⟨rfl, hb5⟩
            have P5 : Hid (IsPts w5 ak len len s1) := P4.out.below hb5
            have B5 : Hid (Below W.heap.size W w5) := B4.out.trans (hb5.mono B4.out.size)
            clear hb5 P4 B4 d0 d1 d2 R4
            by_cases hk0 : kk < 1
            · go_wp2
              go_ret
              exact ⟨rfl, B5.out⟩
            · by_cases hk1 : (len : Int) < kk
              · go_wp2
                go_ret
                exact ⟨rfl, B5.out⟩
              · omega
end Go.Proofs.Qxb6616338a
