import Derived.Test.Qxb6616332aForm
namespace Go.Proofs.Qxb6616332a
open Go.RowKit

/-- 'nodes[k:]': SOME slice that holds the tail. -/
theorem NodesIn.drop {w : World} {B : Nat} {a : Option Addr} {len cap : Nat} {zs : List Int} (h : NodesIn w B a len zs) (hc : len ≤ cap) {k : Nat} (hk : k ≤ len) :
    ∃ a' c', (∀ w', (Instr.slice 33 (.slice a len cap) (some (.int .i64 k)) none none).run Try.prog w' = .ok (.slice a' (len - k) c') w') ∧ NodesIn w B a' (len - k) (zs.drop k) := by
  obtain ⟨h1, h2, h3, hd⟩ := h
  refine ⟨if cap = k then a else a.map (·.add (k * 1)), cap - k, fun w' => ?_, by simp; omega, by omega, fun n hn => h3 n (List.mem_of_mem_drop hn), ?_⟩
  · have e1 : (sizeOf 21).run Try.prog w' = .ok 1 w' := by kernel_rfl
    have e2 : (underlying 33).run Try.prog w' = .ok (.slice 21) w' := by kernel_rfl
    simp [Instr.slice, Instr.sliceBounds, Instr.sliceBound, asIntOf, go_sem, e1, e2, hk]
  · rcases hd with h0 | ⟨b, off, rfl, hlt, hcl⟩
    · exact .inl (by omega)
    · by_cases hz : len - k = 0
      · exact .inl hz
      · refine .inr ⟨b, off + k, by rw [if_neg (by omega)]; simp [Addr.add], hlt, fun i hi => ?_⟩
        have := hcl (k + i) (by omega)
        rw [Nat.add_assoc, this]
        simp
/-- 'nodes[:k]' -/
theorem NodesIn.take {w : World} {B : Nat} {a : Option Addr} {len : Nat} {zs : List Int} (h : NodesIn w B a len zs) {k : Nat} (hk : k ≤ len) : NodesIn w B a k (zs.take k) := by
  obtain ⟨h1, h2, h3, h0 | ⟨b, off, rfl, hlt, hc⟩⟩ := h
  · exact ⟨by simp; omega, by omega, fun n hn => h3 n (List.mem_of_mem_take hn), .inl (by omega)⟩
  · refine ⟨by simp; omega, by omega, fun n hn => h3 n (List.mem_of_mem_take hn), .inr ⟨b, off, rfl, hlt, fun i hi => ?_⟩⟩
    rw [hc i (by omega)]
    simp [hi]
theorem Fits.take {skip : Int} {n : Nat} {l : List Int} (h : Fits skip n l) (k : Nat) : Fits skip n (l.take k) := fun u hu => h u (List.mem_of_mem_take hu)
theorem Fits.drop {skip : Int} {n : Nat} {l : List Int} (h : Fits skip n l) (k : Nat) : Fits skip n (l.drop k) := fun u hu => h u (List.mem_of_mem_drop hu)

set_option maxRecDepth 100000 in
set_option maxHeartbeats 2000000 in
theorem cut_in {a0 a3 : Option Addr} {len0 cap0 len3 cap3 : Nat} {z0 z3 : List Int} {lo hi skip : Int} {kk : Nat} {up : Bool} {W : World} (h0 : IsRow .i64 W a0 len0 cap0 z0) (wlo : (Lit.int .i64 lo).wf = true) (whi : (Lit.int .i64 hi).wf = true) (h3 : IsRow .i32 W a3 len3 cap3 z3) (wsk : (Lit.int .i64 skip).wf = true)
    (hl0 : len0 ≤ 32768) (hl3 : len3 ≤ 65536) (hkk : kk ≤ len3) :
    Calls Try.prog 5 #[.slice a0 len0 cap0, .int .i64 lo, .int .i64 hi, .slice a3 len3 cap3, .int .i64 kk, .int .i64 skip, .bool up] W fun e w' => e = .returned (.bool true) ∧ Below W.heap.size W w' := by
  obtain ⟨i21, hi21, hz0, hz1, hz2⟩ := info_parts Try.info21
  have hneq := fun W => run_neq_slice_nil_any (P := Try.prog) W 33 21 a3 len3 cap3 0 0 Try.underlying33
  have H0 : Hid (IsRow .i64 W a0 len0 cap0 z0) := h0
  have H3 : Hid (IsRow .i32 W a3 len3 cap3 z3) := h3
  have WLO := (show Hid _ from wlo)
  have WHI := (show Hid _ from whi)
  have WSK := (show Hid _ from wsk)
  clear h0 h3 wlo whi wsk
  go_enter Try.func5, Try.ntmps5
  go_wp2_with fail
  refine (bytesCut_any a0 a3 len0 cap0 len3 cap3 lo hi kk skip up W).mono ?_
  rintro e w' ⟨⟨x, rfl⟩, hw⟩
  obtain rfl : W = w' := hw.symm
  cases x
  · go_wp2
    go_ret
    exact ⟨rfl, Below.refl _ _⟩
  go_upto_if 50 with fail
  go_cut [3, 15] (fun s3 _ wc => ∃ an cn, s3 = .slice an len3 cn ∧ len3 ≤ cn ∧ NodesIn wc wc.heap.size an len3 z3 ∧ Below W.heap.size W wc)
  case first =>
    cases a3 with
    | none =>
      go_wp2
      go_meet
      case rel => exact ⟨none, cap3, rfl, H3.out.2.1, ⟨H3.out.1, hl3, H3.out.2.2.2.1, .inl (by have h1 := H3.out.2.2.2.2.1 rfl; have h2 := H3.out.2.1; omega)⟩, Below.refl _ _⟩
    | some x =>
      go_wp2_with (at_make; refine wpList_make_full _ rfl _ _ 33 rfl W.heap.size 21 i21 (.int .i32 0) 1 Try.underlying33 hi21 hz0 hz1 _ _ _ _ len3 rfl rfl (by omega) (by omega) ?b2 ?b3 (Nat.le_refl _) ?_)
      case b2 => rw [hz2]; omega
      case b3 => unfold maxLen; omega
      intro w0 hown0 hgrow0
      have R0 : Hid (RowL w0 W.heap.size 21 (List.replicate len3 (.int .i32 0))) := by
        rw [← made_one]
        exact rowL_of_owns hown0 rfl
      have B0 : Hid (Below W.heap.size W w0) := (Below.refl _ _).grown hgrow0 (Nat.le_refl _) (fun k h => by cases h)
      clear hown0 hgrow0
      obtain ⟨w1, hcopy, hR1, hB1⟩ := copy_eq R0.out (H3.out.below B0.out)
      have R1 : Hid (RowL w1 W.heap.size 21 (ints .i32 z3)) := hR1
      have B1 : Hid (Below W.heap.size W w1) := hB1 _ _ B0.out (Nat.le_refl _)
      clear hR1 hB1
      clear R0 B0
      go_wp2
      go_meet
      case rel => exact ⟨_, len3, rfl, Nat.le_refl _, nodesIn_row H3.out.1 hl3 H3.out.2.2.2.1 R1.out, B1.out⟩
  case rest =>
    obtain ⟨an, cn, rfl, hcn, hNI, hBc⟩ := hcut
    have NI : Hid (NodesIn wc wc.heap.size an len3 z3) := hNI
    have BC : Hid (Below W.heap.size W wc) := hBc
    clear hNI hBc hneq hz0 hz1 hz2 hi21
    go_wp2
    go_loop [16] (fun i => ∃ k : Nat, k ≤ len3 ∧ i = .int .i64 k ∧ Fits skip len0 (z3.take k)) (fun i => len3 - (intOf i).toNat)
    case atStart => exact ⟨0, Nat.zero_le _, rfl, fun u hu => by cases hu⟩
    case round =>
      obtain ⟨k, hk, rfl, hfit⟩ := hrel
      have FK : Hid (Fits skip len0 (z3.take k)) := hfit
      clear hfit
      by_cases hlt : k < len3
      · obtain ⟨b, off, rfl, hb, hc0⟩ := NI.out.at hlt
        have hkl : k < z3.length := by rw [NI.out.1]; exact hlt
        obtain ⟨u, hu⟩ : ∃ u, u = z3.getD k 0 := ⟨_, rfl⟩
        rw [← hu] at hc0
        have HU : Hid (u = z3.getD k 0) := hu
        have hub := bounds_i32 (NI.out.2.2.1 u (by rw [hu, show z3.getD k 0 = z3[k] from by simp [hkl]]; exact List.getElem_mem hkl))
        have hub1 := hub.1
        have hub2 := hub.2
        clear hu hub
        by_cases hs : u = skip
        · have hq : (u != skip) = false := by simp [hs]
          go_wp2
          go_round
          case rel => exact ⟨k + 1, by omega, by go_num, Fits.snoc hkl HU.out FK.out (.inl hs)⟩
          case measure => simp [intOf]; omega
        · have hq : (u != skip) = true := by simp [hs]
          by_cases h1 : u < 0
          · go_wp2
            go_ret
            exact ⟨rfl, BC.out⟩
          · by_cases h2 : (len0 : Int) ≤ u
            · go_wp2
              go_ret
              exact ⟨rfl, BC.out⟩
            · go_wp2
              go_round
              case rel => exact ⟨k + 1, by omega, by go_num, Fits.snoc hkl HU.out FK.out (.inr ⟨by omega, by omega⟩)⟩
              case measure => simp [intOf]; omega
      · have FF : Hid (Fits skip len0 z3) := by
          have e := FK.out
          rw [List.take_of_length_le (by rw [NI.out.1]; omega)] at e
          exact e
        clear FK
        -- table a, piled whole
        go_wp2_with fail
        refine (clone_any hl0 (H0.out.below BC.out)).mono ?_
        rintro e w1 ⟨⟨a1, rfl, hO1⟩, hb1⟩
        have O1 : Hid (OwnI w1 wc.heap.size a1 len0 z0) := hO1
        have B1 : Hid (Below wc.heap.size wc w1) := hb1
        clear hO1 hb1
        go_wp2_with fail
        refine (newTab_any a1 len0 lo hi w1).mono ?_
        rintro e w2 ⟨rfl, hw2⟩
        have T2 : Hid (TabIs w2 w1.heap.size a1 len0 lo hi) := by rw [hw2]; exact tabIs_new _ _ _ _ _
        have O2 : Hid (OwnI w2 wc.heap.size a1 len0 z0) := by rw [hw2]; exact O1.out.below ((Below.refl _ _).alloc (Nat.le_refl _) _) (Nat.le_refl _)
        have B2 : Hid (Below wc.heap.size wc w2) := by rw [hw2]; exact B1.out.alloc B1.out.size _
        have hL : wc.heap.size ≤ w1.heap.size := B1.out.size
        clear hw2 O1 B1
        go_wp2_with fail
        refine (pileZ_any hL (NI.out.below B2.out (Nat.le_refl _)) FF.out T2.out O2.out).mono ?_
        rintro e w3 ⟨rfl, hT3, hO3, hb3⟩
        obtain ⟨s, hs⟩ : ∃ s, s = pile skip up z3 (z0, lo, hi) := ⟨_, rfl⟩
        rw [← hs] at hT3 hO3
        have HS : Hid (s = pile skip up z3 (z0, lo, hi)) := hs
        have T3 : Hid (TabIs w3 w1.heap.size a1 len0 s.2.1 s.2.2) := hT3
        have O3 : Hid (OwnI w3 wc.heap.size a1 len0 s.1) := hO3
        have NI3 : Hid (NodesIn w3 wc.heap.size an len3 z3) := (NI.out.below B2.out (Nat.le_refl _)).below hb3 (Nat.le_refl _)
        have BW3 : Hid (Below W.heap.size W w3) := BC.out.trans ((B2.out.trans hb3).mono BC.out.size)
        have hB3 : wc.heap.size ≤ w3.heap.size := (B2.out.trans hb3).size
        clear hs hT3 hO3 hb3 T2 O2 B2 BC NI
        -- table b, piled in two
        go_wp2_with fail
        refine (clone_any hl0 (H0.out.below BW3.out)).mono ?_
        rintro e w4 ⟨⟨a4, rfl, hO4⟩, hb4⟩
        have O4 : Hid (OwnI w4 w3.heap.size a4 len0 z0) := hO4
        have B4 : Hid (Below w3.heap.size w3 w4) := hb4
        clear hO4 hb4
        go_wp2_with fail
        refine (newTab_any a4 len0 lo hi w4).mono ?_
        rintro e w5 ⟨rfl, hw5⟩
        have T5 : Hid (TabIs w5 w4.heap.size a4 len0 lo hi) := by rw [hw5]; exact tabIs_new _ _ _ _ _
        have O5 : Hid (OwnI w5 w3.heap.size a4 len0 z0) := by rw [hw5]; exact O4.out.below ((Below.refl _ _).alloc (Nat.le_refl _) _) (Nat.le_refl _)
        have B5 : Hid (Below w3.heap.size w3 w5) := by rw [hw5]; exact B4.out.alloc B4.out.size _
        have hL4 : w3.heap.size ≤ w4.heap.size := B4.out.size
        clear hw5 O4 B4
        have N5 : Hid (NodesIn w5 w3.heap.size an len3 z3) := (NI3.out.mono hB3).below B5.out (Nat.le_refl _)
        obtain ⟨ad, cd, hsl, hND⟩ := N5.out.drop hcn hkk
        have ND : Hid (NodesIn w5 w3.heap.size ad (len3 - kk) (z3.drop kk)) := hND
        clear hND
        go_wp2_with fail
        refine (pileZ_any hL4 ND.out (FF.out.drop kk) T5.out O5.out).mono ?_
        rintro e w6 ⟨rfl, hT6, hO6, hb6⟩
        obtain ⟨r, hr⟩ : ∃ r, r = pile skip up (z3.drop kk) (z0, lo, hi) := ⟨_, rfl⟩
        rw [← hr] at hT6 hO6
        have HR : Hid (r = pile skip up (z3.drop kk) (z0, lo, hi)) := hr
        have T6 : Hid (TabIs w6 w4.heap.size a4 len0 r.2.1 r.2.2) := hT6
        have O6 : Hid (OwnI w6 w3.heap.size a4 len0 r.1) := hO6
        have B6 : Hid (Below w3.heap.size w3 w6) := B5.out.trans hb6
        have N6 : Hid (NodesIn w6 w3.heap.size an len3 z3) := N5.out.below hb6 (Nat.le_refl _)
        clear hr hT6 hO6 hb6 T5 O5 B5 N5 ND hsl
        go_wp2_with fail
        refine (pileZ_any hL4 (N6.out.take hkk) (FF.out.take kk) T6.out O6.out).mono ?_
        rintro e w7 ⟨rfl, hT7, hO7, hb7⟩
        have es : pile skip up (z3.take kk) (r.1, r.2.1, r.2.2) = s := by
          rw [HS.out]
          exact (congrArg (pile skip up (z3.take kk)) HR.out).trans (pile_split skip up z3 kk _)
        rw [es] at hT7 hO7
        have T7 : Hid (TabIs w7 w4.heap.size a4 len0 s.2.1 s.2.2) := hT7
        have O7 : Hid (OwnI w7 w3.heap.size a4 len0 s.1) := hO7
        have B7 : Hid (Below w3.heap.size w3 w7) := B6.out.trans hb7
        have TA : Hid (TabIs w7 w1.heap.size a1 len0 s.2.1 s.2.2) := T3.out.below B7.out T3.out.lt
        have OA : Hid (OwnI w7 wc.heap.size a1 len0 s.1) := O3.out.below B7.out (Nat.le_refl _)
        have N7 : Hid (NodesIn w7 w3.heap.size an len3 z3) := N6.out.below hb7 (Nat.le_refl _)
        have BW7 : Hid (Below W.heap.size W w7) := BW3.out.trans (B7.out.mono BW3.out.size)
        have hB7 : w3.heap.size ≤ w7.heap.size := B7.out.size
        clear es hT7 hO7 hb7 T6 O6 B6 N6 HR T3 O3 B7 BW3 NI3
        -- the two tables are alike
        go_wp2_with fail
        refine (order_get TA.out).mono ?_
        rintro e w8 ⟨rfl, hw8⟩
        obtain rfl : w7 = w8 := hw8.symm
        go_wp2_with fail
        refine (lowest_get TA.out).mono ?_
        rintro e w8 ⟨rfl, hw8⟩
        obtain rfl : w7 = w8 := hw8.symm
        go_wp2_with fail
        refine (highest_get TA.out).mono ?_
        rintro e w8 ⟨rfl, hw8⟩
        obtain rfl : w7 = w8 := hw8.symm
        go_wp2_with fail
        refine (order_get T7.out).mono ?_
        rintro e w8 ⟨rfl, hw8⟩
        obtain rfl : w7 = w8 := hw8.symm
        go_wp2_with fail
        refine (same_yes OA.out.isRow O7.out.isRow).mono ?_
        rintro e w9 ⟨rfl, hb9⟩
        have T9 : Hid (TabIs w9 w4.heap.size a4 len0 s.2.1 s.2.2) := T7.out.below hb9 T7.out.lt
        have O9 : Hid (OwnI w9 wc.heap.size a1 len0 s.1) := OA.out.below hb9 (Nat.le_refl _)
        have N9 : Hid (NodesIn w9 w3.heap.size an len3 z3) := N7.out.below hb9 hB7
        have B9 : Hid (Below W.heap.size W w9) := BW7.out.trans (hb9.mono BW7.out.size)
        clear hb9 T7 O7 TA OA N7 BW7
        go_wp2_with fail
        refine (lowest_get T9.out).mono ?_
        rintro e w8 ⟨rfl, hw8⟩
        obtain rfl : w9 = w8 := hw8.symm
        go_wp2_with fail
        refine (highest_get T9.out).mono ?_
        rintro e w8 ⟨rfl, hw8⟩
        obtain rfl : w9 = w8 := hw8.symm
        clear T9
        go_wp2
        go_loop [22, 23, 24] (fun c f i => ∃ k : Nat, k ≤ len3 ∧ i = .int .i64 k ∧ c = .int .i64 (cnt skip (z3.take k)) ∧ ((cnt skip (z3.take k) = 0 ∧ f = .int .i64 (-1)) ∨ ∃ j : Nat, j < k ∧ f = .int .i64 j ∧ z3.getD j 0 ≠ skip ∧ cnt skip (z3.take j) = 0 ∧ 0 < cnt skip (z3.take k))) (fun _ _ i => len3 - (intOf i).toNat)
        case atStart => exact ⟨0, Nat.zero_le _, rfl, rfl, .inl ⟨rfl, rfl⟩⟩
        case round =>
          obtain ⟨k2, hk2, rfl, rfl, hrl⟩ := hrel
          obtain ⟨c, hc⟩ : ∃ c, c = cnt skip (z3.take k2) := ⟨_, rfl⟩
          rw [← hc] at hrl ⊢
          have hcl : c ≤ k2 := by
            have h1 := cnt_le skip (z3.take k2)
            rw [List.length_take] at h1
            omega
          have HC : Hid (c = cnt skip (z3.take k2)) := hc
          clear hc
          by_cases hlt2 : k2 < len3
          · obtain ⟨b, off, rfl, hb, hc0⟩ := N9.out.at hlt2
            have hkl : k2 < z3.length := by rw [N9.out.1]; exact hlt2
            obtain ⟨u, hu⟩ : ∃ u, u = z3.getD k2 0 := ⟨_, rfl⟩
            rw [← hu] at hc0
            have HU : Hid (u = z3.getD k2 0) := hu
            have hub := bounds_i32 (N9.out.2.2.1 u (by rw [hu, show z3.getD k2 0 = z3[k2] from by simp [hkl]]; exact List.getElem_mem hkl))
            have hub1 := hub.1
            have hub2 := hub.2
            clear hu hub
            rcases hrl with ⟨hz, rfl⟩ | ⟨j, hj, rfl, hj1, hj2, hj3⟩
            · subst hz
              by_cases hsk : u = skip
              · have hq : (u != skip) = false := by simp [hsk]
                have ec : cnt skip (z3.take (k2 + 1)) = 0 := by rw [take_snoc hkl, ← HU.out, cnt_append, cnt_cons_skip hsk, cnt_nil, ← HC.out]
                have EC := (show Hid _ from ec)
                clear ec
                go_wp2
                go_round
                case rel => exact ⟨k2 + 1, by omega, by go_num, by rw [EC.out], .inl ⟨EC.out, rfl⟩⟩
                case measure => simp [intOf]; omega
              · have hq : (u != skip) = true := by simp [hsk]
                have ec : cnt skip (z3.take (k2 + 1)) = 1 := by rw [take_snoc hkl, ← HU.out, cnt_append, cnt_cons_ne hsk, cnt_nil, ← HC.out]
                have EC := (show Hid _ from ec)
                clear ec
                go_wp2
                go_round
                case rel => exact ⟨k2 + 1, by omega, by go_num, by rw [EC.out]; rfl, .inr ⟨k2, by omega, rfl, by rw [← HU.out]; exact hsk, HC.out.symm, by rw [EC.out]; omega⟩⟩
                case measure => simp [intOf]; omega
            · have HJ1 := (show Hid _ from hj1)
              have HJ2 := (show Hid _ from hj2)
              clear hj1 hj2
              by_cases hsk : u = skip
              · have hq : (u != skip) = false := by simp [hsk]
                have ec : cnt skip (z3.take (k2 + 1)) = c := by rw [take_snoc hkl, ← HU.out, cnt_append, cnt_cons_skip hsk, cnt_nil, ← HC.out]; rfl
                have EC := (show Hid _ from ec)
                clear ec
                go_wp2
                go_round
                case rel => exact ⟨k2 + 1, by omega, by go_num, by rw [EC.out], .inr ⟨j, by omega, rfl, HJ1.out, HJ2.out, by rw [EC.out]; exact hj3⟩⟩
                case measure => simp [intOf]; omega
              · have hq : (u != skip) = true := by simp [hsk]
                have ec : cnt skip (z3.take (k2 + 1)) = c + 1 := by rw [take_snoc hkl, ← HU.out, cnt_append, cnt_cons_ne hsk, cnt_nil, ← HC.out]
                have EC := (show Hid _ from ec)
                clear ec
                go_wp2
                go_round
                case rel => exact ⟨k2 + 1, by omega, by go_num, by rw [EC.out]; go_num, .inr ⟨j, by omega, rfl, HJ1.out, HJ2.out, by rw [EC.out]; omega⟩⟩
                case measure => simp [intOf]; omega
          · have hcn2 : c = cnt skip z3 := by
              rw [HC.out, List.take_of_length_le (by rw [N9.out.1]; omega)]
            have HCN : Hid (c = cnt skip z3) := hcn2
            have hcl3 : c ≤ 65536 := by omega
            clear hcn2 HC
            rcases hrl with ⟨hz, rfl⟩ | ⟨j, hj, rfl, hj1, hj2, hj3⟩
            · subst hz
              have e0 : s = (z0, lo, hi) := by rw [HS.out, cnt_zero_pile HCN.out.symm]
              have O9' : Hid (OwnI w9 wc.heap.size a1 len0 z0) := by
                have e := O9.out
                rw [e0] at e
                exact e
              rw [e0]
              clear e0 O9 HS
              go_wp2_with fail
              refine (same_yes O9'.out.isRow (H0.out.below B9.out)).mono ?_
              rintro e w10 ⟨rfl, hb10⟩
              have B10 : Hid (Below W.heap.size W w10) := B9.out.trans (hb10.mono B9.out.size)
              clear hb10
              go_wp2
              go_ret
              exact ⟨rfl, B10.out⟩
            · have HJ1 := (show Hid _ from hj1)
              have HJ2 := (show Hid _ from hj2)
              clear hj1 hj2
              have lb := bounds_i64 WLO.out
              have hb' := bounds_i64 WHI.out
              have hq0 : ((c : Int) == 0) = false := by rw [beq_eq_false_iff_ne]; omega
              have hj3' : j < len3 := by omega
              obtain ⟨b, off, rfl, hb, hc0⟩ := N9.out.at hj3'
              have hjl : j < z3.length := by rw [N9.out.1]; exact hj3'
              obtain ⟨u, hu⟩ : ∃ u, u = z3.getD j 0 := ⟨_, rfl⟩
              rw [← hu] at hc0
              have hmem : u ∈ z3 := by rw [hu, show z3.getD j 0 = z3[j] from by simp [hjl]]; exact List.getElem_mem hjl
              obtain ⟨hu0, hun⟩ := (FF.out u hmem).resolve_left (by rw [hu]; exact HJ1.out)
              obtain ⟨m, rfl⟩ := Int.eq_ofNat_of_zero_le hu0
              have HU : Hid ((m : Int) = z3.getD j 0) := hu
              obtain ⟨g, rfl, hBg, hrow⟩ := O9.out.2.2.2.resolve_left (by omega)
              have hm : m < s.1.length := by rw [O9.out.1]; omega
              have hm0 : m < z0.length := by rw [H0.out.1]; omega
              have cG : w9.cell? ⟨g, m, none⟩ = some (.int .i64 (s.1.getD m 0)) := hrow.cell (ints_get hm)
              have hmI : (m : Int) < (len0 : Int) := hun
              clear hu hmem hrow
              cases up
              · have e1 : s.2.1 = wrap64 (lo - c) := by rw [HS.out, pile_form lb.1 lb.2 hb'.1 hb'.2]; simp [val, ← HCN.out]
                have e2 : s.2.2 = hi := by rw [HS.out, pile_form lb.1 lb.2 hb'.1 hb'.2]; simp
                have et : s.1.getD m 0 = wrap64 (lo - c) := by
                  rw [HS.out] at e1 e2 ⊢
                  have h := pile_top (up := false) hjl HU.out (show (m : Int) ≠ skip by rw [HU.out]; exact HJ1.out) HJ2.out (z0, lo, hi) (by rw [Int.toNat_natCast]; exact hm0)
                  rw [Int.toNat_natCast] at h
                  rw [h]
                  simp [e1]
                rw [et] at cG
                rw [e1, e2]
                clear e1 e2 et lb hb'
                go_wp2
                go_ret
                exact ⟨rfl, B9.out⟩
              · have e1 : s.2.1 = lo := by rw [HS.out, pile_form lb.1 lb.2 hb'.1 hb'.2]; simp
                have e2 : s.2.2 = wrap64 (hi + 2 * c) := by rw [HS.out, pile_form lb.1 lb.2 hb'.1 hb'.2]; simp [val, ← HCN.out]
                have et : s.1.getD m 0 = wrap64 (hi + 2 * c) := by
                  rw [HS.out] at e1 e2 ⊢
                  have h := pile_top (up := true) hjl HU.out (show (m : Int) ≠ skip by rw [HU.out]; exact HJ1.out) HJ2.out (z0, lo, hi) (by rw [Int.toNat_natCast]; exact hm0)
                  rw [Int.toNat_natCast] at h
                  rw [h]
                  simp [e2]
                rw [et] at cG
                rw [e1, e2]
                clear e1 e2 et lb hb'
                go_wp2
                go_ret
                exact ⟨rfl, B9.out⟩

set_option maxRecDepth 100000 in
set_option maxHeartbeats 1000000 in
theorem cut_law {a0 : Option Addr} {len0 cap0 : Nat} {z0 : List Int} {a1 a2 : Int} {a3 : Option Addr} {len3 cap3 : Nat} {z3 : List Int} {a4 a5 : Int} {a6 : Bool} {W : World}
    (w0 : IsRow .i64 W a0 len0 cap0 z0) (w1 : (Lit.int .i64 a1).wf = true) (w2 : (Lit.int .i64 a2).wf = true) (w3 : IsRow .i32 W a3 len3 cap3 z3) (_w4 : (Lit.int .i64 a4).wf = true) (w5 : (Lit.int .i64 a5).wf = true) :
    Calls Try.prog 5 #[.slice a0 len0 cap0, .int .i64 a1, .int .i64 a2, .slice a3 len3 cap3, .int .i64 a4, .int .i64 a5, .bool a6] W fun e w' => e = .returned (.bool true) ∧ Below W.heap.size W w' := by
  by_cases h0 : len0 ≤ 32768
  · by_cases h3 : len3 ≤ 65536
    · by_cases hk0 : a4 < 0
      · clear w0 w1 w2 w3 w5 _w4
        go_enter Try.func5, Try.ntmps5
        go_wp2_with fail
        refine (bytesCut_any a0 a3 len0 cap0 len3 cap3 a1 a2 a4 a5 a6 W).mono ?_
        rintro e w' ⟨⟨x, rfl⟩, hw⟩
        obtain rfl : W = w' := hw.symm
        cases x
        · go_wp2
          go_ret
          exact ⟨rfl, Below.refl _ _⟩
        · go_wp2_with fail
          all_goals (go_ret; exact ⟨rfl, Below.refl _ _⟩)
      · by_cases hk1 : (len3 : Int) < a4
        · clear w0 w1 w2 w3 w5 _w4
          go_enter Try.func5, Try.ntmps5
          go_wp2_with fail
          refine (bytesCut_any a0 a3 len0 cap0 len3 cap3 a1 a2 a4 a5 a6 W).mono ?_
          rintro e w' ⟨⟨x, rfl⟩, hw⟩
          obtain rfl : W = w' := hw.symm
          cases x
          · go_wp2
            go_ret
            exact ⟨rfl, Below.refl _ _⟩
          · go_wp2_with fail
            all_goals (go_ret; exact ⟨rfl, Below.refl _ _⟩)
        · obtain ⟨kk, rfl⟩ := Int.eq_ofNat_of_zero_le (show 0 ≤ a4 by omega)
          exact cut_in w0 w1 w2 w3 w5 h0 h3 (by omega)
    · clear w0 w1 w2 w3 w5 _w4
      have h3' : (65536 : Int) < (len3 : Int) := by omega
      go_enter Try.func5, Try.ntmps5
      go_wp2_with fail
      refine (bytesCut_any a0 a3 len0 cap0 len3 cap3 a1 a2 a4 a5 a6 W).mono ?_
      rintro e w' ⟨⟨x, rfl⟩, hw⟩
      obtain rfl : W = w' := hw.symm
      cases x
      · go_wp2
        go_ret
        exact ⟨rfl, Below.refl _ _⟩
      · go_wp2_with fail
        all_goals (go_ret; exact ⟨rfl, Below.refl _ _⟩)
  · clear w0 w1 w2 w3 w5 _w4
    have h0' : (32768 : Int) < (len0 : Int) := by omega
    go_enter Try.func5, Try.ntmps5
    go_wp2_with fail
    refine (bytesCut_any a0 a3 len0 cap0 len3 cap3 a1 a2 a4 a5 a6 W).mono ?_
    rintro e w' ⟨⟨x, rfl⟩, hw⟩
    obtain rfl : W = w' := hw.symm
    cases x
    · go_wp2
      go_ret
      exact ⟨rfl, Below.refl _ _⟩
    · go_wp2_with fail
      all_goals (go_ret; exact ⟨rfl, Below.refl _ _⟩)
end Go.Proofs.Qxb6616332a
