import Derived.Test.Qxb6616338aCut
namespace Go.Proofs.Qxb6616338a
open Go.RowKit

/-- points that have a kind alone -/
def kp (ks : List ByteArray) : List (Int × ByteArray × Int) := ks.map (fun k => (0, k, 0))
theorem kp_length (ks : List ByteArray) : (kp ks).length = ks.length := by simp [kp]
theorem kp_snoc (ks : List ByteArray) (t : ByteArray) : pcs (kp (ks ++ [t])) = pcs (kp ks) ++ pc 0 t 0 := by
  unfold kp
  rw [List.map_append, pcs_append]
  simp [pcs]
theorem kp_get {ks : List ByteArray} {i : Nat} (h : i < ks.length) : (kp ks)[i]? = some (0, ks.getD i ByteArray.empty, 0) := by
  simp [kp, h]
theorem kp_names (ks : List ByteArray) : (kp ks).map (·.2.1) = ks := kp_kinds ks

theorem pc_oneCell (id : Int) (t : ByteArray) (f : Int) : ∀ u ∈ pc id t f, u.oneCell' = true := by
  intro u hu
  simp [pc] at hu
  rcases hu with rfl | rfl | rfl | rfl | rfl | rfl <;> rfl
theorem news6 (w : World) (t : ByteArray) : ∀ j u, (pc 0 t 0)[j]? = some u → (w.alloc (.cells #[.int .u64 0, .int .u64 0, .int .i64 0, .pointer none, .string t, .int .u8 0] 34)).cell? ((⟨w.heap.size, 0, none⟩ : Addr).add j) = some u := by
  intro j u hj
  rw [WideShapes.add_plain, Nat.zero_add]
  have hb := (MapKept.heap_alloc w (.cells #[.int .u64 0, .int .u64 0, .int .i64 0, .pointer none, .string t, .int .u8 0] 34)).1
  simp only [World.cell?, hb]
  simpa [pc] using hj

theorem take_getD {ss : List ByteArray} {k : Nat} (h : k < ss.length) : ss.take (k + 1) = ss.take k ++ [ss.getD k ByteArray.empty] := by
  rw [List.take_succ_eq_append_getElem h]
  simp [h]
/-- what the second loop has gathered at j. -/
def insTo (ss : List ByteArray) (p j : Nat) (v : ByteArray) : List ByteArray := ss.take p ++ v :: (ss.take j).drop p
theorem insTo_start (ss : List ByteArray) (p : Nat) (v : ByteArray) : insTo ss p p v = ss.take p ++ [v] := by
  unfold insTo
  rw [List.drop_take_self]
theorem insTo_step {ss : List ByteArray} {p j : Nat} {v t : ByteArray} (hp : p ≤ j) (h : j < ss.length) (ht : t = ss.getD j ByteArray.empty) : insTo ss p (j + 1) v = insTo ss p j v ++ [t] := by
  unfold insTo
  rw [take_getD h, ← ht, List.drop_append_of_le_length (by simp; omega)]
  simp
theorem insTo_end {ss : List ByteArray} {p j : Nat} {v : ByteArray} (h : ss.length ≤ j) : insTo ss p j v = ss.take p ++ v :: ss.drop p := by
  unfold insTo
  rw [List.take_of_length_le (l := ss) (i := j) h]

set_option maxRecDepth 100000 in
set_option maxHeartbeats 2000000 in
theorem ins_in {m : Bool} {a1 : Option Addr} {len c1 : Nat} {s1 : List ByteArray} {ii : Int} {nk : ByteArray} {W : World}
    (h1 : IsStrs W a1 len c1 s1) (hl : len ≤ 65536) (hnk : ¬ (262144 : Int) < (nk.size : Int)) :
    Calls Try.prog 4 #[.bool m, .slice a1 len c1, .int .i64 ii, .string nk] W fun e w' => e = .returned (.bool true) ∧ Below W.heap.size W w' := by
  obtain ⟨i0, hi, hz0, hz1, hz2⟩ := info_parts Try.info34
  have hsl := h1.1
  have H1 : Hid (IsStrs W a1 len c1 s1) := h1
  clear h1
  go_enter Try.func4, Try.ntmps4
  go_wp2_with fail
  refine (bytesIns_any m ii nk H1.out).mono ?_
  rintro e w' ⟨⟨x, rfl⟩, hw⟩
  obtain rfl : W = w' := hw.symm
  cases x
  · go_wp2
    go_ret
    exact ⟨rfl, Below.refl _ _⟩
  go_upto_block 0 with fail
  go_cut [9, 10] (fun s13 _ wc => (∃ t : Int, s13 = .int .i64 t) ∧ W = wc)
  case first =>
    go_wp2
    go_loop [9, 10] (fun a i => ∃ (k : Nat) (t : Int), k ≤ len ∧ i = .int .i64 k ∧ a = .int .i64 t) (fun _ i => len - (intOf i).toNat)
    case atStart => exact ⟨0, _, Nat.zero_le _, rfl, rfl⟩
    case round =>
      obtain ⟨k, t, hk, rfl, rfl⟩ := hrel
      by_cases hlt : k < len
      · obtain ⟨b, off, rfl, hb, hck⟩ := H1.out.at hlt
        go_wp2
        · exact ⟨⟨k + 1, _, by omega, by go_num, rfl⟩, by simp [intOf]; omega⟩
        · go_meet
          case rel => exact ⟨⟨_, rfl⟩, rfl⟩
      · go_wp2
        go_meet
        case rel => exact ⟨⟨_, rfl⟩, rfl⟩
  case rest =>
    obtain ⟨⟨t1, rfl⟩, rfl⟩ := hcut
    by_cases ht1 : (1048576 : Int) < t1
    · go_wp2
      go_ret
      exact ⟨rfl, Below.refl _ _⟩
    go_upto_if 58 with fail
    go_cut [11] (fun s11 wc => ∃ u : Option Addr, s11 = .pointer u ∧ Hid (u.isSome = m) ∧ Below W.heap.size W wc)
    case first =>
      cases m
      · go_wp2
        go_meet
        case rel => exact ⟨none, rfl, rfl, Below.refl _ _⟩
      · go_wp2
        go_meet
        case rel => exact ⟨_, rfl, rfl, (Below.refl _ _).alloc (Nat.le_refl _) _⟩
    case rest =>
      obtain ⟨u, rfl, HU, hBc⟩ := hcut
      have BC : Hid (Below W.heap.size W wc) := hBc
      clear hBc
      go_wp2_with fail
      refine (points_any hl (H1.out.below BC.out)).mono ?_
      rintro e w1 ⟨⟨ao, rfl, hO1⟩, hb1⟩
      have O1 : Hid (OwnP w1 ao len (kp s1)) := hO1
      have B1 : Hid (Below W.heap.size W w1) := BC.out.trans (hb1.mono BC.out.size)
      clear hO1 hb1 BC
      go_wp2_with fail
      refine (newRet_any _ _ _ _ _ _ _ _).mono ?_
      rintro e w2 ⟨rfl, hb2⟩
      have O2 : Hid (OwnP w2 ao len (kp s1)) := O1.out.below hb2
      have B2 : Hid (Below W.heap.size W w2) := B1.out.trans (hb2.mono B1.out.size)
      clear hb2 O1 B1
      obtain ⟨v, hv⟩ : ∃ v, newest m s1 = v := ⟨_, rfl⟩
      have HV : Hid (newest m s1 = v) := hv
      clear hv
      go_wp2_with fail
      refine (newest_any v (by rw [HU.out, kp_names]; exact HV.out) O2.out.isPts).mono ?_
      rintro e w3 ⟨rfl, hb3⟩
      have O3 : Hid (OwnP w3 ao len (kp s1)) := O2.out.below hb3
      have B3 : Hid (Below W.heap.size W w3) := B2.out.trans (hb3.mono B2.out.size)
      clear hb3 O2 B2
      go_upto_region 17 with fail
      go_cut [78] (fun s78 w3c => s78 = .bool false ∧ w3 = w3c)
      case first =>
        cases m
        · have ev : v = false := by rw [← HV.out]; rfl
          subst ev
          go_wp2
          go_meet
          case rel => exact ⟨rfl, rfl⟩
        · by_cases hlen1 : 1 ≤ len
          · go_wp2_with fail
            refine (noFull_any 1 (Nat.le_refl _) (H1.out.below B3.out)).mono ?_
            rintro e w4 ⟨rfl, hw4⟩
            obtain rfl : w3 = w4 := hw4.symm
            have ev : noFull (s1.drop 1) = v := by
              rw [← HV.out]
              unfold newest
              rw [decide_eq_true (by omega)]
              rfl
            rw [ev]
            clear ev
            cases v
            · go_wp2
              go_meet
              case rel => exact ⟨rfl, rfl⟩
            · go_wp2
              go_meet
              case rel => exact ⟨rfl, rfl⟩
          · have ev : v = false := by
              rw [← HV.out]
              unfold newest
              rw [decide_eq_false (by omega)]
              rfl
            subst ev
            go_wp2
            go_meet
            case rel => exact ⟨rfl, rfl⟩
      case rest =>
        obtain ⟨rfl, rfl⟩ := hcut
        by_cases hi0 : ii < 0
        · go_wp2
          go_ret
          exact ⟨rfl, B3.out⟩
        by_cases hi1 : (len : Int) < ii
        · go_wp2
          go_ret
          exact ⟨rfl, B3.out⟩
        obtain ⟨p, rfl⟩ := Int.eq_ofNat_of_zero_le (show 0 ≤ ii by omega)
        have hp : p ≤ len := by omega
        go_wp2_with (at_make; refine wpList_make_own _ rfl _ _ 26 rfl w3.heap.size 34 i0 _ 6 Try.underlying26 hi hz0 hz1 _ _ _ (len + 1) rfl rfl (by omega) ?b2 ?b3 (Nat.le_refl _) ?_)
        case b2 => first | omega | (rw [hz2]; omega)
        case b3 => unfold maxLen; omega
        intro w0 hown0 hgrow0
        have hb0 : Below w3.heap.size w3 w0 := (Below.refl _ _).grown hgrow0 (Nat.le_refl _) (fun k h => by cases h)
        have B0 : Hid (Below w3.heap.size w3 w0) := hb0
        have OW0 : Hid (w0.ownsRow w3.heap.size 34 6 (.slice (some ⟨w3.heap.size, 0, none⟩) 0 (len + 1)) 0 (pcs (kp (s1.take 0)))) := hown0
        clear hb0 hgrow0 hown0 hz0 hz2
        go_wp2
        go_loopw [14, 15] (fun o i wr => ∃ k : Nat, k ≤ p ∧ i = .int .i64 k ∧ o = .slice (some ⟨w3.heap.size, 0, none⟩) k (len + 1) ∧
            wr.ownsRow w3.heap.size 34 6 (.slice (some ⟨w3.heap.size, 0, none⟩) k (len + 1)) k (pcs (kp (s1.take k))) ∧ Below w3.heap.size w3 wr)
          (fun _ i _ => p - (intOf i).toNat)
        case atStart => exact ⟨0, Nat.zero_le _, rfl, rfl, OW0.out, B0.out⟩
        case round =>
          obtain ⟨k, hk, rfl, rfl, hown, hnx⟩ := hrel
          have N : Hid (Below w3.heap.size w3 wr) := hnx
          clear hnx OW0 B0
          by_cases hlt : k < p
          · obtain ⟨g, rfl, hrow3⟩ := O3.out.2.2.resolve_left (by omega)
            have hrow : RowL wr g 34 (pcs (kp s1)) := hrow3.below N.out hrow3.lt
            obtain ⟨t, ht⟩ : ∃ t, t = s1.getD k ByteArray.empty := ⟨_, rfl⟩
            have hkg := kp_get (ks := s1) (i := k) (by omega)
            rw [← ht] at hkg
            have c0 : wr.cell? ⟨g, k * 6, none⟩ = some (.int .u64 0) := hrow.cell (by have := pcs_get hkg (show 0 < 6 by omega); rw [Nat.add_zero] at this; rw [this]; rfl)
            have c1 : wr.cell? ⟨g, k * 6 + 1, none⟩ = some (.int .u64 0) := hrow.cell (by rw [pcs_get hkg (by omega)]; rfl)
            have c2 : wr.cell? ⟨g, k * 6 + 2, none⟩ = some (.int .i64 0) := hrow.cell (by rw [pcs_get hkg (by omega)]; rfl)
            have c3 : wr.cell? ⟨g, k * 6 + 3, none⟩ = some (.pointer none) := hrow.cell (by rw [pcs_get hkg (by omega)]; rfl)
            have c4 : wr.cell? ⟨g, k * 6 + 4, none⟩ = some (.string t) := hrow.cell (by rw [pcs_get hkg (by omega)]; rfl)
            have c5 : wr.cell? ⟨g, k * 6 + 5, none⟩ = some (.int .u8 0) := hrow.cell (by rw [pcs_get hkg (by omega)]; rfl)
            have HT : Hid (t = s1.getD k ByteArray.empty) := ht
            clear hrow hrow3 hkg ht
            go_wp2_with (at_builtin; refine wpList_append_fits _ rfl _ _ 26 rfl w3.heap.size 34 i0 6 Try.underlying26 hi hz1 w3.heap.size k (len + 1) _ rfl (hown.alloc _) ⟨wr.heap.size, 0, none⟩ 1 1 (pc 0 t 0) rfl rfl (news6 _ _) (pc_oneCell _ _ _) (by omega) ?_; intro w1 hown1 hgrow1)
            have B1 : Hid (Below w3.heap.size w3 w1) := (N.out.alloc N.out.size _).grown hgrow1 (by simp; have := N.out.size; omega) (fun k hk => by cases hk; exact Nat.le_refl _)
            have OW1 : Hid (w1.ownsRow w3.heap.size 34 6 (.slice (some ⟨w3.heap.size, 0, none⟩) (k + 1) (len + 1)) (k + 1) (pcs (kp (s1.take (k + 1))))) := by
              show w1.ownsRow _ _ _ _ _ _
              rw [take_getD (by omega), ← HT.out, kp_snoc]
              exact hown1
            clear hown1 hgrow1 hown
            go_wp2
            go_roundw
            case rel => exact ⟨k + 1, by omega, by go_num, rfl, OW1.out, B1.out⟩
            case measure => simp [intOf]; omega
          · obtain rfl : k = p := by omega
            go_wp2_with (at_builtin; refine wpList_append_fits _ rfl _ _ 26 rfl w3.heap.size 34 i0 6 Try.underlying26 hi hz1 w3.heap.size k (len + 1) _ rfl (hown.alloc _) ⟨wr.heap.size, 0, none⟩ 1 1 (pc 0 nk 0) rfl rfl (news6 _ _) (pc_oneCell _ _ _) (by omega) ?_; intro w1 hown1 hgrow1)
            have B1 : Hid (Below w3.heap.size w3 w1) := (N.out.alloc N.out.size _).grown hgrow1 (by simp; have := N.out.size; omega) (fun k hk => by cases hk; exact Nat.le_refl _)
            have OW1 : Hid (w1.ownsRow w3.heap.size 34 6 (.slice (some ⟨w3.heap.size, 0, none⟩) (k + 1) (len + 1)) (k + 1) (pcs (kp (insTo s1 k k nk)))) := by
              show w1.ownsRow _ _ _ _ _ _
              rw [insTo_start, kp_snoc]
              exact hown1
            clear hown1 hgrow1 hown
            go_wp2
            go_loopw [14, 16] (fun o i wr => ∃ j : Nat, k ≤ j ∧ j ≤ len ∧ i = .int .i64 j ∧ o = .slice (some ⟨w3.heap.size, 0, none⟩) (j + 1) (len + 1) ∧
                wr.ownsRow w3.heap.size 34 6 (.slice (some ⟨w3.heap.size, 0, none⟩) (j + 1) (len + 1)) (j + 1) (pcs (kp (insTo s1 k j nk))) ∧ Below w3.heap.size w3 wr)
              (fun _ i _ => len - (intOf i).toNat)
            case atStart => exact ⟨k, Nat.le_refl _, hp, rfl, rfl, OW1.out, B1.out⟩
            case round =>
              obtain ⟨j, hkj, hj, rfl, rfl, hown, hnx⟩ := hrel
              clear OW1 B1 N
              have N : Hid (Below w3.heap.size w3 wr) := hnx
              clear hnx
              by_cases hlt2 : j < len
              · obtain ⟨g, rfl, hrow3⟩ := O3.out.2.2.resolve_left (by omega)
                have hrow : RowL wr g 34 (pcs (kp s1)) := hrow3.below N.out hrow3.lt
                obtain ⟨t, ht⟩ : ∃ t, t = s1.getD j ByteArray.empty := ⟨_, rfl⟩
                have hkg := kp_get (ks := s1) (i := j) (by omega)
                rw [← ht] at hkg
                have c0 : wr.cell? ⟨g, j * 6, none⟩ = some (.int .u64 0) := hrow.cell (by have := pcs_get hkg (show 0 < 6 by omega); rw [Nat.add_zero] at this; rw [this]; rfl)
                have c1 : wr.cell? ⟨g, j * 6 + 1, none⟩ = some (.int .u64 0) := hrow.cell (by rw [pcs_get hkg (by omega)]; rfl)
                have c2 : wr.cell? ⟨g, j * 6 + 2, none⟩ = some (.int .i64 0) := hrow.cell (by rw [pcs_get hkg (by omega)]; rfl)
                have c3 : wr.cell? ⟨g, j * 6 + 3, none⟩ = some (.pointer none) := hrow.cell (by rw [pcs_get hkg (by omega)]; rfl)
                have c4 : wr.cell? ⟨g, j * 6 + 4, none⟩ = some (.string t) := hrow.cell (by rw [pcs_get hkg (by omega)]; rfl)
                have c5 : wr.cell? ⟨g, j * 6 + 5, none⟩ = some (.int .u8 0) := hrow.cell (by rw [pcs_get hkg (by omega)]; rfl)
                have HT : Hid (t = s1.getD j ByteArray.empty) := ht
                clear hrow hrow3 hkg ht
                go_wp2_with (at_builtin; refine wpList_append_fits _ rfl _ _ 26 rfl w3.heap.size 34 i0 6 Try.underlying26 hi hz1 w3.heap.size (j + 1) (len + 1) _ rfl (hown.alloc _) ⟨wr.heap.size, 0, none⟩ 1 1 (pc 0 t 0) rfl rfl (news6 _ _) (pc_oneCell _ _ _) (by omega) ?_; intro w4 hown1 hgrow1)
                have B4 : Hid (Below w3.heap.size w3 w4) := (N.out.alloc N.out.size _).grown hgrow1 (by simp; have := N.out.size; omega) (fun k hk => by cases hk; exact Nat.le_refl _)
                have OW4 : Hid (w4.ownsRow w3.heap.size 34 6 (.slice (some ⟨w3.heap.size, 0, none⟩) (j + 1 + 1) (len + 1)) (j + 1 + 1) (pcs (kp (insTo s1 k (j + 1) nk)))) := by
                  show w4.ownsRow _ _ _ _ _ _
                  rw [insTo_step hkj (by omega) HT.out, kp_snoc]
                  exact hown1
                clear hown1 hgrow1 hown
                go_wp2
                go_roundw
                case rel => exact ⟨j + 1, by omega, by omega, by go_num, rfl, OW4.out, B4.out⟩
                case measure => simp [intOf]; omega
              · obtain rfl : j = len := by omega
                have hrow := rowL_of_owns hown rfl
                rw [insTo_end (by omega)] at hrow
                obtain ⟨L, hL⟩ : ∃ L, L = s1.take k ++ nk :: s1.drop k := ⟨_, rfl⟩
                rw [← hL] at hrow
                have HL : Hid (L = s1.take k ++ nk :: s1.drop k) := hL
                have OP : Hid (OwnP wr (some ⟨w3.heap.size, 0, none⟩) (j + 1) (kp L)) := by
                  refine ⟨?_, by omega, .inr ⟨_, rfl, hrow⟩⟩
                  rw [kp_length, hL]
                  simp
                  omega
                have BW : Hid (Below W.heap.size W wr) := B3.out.trans (N.out.mono B3.out.size)
                clear hrow hL hown N hi hz1
                go_wp2_with fail
                refine (newRet_any _ _ _ _ _ _ _ _).mono ?_
                rintro e w5 ⟨rfl, hb5⟩
                have O5 : Hid (OwnP w5 (some ⟨w3.heap.size, 0, none⟩) (j + 1) (kp L)) := OP.out.below hb5
                have B5 : Hid (Below W.heap.size W w5) := BW.out.trans (hb5.mono BW.out.size)
                clear hb5 OP BW
                obtain ⟨v2, hv2⟩ : ∃ v2, newest m L = v2 := ⟨_, rfl⟩
                have HV2 : Hid (newest m L = v2) := hv2
                clear hv2
                go_wp2_with fail
                refine (newest_any v2 (by rw [HU.out, kp_names]; exact HV2.out) O5.out.isPts).mono ?_
                rintro e w6 ⟨rfl, hb6⟩
                have B6 : Hid (Below W.heap.size W w6) := B5.out.trans (hb6.mono B5.out.size)
                clear hb6 O5 B5
                cases hbf : (nk.toList == [102, 117, 108, 108])
                all_goals
                  by_cases hp0 : k = 0
                  · have e2 : v2 = (m && noFull s1) := by
                      rw [← HV2.out, HL.out, hp0]
                      exact newest_insert0 m s1 nk
                    have hq0 : ((k : Int) == 0) = true := by simp [hp0]
                    clear hp0 HV2 HL
                    cases m
                    · have ev : v = false := by rw [← HV.out]; rfl
                      subst ev
                      subst e2
                      go_wp2
                      go_ret
                      exact ⟨rfl, B6.out⟩
                    · rw [Bool.true_and] at e2
                      have E2 : Hid (noFull s1 = v2) := e2.symm
                      clear e2
                      cases v
                      all_goals
                        go_wp2_with fail
                        refine (noFull_any 0 (Nat.zero_le _) (H1.out.below B6.out)).mono ?_
                        rintro e w7 ⟨rfl, hw7⟩
                        obtain rfl : w6 = w7 := hw7.symm
                        rw [List.drop_zero, E2.out]
                        cases v2
                        · go_wp2
                          go_ret
                          exact ⟨rfl, B6.out⟩
                        · go_wp2
                          go_ret
                          exact ⟨rfl, B6.out⟩
                  · have e2 : v2 = (v && !(nk.toList == [102, 117, 108, 108])) := by
                      rw [← HV2.out, HL.out, ← HV.out]
                      exact newest_insert (by omega) (by omega)
                    rw [hbf] at e2
                    have hq0 : ((k : Int) == 0) = false := by rw [beq_eq_false_iff_ne]; omega
                    clear hp0 HV2 HL
                    cases v
                    all_goals
                      simp only [Bool.false_and, Bool.true_and, Bool.not_true, Bool.not_false] at e2
                      subst e2
                      go_wp2
                      go_ret
                      exact ⟨rfl, B6.out⟩

set_option maxRecDepth 100000 in
set_option maxHeartbeats 1000000 in
theorem ins_law {a0 : Bool} {a1 : Option Addr} {len1 cap1 : Nat} {z1 : List ByteArray} {a2 : Int} {a3 : ByteArray} {W : World}
    (w1 : IsStrs W a1 len1 cap1 z1) (_w2 : (Lit.int .i64 a2).wf = true) (_w3 : a3.size ≤ maxLen) :
    Calls Try.prog 4 #[.bool a0, .slice a1 len1 cap1, .int .i64 a2, .string a3] W fun e w' => e = .returned (.bool true) ∧ Below W.heap.size W w' := by
  by_cases g1 : (65536 : Int) < (len1 : Int)
  · have H1 : Hid (IsStrs W a1 len1 cap1 z1) := w1
    clear w1 _w2 _w3
    go_enter Try.func4, Try.ntmps4
    go_wp2_with fail
    refine (bytesIns_any a0 a2 a3 H1.out).mono ?_
    rintro e w' ⟨⟨x, rfl⟩, hw⟩
    obtain rfl : W = w' := hw.symm
    cases x
    · go_wp2
      go_ret
      exact ⟨rfl, Below.refl _ _⟩
    · go_wp2
      go_ret
      exact ⟨rfl, Below.refl _ _⟩
  · by_cases g2 : (262144 : Int) < (a3.size : Int)
    · have H1 : Hid (IsStrs W a1 len1 cap1 z1) := w1
      clear w1 _w2 _w3
      go_enter Try.func4, Try.ntmps4
      go_wp2_with fail
      refine (bytesIns_any a0 a2 a3 H1.out).mono ?_
      rintro e w' ⟨⟨x, rfl⟩, hw⟩
      obtain rfl : W = w' := hw.symm
      cases x
      · go_wp2
        go_ret
        exact ⟨rfl, Below.refl _ _⟩
      · go_wp2
        go_ret
        exact ⟨rfl, Below.refl _ _⟩
    · exact ins_in w1 (by omega) g2
end Go.Proofs.Qxb6616338a
