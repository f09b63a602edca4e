import Derived.Test.Qxb6616332aGet
import Derived.Deep.DeepCutAuto
namespace Go.Proofs.Qxb6616332a
open Go.RowKit

theorem NodesIn.below {w w' : World} {B B' : Nat} {a : Option Addr} {len : Nat} {zs : List Int} (h : NodesIn w B a len zs) (hb : Below B' w w') (hB : B ≤ B') : NodesIn w' B a len zs := by
  obtain ⟨h1, h2, h3, h0 | ⟨b, off, rfl, hlt, hc⟩⟩ := h
  · exact ⟨h1, h2, h3, .inl h0⟩
  · exact ⟨h1, h2, h3, .inr ⟨b, off, rfl, hlt, fun i hi => (hb.cell (p := ⟨b, off + i, none⟩) (Nat.lt_of_lt_of_le hlt hB)).trans (hc i hi)⟩⟩
theorem NodesIn.mono {w : World} {B B' : Nat} {a : Option Addr} {len : Nat} {zs : List Int} (h : NodesIn w B a len zs) (hB : B ≤ B') : NodesIn w B' a len zs := by
  obtain ⟨h1, h2, h3, h0 | ⟨b, off, rfl, hlt, hc⟩⟩ := h
  · exact ⟨h1, h2, h3, .inl h0⟩
  · exact ⟨h1, h2, h3, .inr ⟨b, off, rfl, Nat.lt_of_lt_of_le hlt hB, hc⟩⟩
theorem nodesIn_row {w : World} {g len : Nat} {zs : List Int} (h1 : zs.length = len) (h2 : len ≤ 65536) (h3 : ∀ n ∈ zs, (Lit.int .i32 n).wf = true) (hr : RowL w g 21 (ints .i32 zs)) : NodesIn w w.heap.size (some ⟨g, 0, none⟩) len zs :=
  ⟨h1, h2, h3, .inr ⟨g, 0, rfl, hr.lt, fun i hi => by rw [Nat.zero_add]; exact hr.cell (ints_get (by omega))⟩⟩

theorem Fits.snoc {skip : Int} {n : Nat} {l : List Int} {k : Nat} {u : Int} (hk : k < l.length) (hu : u = l.getD k 0) (h : Fits skip n (l.take k)) (h1 : u = skip ∨ (0 ≤ u ∧ u < (n : Int))) : Fits skip n (l.take (k + 1)) := by
  intro v hv
  rw [take_snoc hk, ← hu, List.mem_append] at hv
  rcases hv with hv | hv
  · exact h v hv
  · rw [List.mem_singleton] at hv
    rw [hv]
    exact h1

theorem ints32_oneCell (zs : List Int) : ∀ v ∈ ints .i32 zs, v.oneCell' = true := by
  intro v hv
  obtain ⟨x, _, rfl⟩ := List.mem_map.1 hv
  rfl

theorem RowL.setRow {w : World} {b : Nat} {t : TypeId} {xs : List Value} (h : RowL w b t xs) (ys : List Value) : RowL (w.setRow b ys.toArray) b t ys := by
  unfold RowL at h ⊢
  simp [World.setRow, Array.getElem?_modify, h]

/-- 'copy(zzc, nodes)' into a row just made. -/
theorem copy_eq {w0 : World} {g len cap : Nat} {x : Addr} {zs : List Int} (hR : RowL w0 g 21 (List.replicate len (.int .i32 0))) (h3 : IsRow .i32 w0 (some x) len cap zs) :
    ∃ w1, (∀ ty, (Builtin.copy_ #[33, 33] ty #[.slice (some ⟨g, 0, none⟩) len len, .slice (some x) len cap]).run Try.prog w0 = .ok (.int .i64 len) w1) ∧ RowL w1 g 21 (ints .i32 zs) ∧ ∀ B w, Below B w w0 → B ≤ g → Below B w w1 := by
  refine ⟨_, fun ty => ?_, hR.setRow (ints .i32 zs), fun B w hb hB => below_setRow hb hB _⟩
  have hr := run_copy_row (P := Try.prog) w0 33 33 ty 21 g 0 len len x len cap _ 21 (ints .i32 zs) Try.underlying33 (by kernel_rfl) hR (by rw [ints_length, h3.1]; exact (Nat.min_self _).symm) ?_ (by rw [ints_length, h3.1]; simp) (ints32_oneCell _)
  · rw [hr, ints_length, h3.1]
    simp [goInt]
  · intro j v hj
    have hjl : j < zs.length := by
      have := (List.getElem?_eq_some_iff.1 hj).1
      rwa [ints_length] at this
    obtain ⟨b, off, hxb, hb, hc⟩ := h3.at (k := j) (by rw [← h3.1]; exact hjl)
    obtain rfl : x = ⟨b, off, none⟩ := Option.some.inj hxb
    rw [ints_get hjl] at hj
    rw [WideShapes.add_plain, hc]
    exact hj

/-- the row 'done', as cells -/
def seenCells (skip : Int) (l : List Int) (n : Nat) : List Value := (List.range n).map (fun v => .bool (seen skip l v))
theorem seenCells_nil (skip : Int) (n : Nat) : seenCells skip [] n = List.replicate n (.bool false) := by
  rw [List.eq_replicate_iff]
  refine ⟨by simp [seenCells], fun b hb => ?_⟩
  obtain ⟨v, _, rfl⟩ := List.mem_map.1 hb
  rfl
theorem seenCells_get {skip : Int} {l : List Int} {n v : Nat} (h : v < n) : (seenCells skip l n)[v]? = some (.bool (seen skip l v)) := by
  simp [seenCells, h]
theorem seenCells_congr {skip : Int} {l l' : List Int} (n : Nat) (h : ∀ v, seen skip l' v = seen skip l v) : seenCells skip l' n = seenCells skip l n := by
  unfold seenCells
  rw [List.map_congr_left (fun v _ => by rw [h v])]
theorem seenCells_set {skip : Int} {l l' : List Int} {m : Nat} (n : Nat) (h : ∀ v, seen skip l' v = (seen skip l v || m == v)) : (seenCells skip l n).set m (.bool true) = seenCells skip l' n := by
  apply List.ext_getElem?
  intro i
  by_cases hi : i < n
  · rw [seenCells_get hi, List.getElem?_set, h i]
    by_cases hm : m = i
    · subst hm
      simp [seenCells, hi]
    · rw [if_neg hm, seenCells_get hi]
      have : (m == i) = false := by simp [hm]
      rw [this, Bool.or_false]
  · rw [List.getElem?_eq_none (by simp [seenCells]; omega), List.getElem?_eq_none (by simp [seenCells]; omega)]

theorem val_up {lo hi : Int} {a b : Nat} (h : b ≤ a) : val true lo hi (a - b) = wrap64 (hi + 2 * ((a : Int) - (b : Int))) := by
  unfold val
  rw [if_pos rfl, Int.ofNat_sub h]
theorem val_down {lo hi : Int} {a b : Nat} (h : b ≤ a) : val false lo hi (a - b) = wrap64 (lo - ((a : Int) - (b : Int))) := by
  unfold val
  rw [if_neg (by decide), Int.ofNat_sub h]

set_option maxRecDepth 100000 in
set_option maxHeartbeats 2000000 in
theorem form_in {a0 a3 : Option Addr} {len0 cap0 len3 cap3 : Nat} {z0 z3 : List Int} {lo hi skip : Int} {up : Bool} {W : World} (h0 : IsRow .i64 W a0 len0 cap0 z0) (wlo : (Lit.int .i64 lo).wf = true) (whi : (Lit.int .i64 hi).wf = true) (h3 : IsRow .i32 W a3 len3 cap3 z3) (wsk : (Lit.int .i64 skip).wf = true)
    (hl0 : len0 ≤ 32768) (hl3 : len3 ≤ 65536) :
    Calls Try.prog 4 #[.slice a0 len0 cap0, .int .i64 lo, .int .i64 hi, .slice a3 len3 cap3, .int .i64 skip, .bool up] W fun e w' => e = .returned (.bool true) ∧ Below W.heap.size W w' := by
  obtain ⟨i21, hi21, hz0, hz1, hz2⟩ := info_parts Try.info21
  have hneq := fun W => run_neq_slice_nil_any (P := Try.prog) W 33 21 a3 len3 cap3 0 0 Try.underlying33
  have H0 : Hid (IsRow .i64 W a0 len0 cap0 z0) := h0
  have H3 : Hid (IsRow .i32 W a3 len3 cap3 z3) := h3
  have WLO := (show Hid _ from wlo)
  have WHI := (show Hid _ from whi)
  have WSK := (show Hid _ from wsk)
  clear h0 h3 wlo whi wsk
  go_enter Try.func4, Try.ntmps4
  go_wp2_with fail
  refine (bytesForm_any a0 a3 len0 cap0 len3 cap3 lo hi skip up W).mono ?_
  rintro e w' ⟨⟨x, rfl⟩, hw⟩
  obtain rfl : W = w' := hw.symm
  cases x
  · go_wp2
    go_ret
    exact ⟨rfl, Below.refl _ _⟩
  go_upto_if 41 with fail
  go_cut [3, 13] (fun s3 _ wc => ∃ an cn, s3 = .slice an len3 cn ∧ NodesIn wc wc.heap.size an len3 z3 ∧ Below W.heap.size W wc)
  case first =>
    cases a3 with
    | none =>
      go_wp2
      go_meet
      case rel => exact ⟨none, cap3, rfl, ⟨H3.out.1, hl3, H3.out.2.2.2.1, .inl (by have h1 := H3.out.2.2.2.2.1 rfl; have h2 := H3.out.2.1; omega)⟩, Below.refl _ _⟩
    | some x =>
      go_wp2_with (at_make; refine wpList_make_full _ rfl _ _ 33 rfl W.heap.size 21 i21 (.int .i32 0) 1 Try.underlying33 hi21 hz0 hz1 _ _ _ _ len3 rfl rfl (by omega) (by omega) ?b2 ?b3 (Nat.le_refl _) ?_)
      case b2 => rw [hz2]; omega
      case b3 => unfold maxLen; omega
      intro w0 hown0 hgrow0
      have R0 : Hid (RowL w0 W.heap.size 21 (List.replicate len3 (.int .i32 0))) := by
        rw [← made_one]
        exact rowL_of_owns hown0 rfl
      have B0 : Hid (Below W.heap.size W w0) := (Below.refl _ _).grown hgrow0 (Nat.le_refl _) (fun k h => by cases h)
      clear hown0 hgrow0
      obtain ⟨w1, hcopy, hR1, hB1⟩ := copy_eq R0.out (H3.out.below B0.out)
      have R1 : Hid (RowL w1 W.heap.size 21 (ints .i32 z3)) := hR1
      have B1 : Hid (Below W.heap.size W w1) := hB1 _ _ B0.out (Nat.le_refl _)
      clear hR1 hB1
      clear R0 B0
      go_wp2
      go_meet
      case rel => exact ⟨_, len3, rfl, nodesIn_row H3.out.1 hl3 H3.out.2.2.2.1 R1.out, B1.out⟩
  case rest =>
    obtain ⟨an, cn, rfl, hNI, hBc⟩ := hcut
    have NI : Hid (NodesIn wc wc.heap.size an len3 z3) := hNI
    have BC : Hid (Below W.heap.size W wc) := hBc
    clear hNI hBc hneq hz0 hz1 hz2 hi21
    go_wp2
    go_loop [14] (fun i => ∃ k : Nat, k ≤ len3 ∧ i = .int .i64 k ∧ Fits skip len0 (z3.take k)) (fun i => len3 - (intOf i).toNat)
    case atStart => exact ⟨0, Nat.zero_le _, rfl, fun u hu => by cases hu⟩
    case round =>
      obtain ⟨k, hk, rfl, hfit⟩ := hrel
      have FK : Hid (Fits skip len0 (z3.take k)) := hfit
      clear hfit
      by_cases hlt : k < len3
      · obtain ⟨b, off, rfl, hb, hc0⟩ := NI.out.at hlt
        have hkl : k < z3.length := by rw [NI.out.1]; exact hlt
        obtain ⟨u, hu⟩ : ∃ u, u = z3.getD k 0 := ⟨_, rfl⟩
        rw [← hu] at hc0
        have HU : Hid (u = z3.getD k 0) := hu
        have hub := bounds_i32 (NI.out.2.2.1 u (by rw [hu, show z3.getD k 0 = z3[k] from by simp [hkl]]; exact List.getElem_mem hkl))
        have hub1 := hub.1
        have hub2 := hub.2
        clear hu hub
        by_cases hs : u = skip
        · have hq : (u != skip) = false := by simp [hs]
          go_wp2
          go_round
          case rel => exact ⟨k + 1, by omega, by go_num, Fits.snoc hkl HU.out FK.out (.inl hs)⟩
          case measure => simp [intOf]; omega
        · have hq : (u != skip) = true := by simp [hs]
          by_cases h1 : u < 0
          · go_wp2
            go_ret
            exact ⟨rfl, BC.out⟩
          · by_cases h2 : (len0 : Int) ≤ u
            · go_wp2
              go_ret
              exact ⟨rfl, BC.out⟩
            · go_wp2
              go_round
              case rel => exact ⟨k + 1, by omega, by go_num, Fits.snoc hkl HU.out FK.out (.inr ⟨by omega, by omega⟩)⟩
              case measure => simp [intOf]; omega
      · have FF : Hid (Fits skip len0 z3) := by
          have e := FK.out
          rw [List.take_of_length_le (by rw [NI.out.1]; omega)] at e
          exact e
        clear FK
        go_wp2_with fail
        refine (clone_any hl0 (H0.out.below BC.out)).mono ?_
        rintro e w1 ⟨⟨a1, rfl, hO1⟩, hb1⟩
        have O1 : Hid (OwnI w1 wc.heap.size a1 len0 z0) := hO1
        have B1 : Hid (Below wc.heap.size wc w1) := hb1
        clear hO1 hb1
        go_wp2_with fail
        refine (newTab_any a1 len0 lo hi w1).mono ?_
        rintro e w2 ⟨rfl, hw2⟩
        have T2 : Hid (TabIs w2 w1.heap.size a1 len0 lo hi) := by rw [hw2]; exact tabIs_new _ _ _ _ _
        have O2 : Hid (OwnI w2 wc.heap.size a1 len0 z0) := by rw [hw2]; exact O1.out.below ((Below.refl _ _).alloc (Nat.le_refl _) _) (Nat.le_refl _)
        have B2 : Hid (Below wc.heap.size wc w2) := by rw [hw2]; exact B1.out.alloc B1.out.size _
        have hL : wc.heap.size ≤ w1.heap.size := B1.out.size
        clear hw2 O1 B1
        go_wp2_with fail
        refine (pileZ_any hL (NI.out.below B2.out (Nat.le_refl _)) FF.out T2.out O2.out).mono ?_
        rintro e w3 ⟨rfl, hT3, hO3, hb3⟩
        obtain ⟨s, hs⟩ : ∃ s, s = pile skip up z3 (z0, lo, hi) := ⟨_, rfl⟩
        rw [← hs] at hT3 hO3
        have HS : Hid (s = pile skip up z3 (z0, lo, hi)) := hs
        have T3 : Hid (TabIs w3 w1.heap.size a1 len0 s.2.1 s.2.2) := hT3
        have O3 : Hid (OwnI w3 wc.heap.size a1 len0 s.1) := hO3
        have B3 : Hid (Below wc.heap.size wc w3) := B2.out.trans hb3
        have NI3 : Hid (NodesIn w3 wc.heap.size an len3 z3) := (NI.out.below B2.out (Nat.le_refl _)).below hb3 (Nat.le_refl _)
        have BW3 : Hid (Below W.heap.size W w3) := BC.out.trans ((B2.out.trans hb3).mono BC.out.size)
        clear hs hT3 hO3 hb3 T2 O2 B2 BC NI
        go_wp2
        go_loop [16, 17] (fun c i => ∃ k : Nat, k ≤ len3 ∧ i = .int .i64 k ∧ c = .int .i64 (cnt skip (z3.take k))) (fun _ i => len3 - (intOf i).toNat)
        case atStart => exact ⟨0, Nat.zero_le _, rfl, rfl⟩
        case round =>
          obtain ⟨k2, hk2, rfl, rfl⟩ := hrel
          obtain ⟨c, hc⟩ : ∃ c, c = cnt skip (z3.take k2) := ⟨_, rfl⟩
          rw [← hc]
          have hcl : c ≤ k2 := by
            have h1 := cnt_le skip (z3.take k2)
            rw [List.length_take] at h1
            omega
          have HC : Hid (c = cnt skip (z3.take k2)) := hc
          clear hc
          by_cases hlt2 : k2 < len3
          · obtain ⟨b, off, rfl, hb, hc0⟩ := NI3.out.at hlt2
            have hkl : k2 < z3.length := by rw [NI3.out.1]; exact hlt2
            obtain ⟨u, hu⟩ : ∃ u, u = z3.getD k2 0 := ⟨_, rfl⟩
            rw [← hu] at hc0
            have HU : Hid (u = z3.getD k2 0) := hu
            have hub := bounds_i32 (NI3.out.2.2.1 u (by rw [hu, show z3.getD k2 0 = z3[k2] from by simp [hkl]]; exact List.getElem_mem hkl))
            have hub1 := hub.1
            have hub2 := hub.2
            clear hu hub
            by_cases hsk : u = skip
            · have hq : (u != skip) = false := by simp [hsk]
              go_wp2
              go_round
              case rel => exact ⟨k2 + 1, by omega, by go_num, by rw [take_snoc hkl, ← HU.out, cnt_append, cnt_cons_skip hsk, cnt_nil, HC.out]; rfl⟩
              case measure => simp [intOf]; omega
            · have hq : (u != skip) = true := by simp [hsk]
              go_wp2
              go_round
              case rel => exact ⟨k2 + 1, by omega, by go_num, by rw [take_snoc hkl, ← HU.out, cnt_append, cnt_cons_ne hsk, cnt_nil, ← HC.out]; go_num⟩
              case measure => simp [intOf]; omega
          · have hcn : c = cnt skip z3 := by
              rw [HC.out, List.take_of_length_le (by rw [NI3.out.1]; omega)]
            have HCN : Hid (c = cnt skip z3) := hcn
            have hcl3 : c ≤ 65536 := by omega
            clear hcn HC
            obtain ⟨i4, hi4, hy0, hy1, hy2⟩ := info_parts Try.info4
            go_wp2_with fail
            refine (clone_any hl0 (H0.out.below BW3.out)).mono ?_
            rintro e w4 ⟨⟨a2, rfl, hO4⟩, hb4⟩
            have O4 : Hid (OwnI w4 w3.heap.size a2 len0 z0) := hO4
            have B4 : Hid (Below w3.heap.size w3 w4) := hb4
            clear hO4 hb4
            go_wp2_with (at_make; refine wpList_make_full _ rfl _ _ 25 rfl w4.heap.size 4 i4 (.bool false) 1 Try.underlying25 hi4 hy0 hy1 _ _ _ _ len0 rfl rfl (by omega) (by omega) ?b2 ?b3 (Nat.le_refl _) ?_)
            case b2 => rw [hy2]; omega
            case b3 => unfold maxLen; omega
            intro w5 hown5 hgrow5
            have R5 : Hid (RowL w5 w4.heap.size 4 (seenCells skip (z3.take 0) len0)) := by
              rw [List.take_zero, seenCells_nil, ← made_one]
              exact rowL_of_owns hown5 rfl
            have hb5 : Below w4.heap.size w4 w5 := (Below.refl _ _).grown hgrow5 (Nat.le_refl _) (fun k h => by cases h)
            have O5 : Hid (OwnI w5 w3.heap.size a2 len0 (want skip up lo hi z0 z3 0)) := O4.out.below hb5 (Nat.le_refl _)
            have B5 : Hid (Below w3.heap.size w3 w5) := B4.out.trans (hb5.mono B4.out.size)
            have hD : w3.heap.size ≤ w4.heap.size := B4.out.size
            clear hown5 hgrow5 hb5 O4 B4 hi4 hy0 hy1 hy2
            go_wp2
            go_loopw [20, 21] (fun bf i wr => ∃ k : Nat, k ≤ len3 ∧ i = .int .i64 k ∧ bf = .int .i64 (cnt skip (z3.take k)) ∧ OwnI wr w3.heap.size a2 len0 (want skip up lo hi z0 z3 k) ∧ RowL wr w4.heap.size 4 (seenCells skip (z3.take k) len0) ∧ Below w3.heap.size w3 wr) (fun _ i _ => len3 - (intOf i).toNat)
            case atStart => exact ⟨0, Nat.zero_le _, rfl, rfl, O5.out, R5.out, B5.out⟩
            case round =>
              obtain ⟨k3, hk3, rfl, rfl, hOr, hRr, hBr⟩ := hrel
              obtain ⟨bf, hbf⟩ : ∃ bf, bf = cnt skip (z3.take k3) := ⟨_, rfl⟩
              rw [← hbf]
              have hbl : bf ≤ k3 := by
                have h1 := cnt_le skip (z3.take k3)
                rw [List.length_take] at h1
                omega
              have HB : Hid (bf = cnt skip (z3.take k3)) := hbf
              have OR : Hid (OwnI wr w3.heap.size a2 len0 (want skip up lo hi z0 z3 k3)) := hOr
              have RR : Hid (RowL wr w4.heap.size 4 (seenCells skip (z3.take k3) len0)) := hRr
              have BR : Hid (Below w3.heap.size w3 wr) := hBr
              have hBB : wc.heap.size ≤ w3.heap.size := B3.out.size
              clear hbf hOr hRr hBr R5 O5 B5
              by_cases hlt3 : k3 < len3
              · obtain ⟨b, off, rfl, hb, hc0⟩ := NI3.out.at hlt3
                have hkl : k3 < z3.length := by rw [NI3.out.1]; exact hlt3
                obtain ⟨u, hu⟩ : ∃ u, u = z3.getD k3 0 := ⟨_, rfl⟩
                rw [← hu] at hc0
                have hck : wr.cell? ⟨b, off + k3, none⟩ = some (.int .i32 u) := (BR.out.cell (p := ⟨b, off + k3, none⟩) (Nat.lt_of_lt_of_le hb hBB)).trans hc0
                have HU : Hid (u = z3.getD k3 0) := hu
                have hmem : u ∈ z3 := by rw [hu, show z3.getD k3 0 = z3[k3] from by simp [hkl]]; exact List.getElem_mem hkl
                have hub := bounds_i32 (NI3.out.2.2.1 u hmem)
                have hub1 := hub.1
                have hub2 := hub.2
                have hfit := FF.out u hmem
                clear hu hub hc0 hmem
                by_cases hsk : u = skip
                · have hq : (u == skip) = true := by simp [hsk]
                  clear hfit
                  go_wp2
                  go_roundw
                  case rel => exact ⟨k3 + 1, by omega, by go_num, by rw [take_snoc hkl, ← HU.out, cnt_append, cnt_cons_skip hsk, cnt_nil, HB.out]; rfl, by rw [want_skip hkl HU.out hsk]; exact OR.out, by rw [seenCells_congr len0 (seen_snoc_skip hkl HU.out hsk)]; exact RR.out, BR.out⟩
                  case measure => simp [intOf]; omega
                · have hq : (u == skip) = false := by simp [hsk]
                  obtain ⟨hu0, hun⟩ := hfit.resolve_left hsk
                  obtain ⟨m, rfl⟩ := Int.eq_ofNat_of_zero_le hu0
                  obtain ⟨g, rfl, hBg, hrow⟩ := OR.out.2.2.2.resolve_left (by omega)
                  have hm : m < len0 := by omega
                  have hwl : m < (want skip up lo hi z0 z3 k3).length := by rw [OR.out.1]; exact hm
                  have hbc : bf + 1 ≤ c := by
                    have e1 : cnt skip z3 = cnt skip (z3.take k3) + cnt skip (z3.drop k3) := by rw [← cnt_append, List.take_append_drop]
                    rw [drop_cons hkl, ← HU.out, cnt_cons_ne hsk, ← HB.out, ← HCN.out] at e1
                    omega
                  have hgD : g ≠ w4.heap.size := hrow.ne RR.out (by decide)
                  have RG : Hid (RowL wr g 2 (ints .i64 (want skip up lo hi z0 z3 k3))) := hrow
                  have cD : wr.cell? ⟨w4.heap.size, m, none⟩ = some (.bool (seen skip (z3.take k3) m)) := RR.out.cell (seenCells_get hm)
                  have fD : wr.frozen? ⟨w4.heap.size, m, none⟩ = false := RR.out.frozen m
                  have cG : wr.cell? ⟨g, m, none⟩ = some (.int .i64 ((want skip up lo hi z0 z3 k3).getD m 0)) := RG.out.cell (ints_get hwl)
                  have fG : wr.frozen? ⟨g, m, none⟩ = false := RG.out.frozen m
                  obtain ⟨old, hold⟩ : ∃ old, old = (want skip up lo hi z0 z3 k3).getD m 0 := ⟨_, rfl⟩
                  rw [← hold] at cG
                  clear hrow hold hfit
                  cases hsn : seen skip (z3.take k3) m with
                  | true =>
                    rw [hsn] at cD
                    have HSN : Hid (seen skip (z3.take k3) m = true) := hsn
                    clear hsn
                    go_wp2
                    go_roundw
                    case rel =>
                      refine ⟨k3 + 1, by omega, by go_num, by rw [take_snoc hkl, ← HU.out, cnt_append, cnt_cons_ne hsk, cnt_nil, ← HB.out]; go_num, by rw [want_hit hkl HU.out hsk (by rw [Int.toNat_natCast]; exact HSN.out)]; exact OR.out, ?_, BR.out⟩
                      rw [seenCells_congr len0 (l := z3.take k3)]
                      · exact RR.out
                      · intro v
                        rw [seen_snoc_ne hkl HU.out hsk v, Int.toNat_natCast]
                        by_cases hv : m = v
                        · rw [← hv, HSN.out]; rfl
                        · rw [show (m == v) = false from by simp [hv], Bool.or_false]
                    case measure => simp [intOf]; omega
                  | false =>
                    rw [hsn] at cD
                    have HSN : Hid (seen skip (z3.take k3) m = false) := hsn
                    clear hsn
                    cases up
                    · go_wp2
                      go_roundw
                      case rel =>
                        have ew := want_miss (up := false) (lo := lo) (hi := hi) (o := z0) hkl HU.out hsk (by rw [Int.toNat_natCast]; exact HSN.out)
                        rw [Int.toNat_natCast, ← HCN.out, ← HB.out, val_down (by omega)] at ew
                        refine ⟨k3 + 1, by omega, by go_num, by rw [take_snoc hkl, ← HU.out, cnt_append, cnt_cons_ne hsk, cnt_nil, ← HB.out]; go_num, ?_, ?_, (BR.out.setCell hD _).setCell hBg _⟩
                        · rw [ew]
                          refine ⟨by rw [List.length_set]; exact OR.out.1, hl0, ?_, .inr ⟨g, rfl, hBg, ?_⟩⟩
                          · intro x hx
                            rcases List.mem_or_eq_of_mem_set hx with h | h
                            · exact OR.out.2.2.1 x h
                            · rw [h]; exact wrap64_wf _
                          · rw [← ints_set]
                            exact (RG.out.setOther hgD _).set m _
                        · have es : ∀ v, seen skip (z3.take (k3 + 1)) v = (seen skip (z3.take k3) v || m == v) := fun v => by
                            rw [seen_snoc_ne hkl HU.out hsk v, Int.toNat_natCast]
                          rw [← seenCells_set len0 es]
                          exact (RR.out.set m _).setOther (Ne.symm hgD) _
                      case measure => simp [intOf]; omega
                    · go_wp2
                      go_roundw
                      case rel =>
                        have ew := want_miss (up := true) (lo := lo) (hi := hi) (o := z0) hkl HU.out hsk (by rw [Int.toNat_natCast]; exact HSN.out)
                        rw [Int.toNat_natCast, ← HCN.out, ← HB.out, val_up (by omega)] at ew
                        refine ⟨k3 + 1, by omega, by go_num, by rw [take_snoc hkl, ← HU.out, cnt_append, cnt_cons_ne hsk, cnt_nil, ← HB.out]; go_num, ?_, ?_, (BR.out.setCell hD _).setCell hBg _⟩
                        · rw [ew]
                          refine ⟨by rw [List.length_set]; exact OR.out.1, hl0, ?_, .inr ⟨g, rfl, hBg, ?_⟩⟩
                          · intro x hx
                            rcases List.mem_or_eq_of_mem_set hx with h | h
                            · exact OR.out.2.2.1 x h
                            · rw [h]; exact wrap64_wf _
                          · rw [← ints_set]
                            exact (RG.out.setOther hgD _).set m _
                        · have es : ∀ v, seen skip (z3.take (k3 + 1)) v = (seen skip (z3.take k3) v || m == v) := fun v => by
                            rw [seen_snoc_ne hkl HU.out hsk v, Int.toNat_natCast]
                          rw [← seenCells_set len0 es]
                          exact (RR.out.set m _).setOther (Ne.symm hgD) _
                      case measure => simp [intOf]; omega
              · have lb := bounds_i64 WLO.out
                have hb' := bounds_i64 WHI.out
                have OS : Hid (OwnI wr w3.heap.size a2 len0 s.1) := by
                  have e := OR.out
                  rw [want_end _ _ _ _ _ _ (by rw [NI3.out.1]; omega)] at e
                  rw [HS.out, pile_form lb.1 lb.2 hb'.1 hb'.2]
                  exact e
                have OA : Hid (OwnI wr wc.heap.size a1 len0 s.1) := O3.out.below BR.out (Nat.le_refl _)
                have BW : Hid (Below W.heap.size W wr) := BW3.out.trans (BR.out.mono BW3.out.size)
                cases up
                · have e1 : s.2.1 = wrap64 (lo - c) := by rw [HS.out, pile_form lb.1 lb.2 hb'.1 hb'.2]; simp [val, ← HCN.out]
                  have e2 : s.2.2 = hi := by rw [HS.out, pile_form lb.1 lb.2 hb'.1 hb'.2]; simp
                  have TR : Hid (TabIs wr w1.heap.size a1 len0 (wrap64 (lo - c)) (hi)) := by
                    have e := T3.out.below BR.out T3.out.lt
                    rw [e1, e2] at e
                    exact e
                  clear e1 e2 T3
                  go_wp2_with fail
                  refine (order_get TR.out).mono ?_
                  rintro e w6 ⟨rfl, hw6⟩
                  obtain rfl : wr = w6 := hw6.symm
                  go_wp2_with fail
                  refine (same_yes OA.out.isRow OS.out.isRow).mono ?_
                  rintro e w7 ⟨rfl, hb7⟩
                  have T7 : Hid (TabIs w7 w1.heap.size a1 len0 (wrap64 (lo - c)) (hi)) := TR.out.below hb7 TR.out.lt
                  have B7 : Hid (Below W.heap.size W w7) := BW.out.trans (hb7.mono BW.out.size)
                  clear hb7 TR
                  go_wp2_with fail
                  refine (lowest_get T7.out).mono ?_
                  rintro e w8 ⟨rfl, hw8⟩
                  obtain rfl : w7 = w8 := hw8.symm
                  go_wp2_with fail
                  refine (highest_get T7.out).mono ?_
                  rintro e w9 ⟨rfl, hw9⟩
                  obtain rfl : w7 = w9 := hw9.symm
                  go_wp2
                  go_ret
                  exact ⟨rfl, B7.out⟩
                · have e1 : s.2.1 = lo := by rw [HS.out, pile_form lb.1 lb.2 hb'.1 hb'.2]; simp
                  have e2 : s.2.2 = wrap64 (hi + 2 * c) := by rw [HS.out, pile_form lb.1 lb.2 hb'.1 hb'.2]; simp [val, ← HCN.out]
                  have TR : Hid (TabIs wr w1.heap.size a1 len0 (lo) (wrap64 (hi + 2 * c))) := by
                    have e := T3.out.below BR.out T3.out.lt
                    rw [e1, e2] at e
                    exact e
                  clear e1 e2 T3
                  go_wp2_with fail
                  refine (order_get TR.out).mono ?_
                  rintro e w6 ⟨rfl, hw6⟩
                  obtain rfl : wr = w6 := hw6.symm
                  go_wp2_with fail
                  refine (same_yes OA.out.isRow OS.out.isRow).mono ?_
                  rintro e w7 ⟨rfl, hb7⟩
                  have T7 : Hid (TabIs w7 w1.heap.size a1 len0 (lo) (wrap64 (hi + 2 * c))) := TR.out.below hb7 TR.out.lt
                  have B7 : Hid (Below W.heap.size W w7) := BW.out.trans (hb7.mono BW.out.size)
                  clear hb7 TR
                  go_wp2_with fail
                  refine (lowest_get T7.out).mono ?_
                  rintro e w8 ⟨rfl, hw8⟩
                  obtain rfl : w7 = w8 := hw8.symm
                  go_wp2_with fail
                  refine (highest_get T7.out).mono ?_
                  rintro e w9 ⟨rfl, hw9⟩
                  obtain rfl : w7 = w9 := hw9.symm
                  go_wp2
                  go_ret
                  exact ⟨rfl, B7.out⟩

set_option maxRecDepth 100000 in
set_option maxHeartbeats 1000000 in
theorem form_law {a0 : Option Addr} {len0 cap0 : Nat} {z0 : List Int} {a1 a2 : Int} {a3 : Option Addr} {len3 cap3 : Nat} {z3 : List Int} {a4 : Int} {a5 : Bool} {W : World}
    (w0 : IsRow .i64 W a0 len0 cap0 z0) (w1 : (Lit.int .i64 a1).wf = true) (w2 : (Lit.int .i64 a2).wf = true) (w3 : IsRow .i32 W a3 len3 cap3 z3) (w4 : (Lit.int .i64 a4).wf = true) :
    Calls Try.prog 4 #[.slice a0 len0 cap0, .int .i64 a1, .int .i64 a2, .slice a3 len3 cap3, .int .i64 a4, .bool a5] W fun e w' => e = .returned (.bool true) ∧ Below W.heap.size W w' := by
  by_cases h0 : len0 ≤ 32768
  · by_cases h3 : len3 ≤ 65536
    · exact form_in w0 w1 w2 w3 w4 h0 h3
    · clear w0 w1 w2 w3 w4
      have h3' : (65536 : Int) < (len3 : Int) := by omega
      go_enter Try.func4, Try.ntmps4
      go_wp2_with fail
      refine (bytesForm_any a0 a3 len0 cap0 len3 cap3 a1 a2 a4 a5 W).mono ?_
      rintro e w' ⟨⟨x, rfl⟩, hw⟩
      obtain rfl : W = w' := hw.symm
      cases x
      · go_wp2
        go_ret
        exact ⟨rfl, Below.refl _ _⟩
      · go_wp2
        all_goals (go_ret; exact ⟨rfl, Below.refl _ _⟩)
  · clear w0 w1 w2 w3 w4
    have h0' : (32768 : Int) < (len0 : Int) := by omega
    go_enter Try.func4, Try.ntmps4
    go_wp2_with fail
    refine (bytesForm_any a0 a3 len0 cap0 len3 cap3 a1 a2 a4 a5 W).mono ?_
    rintro e w' ⟨⟨x, rfl⟩, hw⟩
    obtain rfl : W = w' := hw.symm
    cases x
    · go_wp2
      go_ret
      exact ⟨rfl, Below.refl _ _⟩
    · go_wp2
      all_goals (go_ret; exact ⟨rfl, Below.refl _ _⟩)
end Go.Proofs.Qxb6616332a
