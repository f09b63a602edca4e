import Derived.Test.Qxb6616338aBase
import Derived.Deep.RegionWith
import Derived.Deep.RegionHeld3
import Derived.Deep.DrawnRows
namespace Go.Proofs.Qxb6616338a
open Go.RowKit

/-- a Retention's cells -/
def ret (ar : Option Addr) (lr cr : Nat) (a : Option Addr) (l c : Nat) (u : Option Addr) : Array Value := #[.slice ar lr cr, .slice a l c, .pointer u]

set_option maxHeartbeats 1000000 in
theorem merges_any (ar : Option Addr) (lr cr : Nat) (a : Option Addr) (l c : Nat) (u : Option Addr) (w : World) :
    Calls Try.prog 10 #[.agg #[.slice ar lr cr, .slice a l c, .pointer u]] w fun e w' => e = .returned (.bool u.isSome) ∧ Below w.heap.size w w' := by
  cases u with
  | none =>
    go_enter Try.func10, Try.ntmps10
    go_wp2
    go_ret
    exact ⟨rfl, (Below.refl _ _).alloc (Nat.le_refl _) _⟩
  | some x =>
    go_enter Try.func10, Try.ntmps10
    go_wp2
    go_ret
    exact ⟨rfl, (Below.refl _ _).alloc (Nat.le_refl _) _⟩

set_option maxHeartbeats 1000000 in
theorem newRet_any (ar : Option Addr) (lr cr : Nat) (a : Option Addr) (l c : Nat) (u : Option Addr) (w : World) :
    Calls Try.prog 7 #[.slice ar lr cr, .slice a l c, .pointer u] w fun e w' => e = .returned (.agg #[.slice ar lr cr, .slice a l c, .pointer u]) ∧ Below w.heap.size w w' := by
  go_enter Try.func7, Try.ntmps7
  go_wp2
  exact bodyPost_ret (v := .agg #[.slice ar lr cr, .slice a l c, .pointer u]) (by simp [results, Try.results7, go_sem]) rfl ⟨rfl, (Below.refl _ _).alloc (Nat.le_refl _) _⟩

set_option maxHeartbeats 1000000 in
theorem newest_none {ar : Option Addr} {lr cr : Nat} {a : Option Addr} {len cap : Nat} {w : World} :
    Calls Try.prog 9 #[.agg #[.slice ar lr cr, .slice a len cap, .pointer none]] w fun e w' => e = .returned (.bool false) ∧ Below w.heap.size w w' := by
  go_enter Try.func9, Try.ntmps9
  go_wp2
  first | go_region_with (go_at_call 10; refine (merges_any _ _ _ _ _ _ _ _).mono ?_; rintro e w1 ⟨rfl, hb1⟩) | fail
  all_goals
    go_wp2
    go_ret
    exact ⟨rfl, ((Below.refl _ _).alloc (Nat.le_refl _) _).drew.trans (hb1.mono (by simp))⟩

set_option maxHeartbeats 1000000 in
theorem newest_some {ar : Option Addr} {lr cr : Nat} {a : Option Addr} {len cap : Nat} {ks : List ByteArray} {x : Addr} {w : World} (h : IsPts w a len cap ks) :
    Calls Try.prog 9 #[.agg #[.slice ar lr cr, .slice a len cap, .pointer (some x)]] w fun e w' => e = .returned (.bool (decide (1 ≤ ks.length) && noFull (ks.drop 1))) ∧ Below w.heap.size w w' := by
  have H : Hid (IsPts w a len cap ks) := h
  clear h
  obtain ⟨v, hv⟩ : ∃ v, v = (decide (1 ≤ ks.length) && noFull (ks.drop 1)) := ⟨_, rfl⟩
  rw [← hv]
  have HV : Hid (v = (decide (1 ≤ ks.length) && noFull (ks.drop 1))) := hv
  clear hv
  go_enter Try.func9, Try.ntmps9
  go_wp2
  obtain ⟨W1, hW1⟩ : ∃ W1, W1 = w.alloc (.cells #[.slice ar lr cr, .slice a len cap, .pointer (some x)] 38) := ⟨_, rfl⟩
  rw [← hW1]
  have B1 : Hid (Below w.heap.size w W1) := by rw [hW1]; exact (Below.refl _ _).alloc (Nat.le_refl _) _
  have c0 : W1.cell? ⟨w.heap.size, 0, none⟩ = some (.slice ar lr cr) := by rw [hW1]; simp [go_sem]
  have c1 : W1.cell? ⟨w.heap.size, 1, none⟩ = some (.slice a len cap) := by rw [hW1]; simp [go_sem]
  have c2 : W1.cell? ⟨w.heap.size, 2, none⟩ = some (.pointer (some x)) := by rw [hW1]; simp [go_sem]
  have hs1 : w.heap.size < W1.heap.size := by rw [hW1]; simp
  clear hW1
  go_region_held3 (fun w' => w'.cell? ⟨w.heap.size, 0, none⟩ = some (.slice ar lr cr) ∧ w'.cell? ⟨w.heap.size, 1, none⟩ = some (.slice a len cap) ∧ w'.cell? ⟨w.heap.size, 2, none⟩ = some (.pointer (some x))) (first | exact ⟨c0, c1, c2⟩ | exact ⟨d0, d1, d2⟩) (first | (go_at_call 10; refine (merges_any _ _ _ _ _ _ _ _).mono ?_; rintro e w1 ⟨rfl, hb1⟩; have d0 : w1.cell? ⟨w.heap.size, 0, none⟩ = some (.slice ar lr cr) := (hb1.cell (p := ⟨w.heap.size, 0, none⟩) hs1).trans c0; have d1 : w1.cell? ⟨w.heap.size, 1, none⟩ = some (.slice a len cap) := (hb1.cell (p := ⟨w.heap.size, 1, none⟩) hs1).trans c1; have d2 : w1.cell? ⟨w.heap.size, 2, none⟩ = some (.pointer (some x)) := (hb1.cell (p := ⟨w.heap.size, 2, none⟩) hs1).trans c2; have B2 : Hid (Below w.heap.size w w1) := B1.out.drew.trans (hb1.mono (Nat.le_of_lt hs1)); clear hb1) | (go_at_call 12; refine (chainEnd_any (H.out.below B2.out)).mono ?_; rintro e w2 ⟨⟨n, rfl, hn⟩, hw2⟩; obtain rfl := hw2.symm; rw [← HV.out] at hn))
  go_wp2
  go_ret
  exact ⟨rfl, B2.out⟩

/-- MergesNewest -/
theorem newest_any {ar : Option Addr} {lr cr : Nat} {a : Option Addr} {len cap : Nat} {ks : List ByteArray} {u : Option Addr} {w : World} (v : Bool) (hv : newest u.isSome ks = v) (h : IsPts w a len cap ks) :
    Calls Try.prog 9 #[.agg #[.slice ar lr cr, .slice a len cap, .pointer u]] w fun e w' => e = .returned (.bool v) ∧ Below w.heap.size w w' := by
  subst hv
  cases u with
  | none => exact newest_none
  | some x => exact newest_some h

def RetB (e : Ending) : Prop := ∃ x : Bool, e = .returned (.bool x)
theorem retB_mk (x : Bool) : RetB (.returned (.bool x)) := ⟨x, rfl⟩

set_option maxHeartbeats 1000000 in
theorem bytesIns_any (m : Bool) (c : Int) (s : ByteArray) {a : Option Addr} {len cap : Nat} {ss : List ByteArray} {w : World} (h : IsStrs w a len cap ss) :
    Calls Try.prog 11 #[.bool m, .slice a len cap, .int .i64 c, .string s] w fun e w' => RetB e ∧ w' = w := by
  have H : Hid (IsStrs w a len cap ss) := h
  clear h
  go_enter Try.func11, Try.ntmps11
  go_wp2
  · go_ret
    exact ⟨retB_mk _, rfl⟩
  go_loop [9, 10] (fun a i => ∃ (k : Nat) (m : Int), k ≤ len ∧ i = .int .i64 k ∧ a = .int .i64 m) (fun _ i => len - (intOf i).toNat)
  case atStart => exact ⟨0, _, Nat.zero_le _, rfl, rfl⟩
  case round =>
    obtain ⟨k, m, hk, rfl, rfl⟩ := hrel
    by_cases hlt : k < len
    · obtain ⟨b, off, rfl, hb, hck⟩ := H.out.at hlt
      go_wp2
      case roundEnd => exact ⟨⟨k + 1, _, by omega, by go_num, rfl⟩, by simp [intOf]; omega⟩
      all_goals (go_ret; exact ⟨retB_mk _, rfl⟩)
    · go_wp2
      all_goals (go_ret; exact ⟨retB_mk _, rfl⟩)
end Go.Proofs.Qxb6616338a
