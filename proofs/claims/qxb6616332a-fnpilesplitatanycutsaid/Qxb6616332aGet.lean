import Derived.Test.Qxb6616332aTab
namespace Go.Proofs.Qxb6616332a
open Go.RowKit

set_option maxHeartbeats 1000000 in
theorem pileZ_any {B L : Nat} {a an : Option Addr} {n ln cn : Nat} {zs nodes : List Int} {lo hi skip : Int} {up : Bool} {w : World} (hB : B ≤ L) (hN : NodesIn w B an ln nodes) (hF : Fits skip n nodes) (hT : TabIs w L a n lo hi) (hO : OwnI w B a n zs) :
    Calls Try.prog 16 #[.pointer (some ⟨L, 0, none⟩), .slice an ln cn, .int .i64 skip, .bool up] w fun e w' => e = .returned (.tuple #[]) ∧
      TabIs w' L a n (pile skip up nodes (zs, lo, hi)).2.1 (pile skip up nodes (zs, lo, hi)).2.2 ∧ OwnI w' B a n (pile skip up nodes (zs, lo, hi)).1 ∧ Below B w w' := by
  have HN : Hid (NodesIn w B an ln nodes) := hN
  have HF : Hid (Fits skip n nodes) := hF
  have HT : Hid (TabIs w L a n lo hi) := hT
  have HO : Hid (OwnI w B a n zs) := hO
  clear hN hF hT hO
  go_enter Try.func16, Try.ntmps16
  go_wp2_with fail
  refine (pile_any hB HN.out HF.out HT.out HO.out).mono ?_
  rintro e w' ⟨rfl, h1, h2, h3⟩
  have H1 := (show Hid _ from h1)
  have H2 := (show Hid _ from h2)
  have H3 := (show Hid _ from h3)
  clear h1 h2 h3
  go_wp2
  go_end0
  exact ⟨rfl, H1.out, H2.out, H3.out⟩

set_option maxHeartbeats 1000000 in
theorem order_get {L : Nat} {a : Option Addr} {n : Nat} {lo hi : Int} {w : World} (hT : TabIs w L a n lo hi) :
    Calls Try.prog 11 #[.pointer (some ⟨L, 0, none⟩)] w fun e w' => e = .returned (.slice a n n) ∧ w' = w := by
  have c8 : w.cell? ⟨L, 8, none⟩ = some (.slice a n n) := hT.cell rfl
  clear hT
  go_enter Try.func11, Try.ntmps11
  go_wp2
  go_ret
  exact ⟨rfl, rfl⟩
set_option maxHeartbeats 1000000 in
theorem lowest_get {L : Nat} {a : Option Addr} {n : Nat} {lo hi : Int} {w : World} (hT : TabIs w L a n lo hi) :
    Calls Try.prog 12 #[.pointer (some ⟨L, 0, none⟩)] w fun e w' => e = .returned (.int .i64 lo) ∧ w' = w := by
  have c9 : w.cell? ⟨L, 9, none⟩ = some (.int .i64 lo) := hT.cell rfl
  clear hT
  go_enter Try.func12, Try.ntmps12
  go_wp2
  go_ret
  exact ⟨rfl, rfl⟩
set_option maxHeartbeats 1000000 in
theorem highest_get {L : Nat} {a : Option Addr} {n : Nat} {lo hi : Int} {w : World} (hT : TabIs w L a n lo hi) :
    Calls Try.prog 13 #[.pointer (some ⟨L, 0, none⟩)] w fun e w' => e = .returned (.int .i64 hi) ∧ w' = w := by
  have c10 : w.cell? ⟨L, 10, none⟩ = some (.int .i64 hi) := hT.cell rfl
  clear hT
  go_enter Try.func13, Try.ntmps13
  go_wp2
  go_ret
  exact ⟨rfl, rfl⟩

def RetB (e : Ending) : Prop := ∃ x : Bool, e = .returned (.bool x)
theorem retB_mk (x : Bool) : RetB (.returned (.bool x)) := ⟨x, rfl⟩
set_option maxHeartbeats 1000000 in
theorem bytesForm_any (a0 a3 : Option Addr) (l0 c0 l3 c3 : Nat) (lo hi skip : Int) (up : Bool) (w : World) :
    Calls Try.prog 15 #[.slice a0 l0 c0, .int .i64 lo, .int .i64 hi, .slice a3 l3 c3, .int .i64 skip, .bool up] w fun e w' => RetB e ∧ w' = w := by
  go_enter Try.func15, Try.ntmps15
  go_wp2
  all_goals (go_ret; exact ⟨retB_mk _, rfl⟩)
set_option maxHeartbeats 1000000 in
theorem bytesCut_any (a0 a3 : Option Addr) (l0 c0 l3 c3 : Nat) (lo hi k skip : Int) (up : Bool) (w : World) :
    Calls Try.prog 17 #[.slice a0 l0 c0, .int .i64 lo, .int .i64 hi, .slice a3 l3 c3, .int .i64 k, .int .i64 skip, .bool up] w fun e w' => RetB e ∧ w' = w := by
  go_enter Try.func17, Try.ntmps17
  go_wp2
  all_goals (go_ret; exact ⟨retB_mk _, rfl⟩)
end Go.Proofs.Qxb6616332a
