/-
  No cell of these rows narrows 'for every input' (looked for: loops, veiled, ifaces, maps, wideKeys, modest, calm, conditions, laid).
  DERIVED. THE GIVEN ROWS OF THIS SEAT. 4 by the template 'for every input the law returns true; each argument reads behind the call as it read before'; 0 by the template 'total and deterministic' (their statements: Qxb6616332aTotals.lean).
  GIVEN WITH THE SEED: the statements are not yours to turn. If you find one false, say at which input.
  Laid BY PROGRAM, IN A SANDBOX (cutbox-rows.mjs): the forced cells as the released guide's own fill.sh prints them over the translation 17887ea6a6099a77… (all of the seat's roots in one cut). By AI agents, Wed Nov 11 2026. No macro, syntax, notation, axiom, sorry.
-/
import Derived.Test.Qxb6616332aChecked
import GoSem.Claim
import GoSem.ClaimJoined
import GoSem.ClaimMapViews
import Derived.JoinedTies
import Derived.KernelRfl
namespace Go.Proofs.Qxb6616332a
/- THE CELL 'sum', in the pinned program and in every row, IS THE sha256 OF THE DUMP (.gsa) THAT Qxb6616332aProg.lean LOADS. Nothing in Lean hashes anything: it is a label: what it is worth is what the hold of that sum in a sandbox is worth. -/
noncomputable def Try.pinned : Pinned := { name := "qxb6616332a", sum := "17887ea6a6099a77be711f85f3750051d9fec106f871de40b8a04c415ce990fa", checked := Try.checked }
namespace Rows
def none {H : Type} : Left H := { results := [], args := [] }

/-- 'zzlaws_root_b1.FnPlaceOrderFree': WHATEVER THE INPUT: true; the input reads as it did. -/
def fnPlaceOrderFreeSpec : ChangeSpec := { name := "fnPlaceOrderFree", fn := fun _ => fun
  | [d1, d2, d3, d4, d5] => { results := [.lit (.bool true)], args := [d1, d2, d3, d4, d5] }
  | _ => none }
def fnPlaceOrderFreeRow : OpenClaim := { program := "qxb6616332a", sum := "17887ea6a6099a77be711f85f3750051d9fec106f871de40b8a04c415ce990fa", func := "example.com/schedula/schedula/zzlaws_root_b1.FnPlaceOrderFree", spec := "fnPlaceOrderFree", apart := false }
def FnPlaceOrderFreeSaid : Prop := fnPlaceOrderFreeRow.holds Try.pinned (OpenSpec.ofChange fnPlaceOrderFreeSpec)

/-- ITS FALSE NEIGHBOUR: 'it returns false'. Refute it at one input. -/
def fnPlaceOrderFreeWrong : ChangeSpec := { name := "fnPlaceOrderFree", fn := fun _ => fun
  | [d1, d2, d3, d4, d5] => { results := [.lit (.bool false)], args := [d1, d2, d3, d4, d5] }
  | _ => none }
def FnPlaceOrderFreeWrongFalsely : Prop := fnPlaceOrderFreeRow.holds Try.pinned (OpenSpec.ofChange fnPlaceOrderFreeWrong)

/-- 'zzlaws_root_b1.FnPileMatchesClosedForm': WHATEVER THE INPUT: true; the input reads as it did. -/
def fnPileMatchesClosedFormSpec : ChangeSpec := { name := "fnPileMatchesClosedForm", fn := fun _ => fun
  | [d1, d2, d3, d4, d5, d6] => { results := [.lit (.bool true)], args := [d1, d2, d3, d4, d5, d6] }
  | _ => none }
def fnPileMatchesClosedFormRow : OpenClaim := { program := "qxb6616332a", sum := "17887ea6a6099a77be711f85f3750051d9fec106f871de40b8a04c415ce990fa", func := "example.com/schedula/schedula/zzlaws_root_b1.FnPileMatchesClosedForm", spec := "fnPileMatchesClosedForm", apart := false }
def FnPileMatchesClosedFormSaid : Prop := fnPileMatchesClosedFormRow.holds Try.pinned (OpenSpec.ofChange fnPileMatchesClosedFormSpec)

/-- ITS FALSE NEIGHBOUR: 'it returns false'. Refute it at one input. -/
def fnPileMatchesClosedFormWrong : ChangeSpec := { name := "fnPileMatchesClosedForm", fn := fun _ => fun
  | [d1, d2, d3, d4, d5, d6] => { results := [.lit (.bool false)], args := [d1, d2, d3, d4, d5, d6] }
  | _ => none }
def FnPileMatchesClosedFormWrongFalsely : Prop := fnPileMatchesClosedFormRow.holds Try.pinned (OpenSpec.ofChange fnPileMatchesClosedFormWrong)

/-- 'zzlaws_root_b1.FnPileSplitAtAnyCut': WHATEVER THE INPUT: true; the input reads as it did. -/
def fnPileSplitAtAnyCutSpec : ChangeSpec := { name := "fnPileSplitAtAnyCut", fn := fun _ => fun
  | [d1, d2, d3, d4, d5, d6, d7] => { results := [.lit (.bool true)], args := [d1, d2, d3, d4, d5, d6, d7] }
  | _ => none }
def fnPileSplitAtAnyCutRow : OpenClaim := { program := "qxb6616332a", sum := "17887ea6a6099a77be711f85f3750051d9fec106f871de40b8a04c415ce990fa", func := "example.com/schedula/schedula/zzlaws_root_b1.FnPileSplitAtAnyCut", spec := "fnPileSplitAtAnyCut", apart := false }
def FnPileSplitAtAnyCutSaid : Prop := fnPileSplitAtAnyCutRow.holds Try.pinned (OpenSpec.ofChange fnPileSplitAtAnyCutSpec)

/-- ITS FALSE NEIGHBOUR: 'it returns false'. Refute it at one input. -/
def fnPileSplitAtAnyCutWrong : ChangeSpec := { name := "fnPileSplitAtAnyCut", fn := fun _ => fun
  | [d1, d2, d3, d4, d5, d6, d7] => { results := [.lit (.bool false)], args := [d1, d2, d3, d4, d5, d6, d7] }
  | _ => none }
def FnPileSplitAtAnyCutWrongFalsely : Prop := fnPileSplitAtAnyCutRow.holds Try.pinned (OpenSpec.ofChange fnPileSplitAtAnyCutWrong)

/-- 'zzlaws_root_b1.FnPlaceScriptMatchesLastWrite': WHATEVER THE INPUT: true; the input reads as it did. -/
def fnPlaceScriptMatchesLastWriteSpec : ChangeSpec := { name := "fnPlaceScriptMatchesLastWrite", fn := fun _ => fun
  | [d1, d2, d3, d4, d5] => { results := [.lit (.bool true)], args := [d1, d2, d3, d4, d5] }
  | _ => none }
def fnPlaceScriptMatchesLastWriteRow : OpenClaim := { program := "qxb6616332a", sum := "17887ea6a6099a77be711f85f3750051d9fec106f871de40b8a04c415ce990fa", func := "example.com/schedula/schedula/zzlaws_root_b1.FnPlaceScriptMatchesLastWrite", spec := "fnPlaceScriptMatchesLastWrite", apart := false }
def FnPlaceScriptMatchesLastWriteSaid : Prop := fnPlaceScriptMatchesLastWriteRow.holds Try.pinned (OpenSpec.ofChange fnPlaceScriptMatchesLastWriteSpec)

/-- ITS FALSE NEIGHBOUR: 'it returns false'. Refute it at one input. -/
def fnPlaceScriptMatchesLastWriteWrong : ChangeSpec := { name := "fnPlaceScriptMatchesLastWrite", fn := fun _ => fun
  | [d1, d2, d3, d4, d5] => { results := [.lit (.bool false)], args := [d1, d2, d3, d4, d5] }
  | _ => none }
def FnPlaceScriptMatchesLastWriteWrongFalsely : Prop := fnPlaceScriptMatchesLastWriteRow.holds Try.pinned (OpenSpec.ofChange fnPlaceScriptMatchesLastWriteWrong)

end Rows
end Go.Proofs.Qxb6616332a
