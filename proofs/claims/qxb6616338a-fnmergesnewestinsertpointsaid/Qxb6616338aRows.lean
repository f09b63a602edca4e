/-
  No cell of these rows narrows 'for every input' (looked for: loops, veiled, ifaces, maps, wideKeys, modest, calm, conditions, laid).
  DERIVED. THE GIVEN ROWS OF THIS SEAT. 2 by the template 'for every input the law returns true; each argument reads behind the call as it read before'; 0 by the template 'total and deterministic' (their statements: Qxb6616338aTotals.lean).
  GIVEN WITH THE SEED: the statements are not yours to turn. If you find one false, say at which input.
  Laid BY PROGRAM, IN A SANDBOX (cutbox-rows.mjs): the forced cells as the released guide's own fill.sh prints them over the translation 16eb2e12f56fc062… (all of the seat's roots in one cut). By AI agents, Wed Nov 11 2026. No macro, syntax, notation, axiom, sorry.
-/
import Derived.Test.Qxb6616338aChecked
import GoSem.Claim
import GoSem.ClaimJoined
import GoSem.ClaimMapViews
import Derived.JoinedTies
import Derived.KernelRfl
namespace Go.Proofs.Qxb6616338a
/- THE CELL 'sum', in the pinned program and in every row, IS THE sha256 OF THE DUMP (.gsa) THAT Qxb6616338aProg.lean LOADS. Nothing in Lean hashes anything: it is a label: what it is worth is what the hold of that sum in a sandbox is worth. -/
noncomputable def Try.pinned : Pinned := { name := "qxb6616338a", sum := "16eb2e12f56fc062e72e0831b0a6aa10b61430e9ca29b9bc89598e5381120732", checked := Try.checked }
namespace Rows
def none {H : Type} : Left H := { results := [], args := [] }

/-- 'zzlaws_chain_b1.FnMergesNewestCutAtAnyPoint': WHATEVER THE INPUT: true; the input reads as it did. -/
def fnMergesNewestCutAtAnyPointSpec : ChangeSpec := { name := "fnMergesNewestCutAtAnyPoint", fn := fun _ => fun
  | [d1, d2, d3, d4, d5, d6] => { results := [.lit (.bool true)], args := [d1, d2, d3, d4, d5, d6] }
  | _ => none }
def fnMergesNewestCutAtAnyPointRow : OpenClaim := { program := "qxb6616338a", sum := "16eb2e12f56fc062e72e0831b0a6aa10b61430e9ca29b9bc89598e5381120732", func := "example.com/keepchain/keepchain/zzlaws_chain_b1.FnMergesNewestCutAtAnyPoint", spec := "fnMergesNewestCutAtAnyPoint", apart := false }
def FnMergesNewestCutAtAnyPointSaid : Prop := fnMergesNewestCutAtAnyPointRow.holds Try.pinned (OpenSpec.ofChange fnMergesNewestCutAtAnyPointSpec)

/-- ITS FALSE NEIGHBOUR: 'it returns false'. Refute it at one input. -/
def fnMergesNewestCutAtAnyPointWrong : ChangeSpec := { name := "fnMergesNewestCutAtAnyPoint", fn := fun _ => fun
  | [d1, d2, d3, d4, d5, d6] => { results := [.lit (.bool false)], args := [d1, d2, d3, d4, d5, d6] }
  | _ => none }
def FnMergesNewestCutAtAnyPointWrongFalsely : Prop := fnMergesNewestCutAtAnyPointRow.holds Try.pinned (OpenSpec.ofChange fnMergesNewestCutAtAnyPointWrong)

/-- 'zzlaws_chain_b1.FnMergesNewestInsertPoint': WHATEVER THE INPUT: true; the input reads as it did. -/
def fnMergesNewestInsertPointSpec : ChangeSpec := { name := "fnMergesNewestInsertPoint", fn := fun _ => fun
  | [d1, d2, d3, d4] => { results := [.lit (.bool true)], args := [d1, d2, d3, d4] }
  | _ => none }
def fnMergesNewestInsertPointRow : OpenClaim := { program := "qxb6616338a", sum := "16eb2e12f56fc062e72e0831b0a6aa10b61430e9ca29b9bc89598e5381120732", func := "example.com/keepchain/keepchain/zzlaws_chain_b1.FnMergesNewestInsertPoint", spec := "fnMergesNewestInsertPoint", apart := false }
def FnMergesNewestInsertPointSaid : Prop := fnMergesNewestInsertPointRow.holds Try.pinned (OpenSpec.ofChange fnMergesNewestInsertPointSpec)

/-- ITS FALSE NEIGHBOUR: 'it returns false'. Refute it at one input. -/
def fnMergesNewestInsertPointWrong : ChangeSpec := { name := "fnMergesNewestInsertPoint", fn := fun _ => fun
  | [d1, d2, d3, d4] => { results := [.lit (.bool false)], args := [d1, d2, d3, d4] }
  | _ => none }
def FnMergesNewestInsertPointWrongFalsely : Prop := fnMergesNewestInsertPointRow.holds Try.pinned (OpenSpec.ofChange fnMergesNewestInsertPointWrong)

end Rows
end Go.Proofs.Qxb6616338a
