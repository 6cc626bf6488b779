/-
  No cell of these rows narrows 'for every input' (looked for: loops, veiled, ifaces, maps, wideKeys, modest, calm, conditions, laid).
  DERIVED. THE GIVEN ROWS OF THIS SEAT. 2 by the template 'for every input the law returns true; each argument reads behind the call as it read before'; 0 by the template 'total and deterministic' (their statements: Qxb6629353aTotals.lean).
  GIVEN WITH THE SEED: the statements are not yours to turn. If you find one false, say at which input.
  Laid BY PROGRAM, IN A SANDBOX (cutbox-rows.mjs): the forced cells as the released guide's own fill.sh prints them over the translation 3af3f1002d310d47… (all of the seat's roots in one cut). By AI agents, Wed Nov 11 2026. No macro, syntax, notation, axiom, sorry.
-/
import Derived.Test.Qxb6629353aChecked
import GoSem.Claim
import GoSem.ClaimJoined
import GoSem.ClaimMapViews
import Derived.JoinedTies
import Derived.KernelRfl
namespace Go.Proofs.Qxb6629353a
/- THE CELL 'sum', in the pinned program and in every row, IS THE sha256 OF THE DUMP (.gsa) THAT Qxb6629353aProg.lean LOADS. Nothing in Lean hashes anything: it is a label: what it is worth is what the hold of that sum in a sandbox is worth. -/
noncomputable def Try.pinned : Pinned := { name := "qxb6629353a", sum := "3af3f1002d310d4790663a0fe3cb59b3a45ca14e70787030a35fa80807c80d5e", checked := Try.checked }
namespace Rows
def none {H : Type} : Left H := { results := [], args := [] }

/-- 'zzlaws_pkg_upload_b1.FnPartsTileTheBlob': WHATEVER THE INPUT: true; the input reads as it did. -/
def fnPartsTileTheBlobSpec : ChangeSpec := { name := "fnPartsTileTheBlob", fn := fun _ => fun
  | [d1, d2, d3] => { results := [.lit (.bool true)], args := [d1, d2, d3] }
  | _ => none }
def fnPartsTileTheBlobRow : OpenClaim := { program := "qxb6629353a", sum := "3af3f1002d310d4790663a0fe3cb59b3a45ca14e70787030a35fa80807c80d5e", func := "example.com/lodestore/lodestore/zzlaws_pkg_upload_b1.FnPartsTileTheBlob", spec := "fnPartsTileTheBlob", apart := false }
def FnPartsTileTheBlobSaid : Prop := fnPartsTileTheBlobRow.holds Try.pinned (OpenSpec.ofChange fnPartsTileTheBlobSpec)

/-- ITS FALSE NEIGHBOUR: 'it returns false'. Refute it at one input. -/
def fnPartsTileTheBlobWrong : ChangeSpec := { name := "fnPartsTileTheBlob", fn := fun _ => fun
  | [d1, d2, d3] => { results := [.lit (.bool false)], args := [d1, d2, d3] }
  | _ => none }
def FnPartsTileTheBlobWrongFalsely : Prop := fnPartsTileTheBlobRow.holds Try.pinned (OpenSpec.ofChange fnPartsTileTheBlobWrong)

/-- 'zzlaws_pkg_upload_b1.FnPrependingAFullPartShiftsEveryPart': WHATEVER THE INPUT: true; the input reads as it did. -/
def fnPrependingAFullPartShiftsEveryPartSpec : ChangeSpec := { name := "fnPrependingAFullPartShiftsEveryPart", fn := fun _ => fun
  | [d1, d2, d3] => { results := [.lit (.bool true)], args := [d1, d2, d3] }
  | _ => none }
def fnPrependingAFullPartShiftsEveryPartRow : OpenClaim := { program := "qxb6629353a", sum := "3af3f1002d310d4790663a0fe3cb59b3a45ca14e70787030a35fa80807c80d5e", func := "example.com/lodestore/lodestore/zzlaws_pkg_upload_b1.FnPrependingAFullPartShiftsEveryPart", spec := "fnPrependingAFullPartShiftsEveryPart", apart := false }
def FnPrependingAFullPartShiftsEveryPartSaid : Prop := fnPrependingAFullPartShiftsEveryPartRow.holds Try.pinned (OpenSpec.ofChange fnPrependingAFullPartShiftsEveryPartSpec)

/-- ITS FALSE NEIGHBOUR: 'it returns false'. Refute it at one input. -/
def fnPrependingAFullPartShiftsEveryPartWrong : ChangeSpec := { name := "fnPrependingAFullPartShiftsEveryPart", fn := fun _ => fun
  | [d1, d2, d3] => { results := [.lit (.bool false)], args := [d1, d2, d3] }
  | _ => none }
def FnPrependingAFullPartShiftsEveryPartWrongFalsely : Prop := fnPrependingAFullPartShiftsEveryPartRow.holds Try.pinned (OpenSpec.ofChange fnPrependingAFullPartShiftsEveryPartWrong)

end Rows
end Go.Proofs.Qxb6629353a
