/-
  No cell of these rows narrows 'for every input' (looked for: loops, veiled, ifaces, maps, wideKeys, modest, calm, conditions, laid).
  DERIVED. THE GIVEN ROWS OF THIS SEAT. 2 by the template 'for every input the law returns true; each argument reads behind the call as it read before'; 0 by the template 'total and deterministic' (their statements: Qxb6630528aTotals.lean).
  GIVEN WITH THE SEED: the statements are not yours to turn. If you find one false, say at which input.
  Laid BY PROGRAM, IN A SANDBOX (cutbox-rows.mjs): the forced cells as the released guide's own fill.sh prints them over the translation df153eaf9b5b30d1… (all of the seat's roots in one cut). By AI agents, Wed Nov 11 2026. No macro, syntax, notation, axiom, sorry.
-/
import Derived.Test.Qxb6630528aChecked
import GoSem.Claim
import GoSem.ClaimJoined
import GoSem.ClaimMapViews
import Derived.JoinedTies
import Derived.KernelRfl
namespace Go.Proofs.Qxb6630528a
/- THE CELL 'sum', in the pinned program and in every row, IS THE sha256 OF THE DUMP (.gsa) THAT Qxb6630528aProg.lean LOADS. Nothing in Lean hashes anything: it is a label: what it is worth is what the hold of that sum in a sandbox is worth. -/
noncomputable def Try.pinned : Pinned := { name := "qxb6630528a", sum := "df153eaf9b5b30d180aa0e199004c7e17210b6562fc4e3a2c095bad3766c6e4d", checked := Try.checked }
namespace Rows
def none {H : Type} : Left H := { results := [], args := [] }

/-- 'zzlaws_policy_b1.FnMatchVariableBindsThenHolds': WHATEVER THE INPUT: true; the input reads as it did. -/
def fnMatchVariableBindsThenHoldsSpec : ChangeSpec := { name := "fnMatchVariableBindsThenHolds", fn := fun _ => fun
  | [d1, d2, d3, d4, d5, d6, d7, d8, d9, d10, d11] => { results := [.lit (.bool true)], args := [d1, d2, d3, d4, d5, d6, d7, d8, d9, d10, d11] }
  | _ => none }
def fnMatchVariableBindsThenHoldsRow : OpenClaim := { program := "qxb6630528a", sum := "df153eaf9b5b30d180aa0e199004c7e17210b6562fc4e3a2c095bad3766c6e4d", func := "example.com/florham/florham/zzlaws_policy_b1.FnMatchVariableBindsThenHolds", spec := "fnMatchVariableBindsThenHolds", recurses := true, apart := false }
def FnMatchVariableBindsThenHoldsSaid : Prop := fnMatchVariableBindsThenHoldsRow.holds Try.pinned (OpenSpec.ofChange fnMatchVariableBindsThenHoldsSpec)

/-- ITS FALSE NEIGHBOUR: 'it returns false'. Refute it at one input. -/
def fnMatchVariableBindsThenHoldsWrong : ChangeSpec := { name := "fnMatchVariableBindsThenHolds", fn := fun _ => fun
  | [d1, d2, d3, d4, d5, d6, d7, d8, d9, d10, d11] => { results := [.lit (.bool false)], args := [d1, d2, d3, d4, d5, d6, d7, d8, d9, d10, d11] }
  | _ => none }
def FnMatchVariableBindsThenHoldsWrongFalsely : Prop := fnMatchVariableBindsThenHoldsRow.holds Try.pinned (OpenSpec.ofChange fnMatchVariableBindsThenHoldsWrong)

/-- 'zzlaws_policy_b1.FnMatchAddressedSplitsAndBinds': WHATEVER THE INPUT: true; the input reads as it did. -/
def fnMatchAddressedSplitsAndBindsSpec : ChangeSpec := { name := "fnMatchAddressedSplitsAndBinds", fn := fun _ => fun
  | [d1, d2, d3, d4, d5, d6, d7, d8, d9, d10, d11] => { results := [.lit (.bool true)], args := [d1, d2, d3, d4, d5, d6, d7, d8, d9, d10, d11] }
  | _ => none }
def fnMatchAddressedSplitsAndBindsRow : OpenClaim := { program := "qxb6630528a", sum := "df153eaf9b5b30d180aa0e199004c7e17210b6562fc4e3a2c095bad3766c6e4d", func := "example.com/florham/florham/zzlaws_policy_b1.FnMatchAddressedSplitsAndBinds", spec := "fnMatchAddressedSplitsAndBinds", recurses := true, apart := false }
def FnMatchAddressedSplitsAndBindsSaid : Prop := fnMatchAddressedSplitsAndBindsRow.holds Try.pinned (OpenSpec.ofChange fnMatchAddressedSplitsAndBindsSpec)

/-- ITS FALSE NEIGHBOUR: 'it returns false'. Refute it at one input. -/
def fnMatchAddressedSplitsAndBindsWrong : ChangeSpec := { name := "fnMatchAddressedSplitsAndBinds", fn := fun _ => fun
  | [d1, d2, d3, d4, d5, d6, d7, d8, d9, d10, d11] => { results := [.lit (.bool false)], args := [d1, d2, d3, d4, d5, d6, d7, d8, d9, d10, d11] }
  | _ => none }
def FnMatchAddressedSplitsAndBindsWrongFalsely : Prop := fnMatchAddressedSplitsAndBindsRow.holds Try.pinned (OpenSpec.ofChange fnMatchAddressedSplitsAndBindsWrong)

end Rows
end Go.Proofs.Qxb6630528a
