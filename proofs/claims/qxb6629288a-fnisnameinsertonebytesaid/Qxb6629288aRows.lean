/-
  No cell of these rows narrows 'for every input' (looked for: loops, veiled, ifaces, maps, wideKeys, modest, calm, conditions, laid).
  DERIVED. THE GIVEN ROWS OF THIS SEAT. 2 by the template 'for every input the law returns true; each argument reads behind the call as it read before'; 0 by the template 'total and deterministic' (their statements: Qxb6629288aTotals.lean).
  GIVEN WITH THE SEED: the statements are not yours to turn. If you find one false, say at which input.
  Laid BY PROGRAM, IN A SANDBOX (cutbox-rows.mjs): the forced cells as the released guide's own fill.sh prints them over the translation c4a6ba77fd80af22… (all of the seat's roots in one cut). By AI agents, Wed Nov 11 2026. No macro, syntax, notation, axiom, sorry.
-/
import Derived.Test.Qxb6629288aChecked
import GoSem.Claim
import GoSem.ClaimJoined
import GoSem.ClaimMapViews
import Derived.JoinedTies
import Derived.KernelRfl
namespace Go.Proofs.Qxb6629288a
/- THE CELL 'sum', in the pinned program and in every row, IS THE sha256 OF THE DUMP (.gsa) THAT Qxb6629288aProg.lean LOADS. Nothing in Lean hashes anything: it is a label: what it is worth is what the hold of that sum in a sandbox is worth. -/
noncomputable def Try.pinned : Pinned := { name := "qxb6629288a", sum := "c4a6ba77fd80af22a823cf44f14767e8f62db8d8b15d60bd4529c1ef62fb16f1", checked := Try.checked }
namespace Rows
def none {H : Type} : Left H := { results := [], args := [] }

/-- 'zzlaws_internal_policy_b1.FnIsNameJoinAtAnyCut': WHATEVER THE INPUT: true; the input reads as it did. -/
def fnIsNameJoinAtAnyCutSpec : ChangeSpec := { name := "fnIsNameJoinAtAnyCut", fn := fun _ => fun
  | [d1, d2] => { results := [.lit (.bool true)], args := [d1, d2] }
  | _ => none }
def fnIsNameJoinAtAnyCutRow : OpenClaim := { program := "qxb6629288a", sum := "c4a6ba77fd80af22a823cf44f14767e8f62db8d8b15d60bd4529c1ef62fb16f1", func := "example.com/fieldpass/fieldpass/zzlaws_internal_policy_b1.FnIsNameJoinAtAnyCut", spec := "fnIsNameJoinAtAnyCut", apart := false }
def FnIsNameJoinAtAnyCutSaid : Prop := fnIsNameJoinAtAnyCutRow.holds Try.pinned (OpenSpec.ofChange fnIsNameJoinAtAnyCutSpec)

/-- ITS FALSE NEIGHBOUR: 'it returns false'. Refute it at one input. -/
def fnIsNameJoinAtAnyCutWrong : ChangeSpec := { name := "fnIsNameJoinAtAnyCut", fn := fun _ => fun
  | [d1, d2] => { results := [.lit (.bool false)], args := [d1, d2] }
  | _ => none }
def FnIsNameJoinAtAnyCutWrongFalsely : Prop := fnIsNameJoinAtAnyCutRow.holds Try.pinned (OpenSpec.ofChange fnIsNameJoinAtAnyCutWrong)

/-- 'zzlaws_internal_policy_b1.FnIsNameInsertOneByte': WHATEVER THE INPUT: true; the input reads as it did. -/
def fnIsNameInsertOneByteSpec : ChangeSpec := { name := "fnIsNameInsertOneByte", fn := fun _ => fun
  | [d1, d2, d3] => { results := [.lit (.bool true)], args := [d1, d2, d3] }
  | _ => none }
def fnIsNameInsertOneByteRow : OpenClaim := { program := "qxb6629288a", sum := "c4a6ba77fd80af22a823cf44f14767e8f62db8d8b15d60bd4529c1ef62fb16f1", func := "example.com/fieldpass/fieldpass/zzlaws_internal_policy_b1.FnIsNameInsertOneByte", spec := "fnIsNameInsertOneByte", apart := false }
def FnIsNameInsertOneByteSaid : Prop := fnIsNameInsertOneByteRow.holds Try.pinned (OpenSpec.ofChange fnIsNameInsertOneByteSpec)

/-- ITS FALSE NEIGHBOUR: 'it returns false'. Refute it at one input. -/
def fnIsNameInsertOneByteWrong : ChangeSpec := { name := "fnIsNameInsertOneByte", fn := fun _ => fun
  | [d1, d2, d3] => { results := [.lit (.bool false)], args := [d1, d2, d3] }
  | _ => none }
def FnIsNameInsertOneByteWrongFalsely : Prop := fnIsNameInsertOneByteRow.holds Try.pinned (OpenSpec.ofChange fnIsNameInsertOneByteWrong)

end Rows
end Go.Proofs.Qxb6629288a
