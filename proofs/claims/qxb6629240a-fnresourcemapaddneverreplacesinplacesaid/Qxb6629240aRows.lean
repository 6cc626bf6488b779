/-
  No cell of these rows narrows 'for every input' (looked for: loops, veiled, ifaces, maps, wideKeys, modest, calm, conditions, laid).
  DERIVED. THE GIVEN ROWS OF THIS SEAT. 2 by the template 'for every input the law returns true; each argument reads behind the call as it read before'; 0 by the template 'total and deterministic' (their statements: Qxb6629240aTotals.lean).
  GIVEN WITH THE SEED: the statements are not yours to turn. If you find one false, say at which input.
  Laid BY PROGRAM, IN A SANDBOX (cutbox-rows.mjs): the forced cells as the released guide's own fill.sh prints them over the translation 75660ab2c01bc097… (all of the seat's roots in one cut). By AI agents, Wed Nov 11 2026. No macro, syntax, notation, axiom, sorry.
-/
import Derived.Test.Qxb6629240aChecked
import GoSem.Claim
import GoSem.ClaimJoined
import GoSem.ClaimMapViews
import Derived.JoinedTies
import Derived.KernelRfl
namespace Go.Proofs.Qxb6629240a
/- THE CELL 'sum', in the pinned program and in every row, IS THE sha256 OF THE DUMP (.gsa) THAT Qxb6629240aProg.lean LOADS. Nothing in Lean hashes anything: it is a label: what it is worth is what the hold of that sum in a sandbox is worth. -/
noncomputable def Try.pinned : Pinned := { name := "qxb6629240a", sum := "75660ab2c01bc0977d52b36a4b73c037dbbf35af9137e51624516b5266db6075", checked := Try.checked }
namespace Rows
def none {H : Type} : Left H := { results := [], args := [] }

/-- 'zzlaws_internal_api_b1.FnResourceMapAddFirstWinsFromNil': WHATEVER THE INPUT: true; the input reads as it did. -/
def fnResourceMapAddFirstWinsFromNilSpec : ChangeSpec := { name := "fnResourceMapAddFirstWinsFromNil", fn := fun _ => fun
  | [d] => { results := [.lit (.bool true)], args := [d] }
  | _ => none }
def fnResourceMapAddFirstWinsFromNilRow : OpenClaim := { program := "qxb6629240a", sum := "75660ab2c01bc0977d52b36a4b73c037dbbf35af9137e51624516b5266db6075", func := "example.com/elenco/elenco/zzlaws_internal_api_b1.FnResourceMapAddFirstWinsFromNil", spec := "fnResourceMapAddFirstWinsFromNil", apart := false }
def FnResourceMapAddFirstWinsFromNilSaid : Prop := fnResourceMapAddFirstWinsFromNilRow.holds Try.pinned (OpenSpec.ofChange fnResourceMapAddFirstWinsFromNilSpec)

/-- ITS FALSE NEIGHBOUR: 'it returns false'. Refute it at one input. -/
def fnResourceMapAddFirstWinsFromNilWrong : ChangeSpec := { name := "fnResourceMapAddFirstWinsFromNil", fn := fun _ => fun
  | [d] => { results := [.lit (.bool false)], args := [d] }
  | _ => none }
def FnResourceMapAddFirstWinsFromNilWrongFalsely : Prop := fnResourceMapAddFirstWinsFromNilRow.holds Try.pinned (OpenSpec.ofChange fnResourceMapAddFirstWinsFromNilWrong)

/-- 'zzlaws_internal_api_b1.FnResourceMapAddNeverReplacesInPlace': WHATEVER THE INPUT: true; the input reads as it did. -/
def fnResourceMapAddNeverReplacesInPlaceSpec : ChangeSpec := { name := "fnResourceMapAddNeverReplacesInPlace", fn := fun _ => fun
  | [d1, d2] => { results := [.lit (.bool true)], args := [d1, d2] }
  | _ => none }
def fnResourceMapAddNeverReplacesInPlaceRow : OpenClaim := { program := "qxb6629240a", sum := "75660ab2c01bc0977d52b36a4b73c037dbbf35af9137e51624516b5266db6075", func := "example.com/elenco/elenco/zzlaws_internal_api_b1.FnResourceMapAddNeverReplacesInPlace", spec := "fnResourceMapAddNeverReplacesInPlace", apart := false }
def FnResourceMapAddNeverReplacesInPlaceSaid : Prop := fnResourceMapAddNeverReplacesInPlaceRow.holds Try.pinned (OpenSpec.ofChange fnResourceMapAddNeverReplacesInPlaceSpec)

/-- ITS FALSE NEIGHBOUR: 'it returns false'. Refute it at one input. -/
def fnResourceMapAddNeverReplacesInPlaceWrong : ChangeSpec := { name := "fnResourceMapAddNeverReplacesInPlace", fn := fun _ => fun
  | [d1, d2] => { results := [.lit (.bool false)], args := [d1, d2] }
  | _ => none }
def FnResourceMapAddNeverReplacesInPlaceWrongFalsely : Prop := fnResourceMapAddNeverReplacesInPlaceRow.holds Try.pinned (OpenSpec.ofChange fnResourceMapAddNeverReplacesInPlaceWrong)

end Rows
end Go.Proofs.Qxb6629240a
