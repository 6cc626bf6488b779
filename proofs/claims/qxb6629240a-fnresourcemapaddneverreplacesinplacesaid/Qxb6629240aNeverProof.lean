/-
  Seat b6629240a. Rows.FnResourceMapAddNeverReplacesInPlaceSaid: the row out of the walk.
-/
import Derived.Test.Qxb6629240aNever
import Derived.Test.Qxb6629240aOpen
namespace Go.Proofs.Qxb6629240a
open Go.ChangeShapes Go.WideShapes Go.ChangeAt Go.RowKit

set_option maxRecDepth 100000 in
theorem never_lifted (os : Os) (started : os.Started) (H : Type) (enc : TypeId × Value → H) :
    ReturnsInHanded {} Try.checked os 4 .any (Rows.fnResourceMapAddNeverReplacesInPlaceSpec.pre6 enc Try.prog Try.f4 Rows.fnResourceMapAddNeverReplacesInPlaceRow.domain false) (Rows.fnResourceMapAddNeverReplacesInPlaceSpec.post enc Try.prog Try.f4 false true false false) := by
  refine returnsInHanded_of_change_sized (C := Try.checked) Try.own started (by kernel_rfl) Try.func4
    (ChangeSpec.witness6 (enc := enc) (C := Try.checked) false ⟨#[], #[.slice none 0 0, .slice none 0 0], []⟩ 8 (by kernel_rfl) (by kernel_rfl) (by kernel_rfl) (by kernel_rfl)) ?_
  intro W base args ds gs before hval0 hW _ hsz0 _
  have hsz : (DataW.weightsEach Try.prog (Try.f4.params.toList ++ Rows.fnResourceMapAddNeverReplacesInPlaceSpec.plain.varTypes Try.prog) (ds ++ gs)).all (· ≤ reachBytes) = true := hsz0
  clear hsz0
  have hval : ∀ (j : Nat) t v, Try.f4.params[j]? = some t → args[j]? = some v → Value.okWide Try.prog W .any base t v := hval0
  have hW' := hW
  obtain ⟨p, q, hA0, hV, rfl, _, _⟩ := hW
  have hA : DataW.TrodAll enc Try.prog W 0 (fun _ => true) true Try.f4.params.toList args.toList ds p := hA0
  rw [Try.params4] at hA hval hsz
  obtain ⟨v0, v1, d0, d1, p0, p1, rfl, rfl, rfl, h0, h1⟩ := trodAll_two hA
  obtain ⟨rfl, rfl⟩ := trodVars_none hV
  obtain ⟨a0, len, cap, rfl⟩ := okWide_slice Try.underlying22 (hval 0 22 v0 rfl rfl)
  obtain ⟨a1, len', cap', rfl⟩ := okWide_slice Try.underlying22 (hval 1 22 v1 rfl rfl)
  clear hA0 hval0
  simp only [List.append_nil] at hW'
  have hlt0 : ∀ x ∈ p0, x.block < W.heap.size := fun x hx => by simpa using hW'.lt x (List.mem_append_left _ hx)
  have hlt1 : ∀ x ∈ p1, x.block < W.heap.size := fun x hx => by simpa using hW'.lt x (List.mem_append_right _ hx)
  obtain ⟨b, off, P, hsl⟩ := open_sl (j := 0) h0 hlt0 hsz rfl rfl
  obtain ⟨b', off', S, hsl'⟩ := open_sl (j := 1) h1 hlt1 hsz rfl rfl
  refine (never_walk W hsl hsl').mono fun e W' ⟨he, hnx⟩ => ?_
  subst he
  refine ⟨_, rfl, _, _, _, [], p0 ++ p1, [], hW', ?_, ?_, rfl, hnx.frame _, fun h => by cases h⟩
  · exact trodAll_mk1 (shut_bool Try.underlying4 _)
  · exact trodAll_mk2 (Below.trod Try.laidOut (by kernel_rfl) (of_decide_eq_true (by kernel_rfl)) h0 hnx hlt0) (Below.trod Try.laidOut (by kernel_rfl) (of_decide_eq_true (by kernel_rfl)) h1 hnx hlt1)

theorem never_over : Rows.fnResourceMapAddNeverReplacesInPlaceRow.holds Try.pinned (OpenSpec.ofChange Rows.fnResourceMapAddNeverReplacesInPlaceSpec) :=
  OpenClaim.holds_of_wide 4 Try.f4 rfl rfl rfl rfl rfl rfl rfl ⟨rfl, rfl, rfl, rfl, rfl⟩ rfl rfl rfl rfl rfl (by kernel_rfl) Try.func4 (by kernel_rfl)
    (of_decide_eq_true (by kernel_rfl)) (by unfold Func.isWrapper; first | (rw [if_pos (by decide +kernel)]; kernel_rfl) | (rw [if_neg (by decide +kernel)]; exact ⟨rfl, rfl⟩))
    (fun os started H enc _ => never_lifted os started H enc)

/-- THE STATEMENT. -/
theorem fnResourceMapAddNeverReplacesInPlace_proved : Rows.FnResourceMapAddNeverReplacesInPlaceSaid := never_over

end Go.Proofs.Qxb6629240a
