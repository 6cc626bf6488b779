/-
  Seat b6629240a. A []string argument opened into 'Sl'.
-/
import Derived.Test.Qxb6629240aSl
import Derived.ProofKit
import Derived.SizedLaws
namespace Go.Proofs.Qxb6629240a
open Go.ChangeShapes Go.WideShapes Go.ChangeAt Go.RowKit

theorem Try.own : ownKnob Try.prog.godebug = none := by kernel_rfl
theorem Try.laidOut : laidOutB Try.prog = true := by kernel_rfl
theorem Try.cells9 : Try.prog.cellsOf 9 = 1 := by kernel_rfl
theorem Try.bytes9 : Try.prog.bytesOf 9 = 16 := by kernel_rfl

theorem open_sl {H : Type} {enc : TypeId × Value → H} {W : World} {a0 : Option Addr} {len cap : Nat} {d0 : DataW H} {p : List MemPlace} {ts : List TypeId} {ds : List (DataW H)} {j : Nat}
    (h0 : DataW.Trod enc Try.prog W 0 (fun _ => true) true 22 (.slice a0 len cap) d0 p) (hlt : ∀ x ∈ p, x.block < W.heap.size)
    (hsz : (DataW.weightsEach Try.prog ts ds).all (· ≤ reachBytes) = true) (ht : ts[j]? = some 22) (hd : ds[j]? = some d0) : ∃ b off S, Sl W a0 len cap b off S := by
  obtain ⟨fuel, hf⟩ := h0
  rcases open_strings Try.underlying22 Try.underlying9 Try.cells9 hf with ⟨hcs, hx⟩ | ⟨a, len', cap', ss, hcs, _, hl, hm, hz, hx, hcell, hws⟩
  · simp [Value.cells] at hcs
    obtain ⟨rfl, rfl, rfl⟩ := hcs
    exact ⟨_, _, _, Sl.nil _ _ _⟩
  · simp [Value.cells] at hcs
    obtain ⟨rfl, rfl, rfl⟩ := hcs
    simp only [Prod.mk.injEq] at hx
    obtain ⟨rfl, rfl⟩ := hx
    simp only [if_true] at hz
    have hreach : len * 16 ≤ 140737488351232 := by
      have := sized_slice hsz ht hd Try.underlying22
      rw [Try.bytes9] at this
      simp only [strs, List.length_map, List.length_take, List.length_drop, reachBytes] at this
      omega
    by_cases hl0 : len = 0
    · subst hl0
      exact ⟨_, _, _, Sl.nil _ _ _⟩
    · obtain ⟨b, off, spot⟩ := a
      have hspot : spot = none := by simpa [Addr.add] using World.cell?_spot (hcell 0 (by omega))
      subst hspot
      have hbW : b < W.heap.size := hlt (.cell b off) (MemPlace.mem_row.2 ⟨0, by omega, by simp⟩)
      refine ⟨b, off, fun i => ss.getD i ByteArray.empty, Sl.mk' (fun k hk => by rw [← add_plain]; exact hcell k (by omega)) (fun _ => hbW) hreach (fun k hk => ?_)⟩
      have hk' : k < ss.length := by omega
      show (ss.getD k ByteArray.empty).size ≤ maxLen
      rw [List.getD, List.getElem?_eq_getElem hk']
      exact hws _ (List.getElem_mem hk')

end Go.Proofs.Qxb6629240a
