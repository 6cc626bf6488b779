/-
  Seat b6629240a. The contract of (*ResourceMap).Add (7), three ways: the map nil · the key there · the key not there.
-/
import Derived.Test.Qxb6629240aMap
import Derived.RegionTactic
namespace Go.Proofs.Qxb6629240a
open Go.RowKit Go.Maps

set_option maxHeartbeats 800000 in
/-- The key is there: nothing turns. -/
theorem add_hit {b n cnt : Nat} {M : ByteArray → Option Nat} {s : ByteArray} (hs : s.size ≤ maxLen) (r q q' : Nat) (w : World) (hm : MapIs w b n cnt M) (hq : M s = some q')
    (hc : w.cell? ⟨r, 0, none⟩ = some (.map (some b))) (h4 : w.cell? ⟨q, 4, none⟩ = some (.string s)) :
    Calls Try.prog 7 #[.pointer (some ⟨r, 0, none⟩), .pointer (some ⟨q, 0, none⟩)] w fun e w' => e = .returned (.tuple #[]) ∧ ∃ k, w' = w.drewN k := by
  have hl := hm.hit hs hq
  clear hm hq
  go_enter Try.func7, Try.ntmps7
  go_wp2
  go_quiet (fail)
  go_wp2
  refine bodyPost_ret (results_none ?_ _ _ _) rfl ?_
  · rfl
  · exact ⟨rfl, _, rfl⟩

set_option maxHeartbeats 800000 in
/-- The map is not nil, the key is not there: it is stored. -/
theorem add_miss {b n cnt : Nat} {M : ByteArray → Option Nat} {s : ByteArray} (hs : s.size ≤ maxLen) (hn : n < maxLen) (r q : Nat) (w : World) (hm : MapIs w b n cnt M) (hq : M s = none)
    (hc : w.cell? ⟨r, 0, none⟩ = some (.map (some b))) (h4 : w.cell? ⟨q, 4, none⟩ = some (.string s)) :
    Calls Try.prog 7 #[.pointer (some ⟨r, 0, none⟩), .pointer (some ⟨q, 0, none⟩)] w fun e w' => e = .returned (.tuple #[]) ∧ w.grownBy w' (some b) ∧ w'.heap.size = w.heap.size ∧ MapIs w' b (n + 1) (cnt + 1) (fun t => if t = s then some q else M t) := by
  have hl0 := hm.miss hs hq
  go_enter Try.func7, Try.ntmps7
  go_wp2
  go_quiet (fail)
  clear hl0
  generalize hW : w.drewN nq = W
  have hmW : MapIs W b n cnt M := by rw [← hW]; exact hm
  have hcW : W.cell? ⟨r, 0, none⟩ = some (.map (some b)) := by rw [← hW]; exact hc
  have h4W : W.cell? ⟨q, 4, none⟩ = some (.string s) := by rw [← hW]; exact h4
  have hme := fun w' : World => run_eql_map_nil (P := Try.prog) w' 32 9 26 (some b) Try.underlying32
  have HW : Hid (w.drewN nq = W) := hW
  clear hW hm hc h4
  go_wp2
  have hmd : MapIs W.drew b n cnt M := hmW
  obtain ⟨w1, hrun, hg, hsz, hm1⟩ := hmd.store hn hs q
  rw [hq] at hm1
  have HG : Hid (W.drew.grownBy w1 (some b) ∧ w1.heap.size = W.drew.heap.size ∧ MapIs w1 b (n + 1) (if (none : Option Nat).isSome = true then cnt else cnt + 1) (fun t => if t = s then some q else M t)) := ⟨hg, hsz, hm1⟩
  clear hg hsz hm1 hmd hmW hq
  go_region
  all_goals (go_end0; refine ⟨rfl, ?_⟩)
  all_goals
    obtain ⟨hg, hsz, hm1⟩ := HG.out
    have e := HW.out
    subst e
    exact ⟨⟨hg.os, hg.tape, hg.output, hg.size, hg.block⟩, hsz, hm1⟩

/-- What lies in the world in which the map was made and laid into its variable. -/
theorem made_then {s : ByteArray} (r q : Nat) (W : World) (hr : r < W.heap.size) (hq : q < W.heap.size) (hrq : q ≠ r) (hc : W.cell? ⟨r, 0, none⟩ = some (.map none)) (h4 : W.cell? ⟨q, 4, none⟩ = some (.string s)) :
    W.grownBy ((W.setCell { block := r, off := 0 } (Value.map (some W.heap.size))).alloc (Obj.map #[] 0)) (some r) ∧ ((W.setCell { block := r, off := 0 } (Value.map (some W.heap.size))).alloc (Obj.map #[] 0)).heap.size = W.heap.size + 1 ∧
    MapIs ((W.setCell { block := r, off := 0 } (Value.map (some W.heap.size))).alloc (Obj.map #[] 0)) W.heap.size 0 0 (fun _ => none) ∧
    ((W.setCell { block := r, off := 0 } (Value.map (some W.heap.size))).alloc (Obj.map #[] 0)).cell? ⟨r, 0, none⟩ = some (.map (some W.heap.size)) ∧
    ((W.setCell { block := r, off := 0 } (Value.map (some W.heap.size))).alloc (Obj.map #[] 0)).cell? ⟨q, 4, none⟩ = some (.string s) := by
  have e1 : (W.setCell { block := r, off := 0 } (Value.map (some W.heap.size))).heap.size = W.heap.size := by simp [World.setCell]
  have old : ∀ k, k < W.heap.size → ((W.setCell { block := r, off := 0 } (Value.map (some W.heap.size))).alloc (Obj.map #[] 0)).heap[k]? = (W.setCell { block := r, off := 0 } (Value.map (some W.heap.size))).heap[k]? := fun k hk => Below.heap_alloc _ _ _ (by omega)
  have hm := MapIs.made (W.setCell { block := r, off := 0 } (Value.map (some W.heap.size)))
  rw [e1] at hm
  refine ⟨⟨rfl, rfl, rfl, by simp [e1], fun k hk hne => (old k hk).trans (Below.heap_setCell _ _ _ _ (fun e => hne (by rw [e])))⟩, by simp [e1], hm, ?_, ?_⟩
  · rw [World.cell?_of_block (w := W.setCell { block := r, off := 0 } (Value.map (some W.heap.size))) (old r hr)]
    exact World.cell?_setCell_same _ _ _ hc
  · rw [World.cell?_of_block (w := W.setCell { block := r, off := 0 } (Value.map (some W.heap.size))) (old q hq), World.cell?_of_block (w := W) (Below.heap_setCell _ _ _ _ hrq)]
    exact h4

set_option maxHeartbeats 800000 in
/-- The map is nil: it is made, and the key stored. -/
theorem add_nil {s : ByteArray} (hs : s.size ≤ maxLen) (r q : Nat) (w : World) (hr : r < w.heap.size) (hqz : q < w.heap.size) (hrq : q ≠ r)
    (hc : w.cell? ⟨r, 0, none⟩ = some (.map none)) (hf : w.frozen? ⟨r, 0, none⟩ = false) (h4 : w.cell? ⟨q, 4, none⟩ = some (.string s)) :
    Calls Try.prog 7 #[.pointer (some ⟨r, 0, none⟩), .pointer (some ⟨q, 0, none⟩)] w fun e w' => e = .returned (.tuple #[]) ∧ w.grownBy w' (some r) ∧ w'.heap.size = w.heap.size + 1 ∧
      w'.cell? ⟨r, 0, none⟩ = some (.map (some w.heap.size)) ∧ MapIs w' w.heap.size 1 1 (fun t => if t = s then some q else none) := by
  have hl0 := look_none hs
  have hme := fun w' : World => run_eql_map_nil (P := Try.prog) w' 32 9 26 none Try.underlying32
  have hmm := @run_makeMap Try.prog
  go_enter Try.func7, Try.ntmps7
  go_wp2
  go_quiet (fail)
  generalize hW : w.drewN nq = W
  have hcW : W.cell? ⟨r, 0, none⟩ = some (.map none) := by rw [← hW]; exact hc
  have hfW : W.frozen? ⟨r, 0, none⟩ = false := by rw [← hW]; exact hf
  have h4W : W.cell? ⟨q, 4, none⟩ = some (.string s) := by rw [← hW]; exact h4
  have HW : Hid (w.drewN nq = W) := hW
  have hrW : r < W.heap.size := by rw [← hW]; exact hr
  have hqW : q < W.heap.size := by rw [← hW]; exact hqz
  clear hW hc h4 hf hr hqz
  go_wp2
  have F2 := made_then (s := s) r q W hrW hqW hrq hcW h4W
  generalize (W.setCell { block := r, off := 0 } (Value.map (some W.heap.size))).alloc (Obj.map #[] 0) = W2 at F2 ⊢
  obtain ⟨hg2, hz2, hm2, hc2, h42⟩ := F2
  have hmd : MapIs W2.drew W.heap.size 0 0 (fun _ => none) := hm2
  obtain ⟨w1, hrun, hg, hsz, hm1⟩ := hmd.store (by decide) hs q
  have hcr : w1.cell? ⟨r, 0, none⟩ = some (.map (some W.heap.size)) := (World.cell?_of_block (w := W2) (a := ⟨r, 0, none⟩) (hg.block r (show r < W2.heap.size by omega) (fun e => by simp at e; omega))).trans hc2
  have HG : Hid (W.grownBy w1 (some r) ∧ w1.heap.size = W.heap.size + 1 ∧ w1.cell? ⟨r, 0, none⟩ = some (.map (some W.heap.size)) ∧ MapIs w1 W.heap.size 1 1 (fun t => if t = s then some q else none)) := by
    refine ⟨⟨hg.os.trans hg2.os, hg.tape.trans hg2.tape, hg.output.trans hg2.output, Nat.le_trans hg2.size hg.size, fun k hk hne => (hg.block k (Nat.lt_of_lt_of_le hk hg2.size) (fun e => by simp at e; omega)).trans (hg2.block k hk hne)⟩, hsz.trans hz2, hcr, hm1⟩
  clear hg hsz hm1 hmd hm2 hg2 hcr hcW hfW h4W
  go_region
  all_goals (go_end0; refine ⟨rfl, ?_⟩)
  all_goals
    have F := HG.out
    have e := HW.out
    subst e
    exact ⟨⟨F.1.os, F.1.tape, F.1.output, F.1.size, F.1.block⟩, F.2.1, F.2.2.1, F.2.2.2⟩

end Go.Proofs.Qxb6629240a
