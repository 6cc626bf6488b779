/-
  Seat b6629240a. A []string that came in, as the walks want it ('Sl'), and the contracts of zzBytes (5), zzOver (6): they answer some bool and turn nothing.
-/
import Derived.Test.Qxb6629240aRows
import Derived.WalkKit
import Derived.ProofKit
import Derived.WalkSpells
namespace Go.Proofs.Qxb6629240a
open Go.RowKit

/-- SOME BOOL CAME BACK. -/
def SomeBool (e : Ending) : Prop := ∃ r, e = .returned (.bool r)
theorem SomeBool.mk (r : Bool) : SomeBool (.returned (.bool r)) := ⟨r, rfl⟩

/-- THE SLICE OF STRINGS '.slice a len cap' LIES IN w AT ⟨b, off⟩ AND HOLDS THE STRINGS S. One form for nil, empty and the rest: the address is asked only where there is an element. -/
structure Sl (w : World) (a : Option Addr) (len cap b off : Nat) (S : Nat → ByteArray) : Prop where
  idx : ∀ k : Nat, k < len → ∀ w' : World, (Instr.indexAt 22 (.slice a len cap) (.int .i64 (k : Int))).run Try.prog w' = .ok (.pointer (some ⟨b, off + k, none⟩)) w'
  cell : ∀ k, k < len → w.cell? ⟨b, off + k, none⟩ = some (.string (S k))
  blk : 0 < len → b < w.heap.size
  small : len * 16 ≤ 140737488351232
  sz : ∀ k, k < len → (S k).size ≤ maxLen

theorem Sl.mk' {w : World} {b off len cap : Nat} {S : Nat → ByteArray} (hc : ∀ k, k < len → w.cell? ⟨b, off + k, none⟩ = some (.string (S k))) (hb : 0 < len → b < w.heap.size) (hs : len * 16 ≤ 140737488351232) (hz : ∀ k, k < len → (S k).size ≤ maxLen) :
    Sl w (some ⟨b, off, none⟩) len cap b off S := by
  refine ⟨fun k hk w' => ?_, hc, hb, hs, hz⟩
  rw [run_indexAt_slice (h := by kernel_rfl), if_pos (by omega)]
  simp [Addr.add, go_sem]

theorem Sl.nil (w : World) (a : Option Addr) (cap : Nat) : Sl w a 0 cap 0 0 (fun _ => ByteArray.empty) :=
  ⟨fun _ h => absurd h (Nat.not_lt_zero _), fun _ h => absurd h (Nat.not_lt_zero _), fun h => absurd h (Nat.not_lt_zero _), by decide, fun _ h => absurd h (Nat.not_lt_zero _)⟩

theorem Sl.later {w w' : World} {a : Option Addr} {len cap b off : Nat} {S : Nat → ByteArray} (h : Sl w a len cap b off S) {B : Nat} (hB : w.heap.size ≤ B) (hb : Below B w w') : Sl w' a len cap b off S :=
  ⟨h.idx, fun k hk => (hb.cell (p := ⟨b, off + k, none⟩) (Nat.lt_of_lt_of_le (h.blk (by omega)) hB)).trans (h.cell k hk), fun hk => Nat.lt_of_lt_of_le (h.blk hk) hb.size, h.small, h.sz⟩

theorem Sl.same {w w' : World} {a : Option Addr} {len cap b off : Nat} {S : Nat → ByteArray} (h : Sl w a len cap b off S) (hw : w'.heap = w.heap) : Sl w' a len cap b off S :=
  ⟨h.idx, fun k hk => by rw [← h.cell k hk]; simp [World.cell?, hw], fun hk => by rw [hw]; exact h.blk hk, h.small, h.sz⟩

set_option maxHeartbeats 400000 in
theorem bytes1_any {a : Option Addr} {len cap b off : Nat} {S : Nat → ByteArray} (w : World) (h : Sl w a len cap b off S) :
    Calls Try.prog 5 #[.slice a len cap] w fun e w' => SomeBool e ∧ w = w' := by
  have hsm := h.small
  go_enter Try.func5, Try.ntmps5
  go_wp2
  · go_ret
    exact ⟨SomeBool.mk _, rfl⟩
  · go_loop [3, 4] (fun n i => ∃ (k : Nat) (z : Int), k ≤ len ∧ i = .int .i64 k ∧ n = .int .i64 z) (fun _ i => len - (intOf i).toNat)
    case atStart => exact ⟨0, _, Nat.zero_le _, rfl, rfl⟩
    case round =>
      obtain ⟨k, z, hk, rfl, rfl⟩ := hrel
      by_cases hlt : k < len
      · have hi := h.idx k hlt
        have hc := h.cell k hlt
        go_wp2
        all_goals first
          | (go_ret; exact ⟨SomeBool.mk _, rfl⟩)
          | (go_round
             case rel => exact ⟨k + 1, _, by omega, by go_num, rfl⟩
             case measure => simp [intOf]; omega)
      · go_wp2
        go_ret
        exact ⟨SomeBool.mk _, rfl⟩

set_option maxHeartbeats 800000 in
theorem over_any {a a' : Option Addr} {len cap b off len' cap' b' off' : Nat} {S S' : Nat → ByteArray} (lim : Int) (w : World) (h : Sl w a len cap b off S) (h' : Sl w a' len' cap' b' off' S') :
    Calls Try.prog 6 #[.slice a len cap, .slice a' len' cap', .int .i64 lim] w fun e w' => SomeBool e ∧ w = w' := by
  have hsm := h.small
  have hsm' := h'.small
  go_enter Try.func6, Try.ntmps6
  go_wp2
  go_loop [7, 8] (fun n i => ∃ (k : Nat) (z : Int), k ≤ len ∧ i = .int .i64 k ∧ n = .int .i64 z) (fun _ i => len - (intOf i).toNat)
  case atStart => exact ⟨0, _, Nat.zero_le _, rfl, rfl⟩
  case round =>
    obtain ⟨k, z, hk, rfl, rfl⟩ := hrel
    by_cases hlt : k < len
    · have hi := h.idx k hlt
      have hc := h.cell k hlt
      go_wp2
      all_goals first
        | (go_ret; exact ⟨SomeBool.mk _, rfl⟩)
        | (go_round
           case rel => exact ⟨k + 1, _, by omega, by go_num, rfl⟩
           case measure => simp [intOf]; omega)
    · go_wp2
      go_loop [7, 9] (fun n i => ∃ (k : Nat) (z : Int), k ≤ len' ∧ i = .int .i64 k ∧ n = .int .i64 z) (fun _ i => len' - (intOf i).toNat)
      case atStart => exact ⟨0, _, Nat.zero_le _, rfl, rfl⟩
      case round =>
        obtain ⟨k, z, hk, rfl, rfl⟩ := hrel
        by_cases hlt : k < len'
        · have hi := h'.idx k hlt
          have hc := h'.cell k hlt
          go_wp2
          all_goals first
            | (go_ret; exact ⟨SomeBool.mk _, rfl⟩)
            | (go_round
               case rel => exact ⟨k + 1, _, by omega, by go_num, rfl⟩
               case measure => simp [intOf]; omega)
        · go_wp2
          go_ret
          exact ⟨SomeBool.mk _, rfl⟩

end Go.Proofs.Qxb6629240a
