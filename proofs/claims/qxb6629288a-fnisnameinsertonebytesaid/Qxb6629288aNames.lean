/-
  Seat b6629288a. The contracts of isNameByte (10), IsName (8), zzNameOrEmpty (7) and the two zzBytes (5, 9).
-/
import Derived.Test.Qxb6629288aRows
import Derived.WalkKit
import Derived.ProofKit
import Derived.WalkSpells
namespace Go.Proofs.Qxb6629288a
open Go.RowKit

/-- Is c a name's byte? -/
def nb (c : Int) : Bool := decide (97 ≤ c ∧ c ≤ 122) || decide (65 ≤ c ∧ c ≤ 90) || decide (48 ≤ c ∧ c ≤ 57) || decide (c = 95) || decide (c = 45)

theorem ret_bool {a b : Bool} (h : a = b) : Ending.returned (.bool a) = .returned (.bool b) := by rw [h]

set_option maxHeartbeats 800000 in
theorem byte_any (c : Int) (w : World) : Calls Try.prog 10 #[.int .u8 c] w fun e w' => e = .returned (.bool (nb c)) ∧ w = w' := by
  go_enter Try.func10, Try.ntmps10
  go_wp2
  all_goals
    go_ret
    refine ⟨ret_bool ?_, rfl⟩
    unfold nb
    rw [Bool.eq_iff_iff]
    simp
    try omega

/-- Is s a name? -/
def nm (s : ByteArray) : Bool := decide (1 ≤ s.size) && decide (s.size ≤ 64) && s.data.toList.all (fun b => nb (b.toNat : Int))

theorem all_at {s : ByteArray} (h : ∀ k (hk : k < s.size), nb (s[k].toNat : Int) = true) : s.data.toList.all (fun b => nb (b.toNat : Int)) = true := by
  rw [List.all_eq_true]
  intro b hb
  obtain ⟨k, hk, rfl⟩ := List.mem_iff_getElem.1 hb
  have hk' : k < s.size := by simpa using hk
  exact h k hk'

theorem not_all {s : ByteArray} {k : Nat} (hk : k < s.size) (h : nb (s[k].toNat : Int) = false) : s.data.toList.all (fun b => nb (b.toNat : Int)) = false := by
  rw [List.all_eq_false]
  refine ⟨s[k], ?_, by simp [h]⟩
  exact List.mem_iff_getElem.2 ⟨k, by simpa using hk, rfl⟩

theorem nm_small {s : ByteArray} (h : s.size = 0) : nm s = false := by simp [nm, h]
theorem nm_big {s : ByteArray} (h : 64 < s.size) : nm s = false := by
  have : ¬ s.size ≤ 64 := by omega
  simp [nm, this]
theorem nm_yes {s : ByteArray} (h1 : 1 ≤ s.size) (h2 : s.size ≤ 64) (h : ∀ k (hk : k < s.size), nb (s[k].toNat : Int) = true) : nm s = true := by
  simp only [nm, all_at h, h1, h2, decide_true, Bool.and_self]
theorem nm_no {s : ByteArray} {k : Nat} (hk : k < s.size) (h : nb (s[k].toNat : Int) = false) : nm s = false := by
  simp only [nm, not_all hk h, Bool.and_false]

theorem yes_more {s : ByteArray} {k : Nat} (hk : k < s.size) (h : ∀ j (hj : j < s.size), j < k → nb (s[j].toNat : Int) = true) (hx : nb (s[k].toNat : Int) = true) : ∀ j (hj : j < s.size), j < k + 1 → nb (s[j].toNat : Int) = true := fun j hj h1 => by
  by_cases e : j = k
  · subst e; exact hx
  · exact h j hj (by omega)

set_option maxHeartbeats 800000 in
theorem name_any (s : ByteArray) (w : World) (hs : s.size ≤ maxLen) : Calls Try.prog 8 #[.string s] w fun e w' => e = .returned (.bool (nm s)) ∧ w = w' := by
  unfold maxLen at hs
  by_cases h0 : s.size = 0
  · have hz : ((s.size : Int) == 0) = true := by rw [beq_iff_eq]; omega
    go_enter Try.func8, Try.ntmps8
    go_wp2
    go_ret
    exact ⟨ret_bool (nm_small h0).symm, rfl⟩
  · have hz : ((s.size : Int) == 0) = false := by rw [beq_eq_false_iff_ne]; omega
    by_cases h1 : 64 < s.size
    · go_enter Try.func8, Try.ntmps8
      go_wp2
      go_ret
      exact ⟨ret_bool (nm_big h1).symm, rfl⟩
    · go_enter Try.func8, Try.ntmps8
      go_wp2
      go_loop [3] (fun i => ∃ k : Nat, k ≤ s.size ∧ i = .int .i64 k ∧ ∀ j (hj : j < s.size), j < k → nb (s[j].toNat : Int) = true) (fun i => s.size - (intOf i).toNat)
      case atStart => exact ⟨0, Nat.zero_le _, rfl, fun _ _ h => absurd h (Nat.not_lt_zero _)⟩
      case round =>
        obtain ⟨k, hk, rfl, hall⟩ := hrel
        have HA : Hid (∀ j (hj : j < s.size), j < k → nb (s[j].toNat : Int) = true) := hall
        clear hall
        by_cases hlt : k < s.size
        · go_wp2_with fail
          refine (byte_any _ _).mono ?_
          rintro e _ ⟨rfl, rfl⟩
          cases hn : nb (s[k].toNat : Int)
          · go_wp2
            go_ret
            exact ⟨ret_bool (nm_no hlt hn).symm, rfl⟩
          · go_wp2
            go_round
            case rel => exact ⟨k + 1, by omega, by go_num, yes_more hlt HA.out hn⟩
            case measure => simp [intOf]; omega
        · go_wp2
          go_ret
          exact ⟨ret_bool (nm_yes (by omega) (by omega) (fun j hj => HA.out j hj (by omega))).symm, rfl⟩

/-- Empty, or a name. -/
def noe (s : ByteArray) : Bool := decide (s.size = 0) || nm s

end Go.Proofs.Qxb6629288a
