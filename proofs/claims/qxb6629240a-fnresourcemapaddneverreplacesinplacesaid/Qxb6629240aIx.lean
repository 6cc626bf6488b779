/-
  Seat b6629240a. The contracts of zzFirst (8), zzLast (10), zzHas (11), and of the second zzBytes (9).
-/
import Derived.Test.Qxb6629240aSl
import Derived.Deep.QuietTactic
import Derived.BigQuiet
import Derived.Deep.OwnRows
namespace Go.Proofs.Qxb6629240a
open Go.RowKit

theorem str_eq {a b : ByteArray} (h : (a.toList == b.toList) = true) : a = b := by
  have h1 : a.toList = b.toList := eq_of_beq h
  rw [ByteArray.toList_eq, ByteArray.toList_eq] at h1
  cases a
  cases b
  simpa using h1
theorem str_ne {a b : ByteArray} (h : (a.toList == b.toList) = false) : a ≠ b := fun e => by
  subst e
  simp at h

/-- f is the least place that holds what place i holds. -/
structure IsFirst (S : Nat → ByteArray) (i f : Nat) : Prop where
  le : f ≤ i
  same : S f = S i
  least : ∀ j, j < f → S j ≠ S i

/-- l is the greatest place, among the first n, that holds what place i holds. -/
structure IsLast (S : Nat → ByteArray) (n i l : Nat) : Prop where
  ge : i ≤ l
  lt : l < n
  same : S l = S i
  most : ∀ j, l < j → j < n → S j ≠ S i

theorem no_more {S : Nat → ByteArray} {x : ByteArray} {k : Nat} (h : ∀ j, j < k → S j ≠ x) (hk : S k ≠ x) : ∀ j, j < k + 1 → S j ≠ x := fun j hj => by
  by_cases e : j = k
  · subst e; exact hk
  · exact h j (by omega)

theorem no_less {S : Nat → ByteArray} {x : ByteArray} {k n : Nat} (h : ∀ j, k < j → j < n → S j ≠ x) (hk : S k ≠ x) : ∀ j, k ≤ j → j < n → S j ≠ x := fun j hj hn => by
  by_cases e : j = k
  · subst e; exact hk
  · exact h j (by omega) hn

set_option maxHeartbeats 800000 in
theorem first_any {a : Option Addr} {len cap b off : Nat} {S : Nat → ByteArray} (w : World) (h : Sl w a len cap b off S) (i : Nat) (hi : i < len) :
    Calls Try.prog 8 #[.slice a len cap, .int .i64 i] w fun e w' => ∃ f : Nat, IsFirst S i f ∧ e = .returned (.int .i64 f) ∧ ∃ n, w' = w.drewN n := by
  have hsm := h.small
  go_enter Try.func8, Try.ntmps8
  go_wp2
  go_loopw [5] (fun t wr => ∃ k : Nat, k ≤ i ∧ t = .int .i64 k ∧ (∀ j, j < k → S j ≠ S i) ∧ ∃ n, wr = w.drewN n) (fun t _ => i - (intOf t).toNat)
  case atStart => exact ⟨0, Nat.zero_le _, rfl, fun _ h => absurd h (Nat.not_lt_zero _), 0, rfl⟩
  case round =>
    obtain ⟨k, hk, rfl, hno, n, rfl⟩ := hrel
    have HN : Hid (∀ j, j < k → S j ≠ S i) := hno
    clear hno
    by_cases hlt : k < i
    · have i1 := h.idx k (by omega)
      have c1 := h.cell k (by omega)
      have i2 := h.idx i hi
      have c2 := h.cell i hi
      go_wp2
      go_quiet (fail)
      go_wp2
      · have he : ((S k).toList == (S i).toList) = true := by assumption
        go_ret
        exact ⟨k, ⟨hk, str_eq he, HN.out⟩, rfl, n + nq, World.drewN_drewN _ _ _⟩
      · have he : ((S k).toList == (S i).toList) = false := by assumption
        go_roundw
        case rel => exact ⟨k + 1, by omega, by go_num, no_more HN.out (str_ne he), _, rfl⟩
        case measure => simp [intOf]; omega
    · have : k = i := by omega
      subst this
      go_wp2
      go_ret
      exact ⟨k, ⟨Nat.le_refl _, rfl, HN.out⟩, rfl, _, rfl⟩

set_option maxHeartbeats 800000 in
theorem last_any {a : Option Addr} {len cap b off : Nat} {S : Nat → ByteArray} (w : World) (h : Sl w a len cap b off S) (i : Nat) (hi : i < len) :
    Calls Try.prog 10 #[.slice a len cap, .int .i64 i] w fun e w' => ∃ l : Nat, IsLast S len i l ∧ e = .returned (.int .i64 l) ∧ ∃ n, w' = w.drewN n := by
  have hsm := h.small
  go_enter Try.func10, Try.ntmps10
  go_wp2
  go_loopw [5] (fun t wr => ∃ k : Nat, i ≤ k ∧ k < len ∧ t = .int .i64 k ∧ (∀ j, k < j → j < len → S j ≠ S i) ∧ ∃ n, wr = w.drewN n) (fun t _ => (intOf t).toNat)
  case atStart => exact ⟨len - 1, by omega, by omega, by go_num, fun j h1 h2 => by omega, 0, rfl⟩
  case round =>
    obtain ⟨k, hk, hkl, rfl, hno, n, rfl⟩ := hrel
    have HN : Hid (∀ j, k < j → j < len → S j ≠ S i) := hno
    clear hno
    by_cases hlt : i < k
    · have i1 := h.idx k (by omega)
      have c1 := h.cell k (by omega)
      have i2 := h.idx i hi
      have c2 := h.cell i hi
      go_wp2
      go_quiet (fail)
      go_wp2
      · have he : ((S k).toList == (S i).toList) = true := by assumption
        go_ret
        exact ⟨k, ⟨hk, hkl, str_eq he, HN.out⟩, rfl, n + nq, World.drewN_drewN _ _ _⟩
      · have he : ((S k).toList == (S i).toList) = false := by assumption
        go_roundw
        case rel => exact ⟨k - 1, by omega, by omega, by go_num, fun j h1 h2 => no_less HN.out (str_ne he) j (by omega) h2, _, rfl⟩
        case measure => simp [intOf]; omega
    · have : k = i := by omega
      subst this
      go_wp2
      go_ret
      exact ⟨k, ⟨Nat.le_refl _, hkl, rfl, HN.out⟩, rfl, _, rfl⟩

/-- Is x among the first n? -/
def hasB (S : Nat → ByteArray) (n : Nat) (x : ByteArray) : Bool := (List.range n).any (fun j => decide (S j = x))
theorem hasB_true {S : Nat → ByteArray} {n : Nat} {x : ByteArray} {k : Nat} (hk : k < n) (h : S k = x) : hasB S n x = true := by
  simp only [hasB, List.any_eq_true, List.mem_range]
  exact ⟨k, hk, by simp [h]⟩
theorem hasB_false {S : Nat → ByteArray} {n : Nat} {x : ByteArray} (h : ∀ j, j < n → S j ≠ x) : hasB S n x = false := by
  simp only [hasB, List.any_eq_false, List.mem_range]
  intro j hj
  simp [h j hj]
theorem ret_bool {a b : Bool} (h : a = b) : Ending.returned (.bool a) = .returned (.bool b) := by rw [h]

set_option maxHeartbeats 800000 in
theorem has_any {a : Option Addr} {len cap b off : Nat} {S : Nat → ByteArray} (x : ByteArray) (w : World) (h : Sl w a len cap b off S) :
    Calls Try.prog 11 #[.slice a len cap, .string x] w fun e w' => e = .returned (.bool (hasB S len x)) ∧ w = w' := by
  have hsm := h.small
  go_enter Try.func11, Try.ntmps11
  go_wp2
  go_loop [5] (fun t => ∃ k : Nat, k ≤ len ∧ t = .int .i64 k ∧ (∀ j, j < k → S j ≠ x)) (fun t => len - (intOf t).toNat)
  case atStart => exact ⟨0, Nat.zero_le _, rfl, fun _ h => absurd h (Nat.not_lt_zero _)⟩
  case round =>
    obtain ⟨k, hk, rfl, hno⟩ := hrel
    have HN : Hid (∀ j, j < k → S j ≠ x) := hno
    clear hno
    by_cases hlt : k < len
    · have i1 := h.idx k (by omega)
      have c1 := h.cell k (by omega)
      go_wp2
      · have he : ((S k).toList == x.toList) = true := by assumption
        go_ret
        exact ⟨ret_bool (hasB_true hlt (str_eq he)).symm, rfl⟩
      · have he : ((S k).toList == x.toList) = false := by assumption
        go_round
        case rel => exact ⟨k + 1, by omega, by go_num, no_more HN.out (str_ne he)⟩
        case measure => simp [intOf]; omega
    · have : k = len := by omega
      subst this
      go_wp2
      go_ret
      exact ⟨ret_bool (hasB_false HN.out).symm, rfl⟩

set_option maxHeartbeats 800000 in
theorem bytes2_any {a a' : Option Addr} {len cap b off len' cap' b' off' : Nat} {S S' : Nat → ByteArray} (w : World) (h : Sl w a len cap b off S) (h' : Sl w a' len' cap' b' off' S') :
    Calls Try.prog 9 #[.slice a len cap, .slice a' len' cap'] w fun e w' => SomeBool e ∧ w = w' := by
  have hsm := h.small
  have hsm' := h'.small
  go_enter Try.func9, Try.ntmps9
  go_wp2
  · go_ret
    exact ⟨SomeBool.mk _, rfl⟩
  · go_loop [5, 6] (fun n i => ∃ (k : Nat) (z : Int), k ≤ len ∧ i = .int .i64 k ∧ n = .int .i64 z) (fun _ i => len - (intOf i).toNat)
    case atStart => exact ⟨0, _, Nat.zero_le _, rfl, rfl⟩
    case round =>
      obtain ⟨k, z, hk, rfl, rfl⟩ := hrel
      by_cases hlt : k < len
      · have hi := h.idx k hlt
        have hc := h.cell k hlt
        go_wp2
        all_goals first
          | (go_ret; exact ⟨SomeBool.mk _, rfl⟩)
          | (go_round
             case rel => exact ⟨k + 1, _, by omega, by go_num, rfl⟩
             case measure => simp [intOf]; omega)
      · go_wp2
        all_goals first
          | (go_ret; exact ⟨SomeBool.mk _, rfl⟩)
          | skip
        go_loop [5, 7] (fun n i => ∃ (k : Nat) (z : Int), k ≤ len' ∧ i = .int .i64 k ∧ n = .int .i64 z) (fun _ i => len' - (intOf i).toNat)
        case atStart => exact ⟨0, _, Nat.zero_le _, rfl, rfl⟩
        case round =>
          obtain ⟨k, z, hk, rfl, rfl⟩ := hrel
          by_cases hlt : k < len'
          · have hi := h'.idx k hlt
            have hc := h'.cell k hlt
            go_wp2
            all_goals first
              | (go_ret; exact ⟨SomeBool.mk _, rfl⟩)
              | (go_round
                 case rel => exact ⟨k + 1, _, by omega, by go_num, rfl⟩
                 case measure => simp [intOf]; omega)
          · go_wp2
            go_ret
            exact ⟨SomeBool.mk _, rfl⟩

end Go.Proofs.Qxb6629240a
