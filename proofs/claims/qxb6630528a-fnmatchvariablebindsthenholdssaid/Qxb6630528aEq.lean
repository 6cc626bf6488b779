/-
  Seat b6630528a. zzProper (7), zzEq (11), zzBytes (5); equality of Values, plain.
-/
import Derived.Test.Qxb6630528aMk
namespace Go.Proofs.Qxb6630528a
open Go.RowKit

theorem str_eq {a b : ByteArray} (h : (a.toList == b.toList) = true) : a = b := by
  have h1 : a.toList = b.toList := eq_of_beq h
  rw [ByteArray.toList_eq, ByteArray.toList_eq] at h1
  cases a
  cases b
  simpa using h1
theorem str_ne {a b : ByteArray} (h : (a.toList == b.toList) = false) : a ≠ b := fun e => by
  subst e
  simp at h

theorem of_nil {z : ByteArray} (h : z.toList = []) : z = ⟨#[]⟩ := by
  rw [ByteArray.toList_eq] at h
  cases z
  simpa using h
theorem is_under (z : ByteArray) : (z.toList == [95]) = decide (z = ⟨#[95]⟩) := by
  have e : (⟨#[95]⟩ : ByteArray).toList = [95] := by decide +kernel
  by_cases h : z = ⟨#[95]⟩
  · subst h; rw [e]; rfl
  · rw [decide_eq_false h]
    cases hb : (z.toList == [95]) with
    | false => rfl
    | true => exact absurd (str_eq (by rw [e]; exact hb)) h

/-- Is z a variable that can be bound? -/
def prop (z : ByteArray) : Bool := decide (z ≠ ⟨#[]⟩) && decide (z ≠ ⟨#[95]⟩)

set_option maxHeartbeats 400000 in
theorem prop_any (z : ByteArray) (w : World) : Calls Try.prog 7 #[.string z] w fun e w' => e = .returned (.bool (prop z)) ∧ w = w' := by
  go_enter Try.func7, Try.ntmps7
  go_wp2
  · have h : z.toList = [] := by assumption
    go_ret
    exact ⟨ret_bool (by rw [of_nil h]; rfl), rfl⟩
  · have h : ¬ z.toList = [] := by assumption
    go_ret
    refine ⟨ret_bool ?_, rfl⟩
    have h1 : z.toList.isEmpty = false := by simpa using h
    have h2 : z ≠ ⟨#[]⟩ := fun e => h (by rw [e, ByteArray.toList_eq])
    rw [h1, is_under]
    simp [prop, h2]

/-- zzEq's answer. -/
def eqF (k1 n1 : Int) (s1 : ByteArray) (k2 n2 : Int) (s2 : ByteArray) : Bool := if k1 = k2 then (if k1 = 0 then decide (n1 = n2) else decide (s1 = s2)) else false

set_option maxHeartbeats 400000 in
theorem eq_any (k1 n1 : Int) (s1 : ByteArray) (k2 n2 : Int) (s2 : ByteArray) (w : World) : Calls Try.prog 11 #[.int .i64 k1, .int .i64 n1, .string s1, .int .i64 k2, .int .i64 n2, .string s2] w fun e w' => e = .returned (.bool (eqF k1 n1 s1 k2 n2 s2)) ∧ w = w' := by
  go_enter Try.func11, Try.ntmps11
  go_wp2
  · have h : (k1 != k2) = true := by assumption
    go_ret
    refine ⟨ret_bool ?_, rfl⟩
    have h' : k1 ≠ k2 := by simpa using h
    simp [eqF, h']
  · have h : (k1 != k2) = false := by assumption
    have h0 : (k1 == 0) = true := by assumption
    go_ret
    refine ⟨ret_bool ?_, rfl⟩
    have h' : k1 = k2 := by simpa using h
    have h0' : k1 = 0 := by simpa using h0
    rw [Bool.eq_iff_iff]
    simp [eqF, ← h', h0']
  · have h : (k1 != k2) = false := by assumption
    have h0 : (k1 == 0) = false := by assumption
    go_ret
    refine ⟨ret_bool ?_, rfl⟩
    have h' : k1 = k2 := by simpa using h
    have h0' : ¬ k1 = 0 := by simpa using h0
    simp only [eqF, if_pos h', if_neg h0']
    by_cases e : s1 = s2
    · subst e; simp
    · rw [decide_eq_false e]
      cases hb : (s1.toList == s2.toList) with
      | false => rfl
      | true => exact absurd (str_eq hb) e

set_option maxHeartbeats 400000 in
theorem bytes_any (x z us vs ws : ByteArray) (uk un vk vn wk wn : Int) (w : World) :
    Calls Try.prog 5 #[.string x, .string z, .int .i64 uk, .int .i64 un, .string us, .int .i64 vk, .int .i64 vn, .string vs, .int .i64 wk, .int .i64 wn, .string ws] w fun e w' => SomeBool e ∧ w = w' := by
  go_enter Try.func5, Try.ntmps5
  go_wp2
  all_goals
    go_ret
    exact ⟨SomeBool.mk _, rfl⟩

/-! ### equality of Values, as Go tells it and as zzEq tells it -/

/-- '==' on two Values. -/
def veq (a b : Vl) : Bool := (a.k == b.k) && (a.n == b.n) && decide (a.s = b.s)

theorem pre_inj {s t : ByteArray} (h : pre ++ s = pre ++ t) : s = t := by
  have h1 : (pre ++ s).data.toList = (pre ++ t).data.toList := by rw [h]
  rw [ByteArray.data_append, ByteArray.data_append, Array.toList_append, Array.toList_append] at h1
  have h2 := List.append_cancel_left h1
  cases s
  cases t
  simpa using h2

theorem veq_val {k1 n1 k2 n2 : Int} {s1 s2 : ByteArray} (a0 : 0 ≤ k1) (a3 : k1 ≤ 3) (b0 : 0 ≤ k2) (b3 : k2 ≤ 3) : veq (valOf k1 n1 s1) (valOf k2 n2 s2) = eqF k1 n1 s1 k2 n2 s2 := by
  have kk : ∀ k n s, (valOf k n s).k = k := fun k n s => by
    unfold valOf
    split
    · rename_i h; exact h.symm
    · split
      · rename_i h; exact h.symm
      · rfl
  unfold eqF
  by_cases h : k1 = k2
  · subst h
    rw [if_pos rfl]
    unfold veq
    rw [kk, kk]
    by_cases h0 : k1 = 0
    · subst h0
      rw [if_pos rfl, Bool.eq_iff_iff]
      simp [valOf]
    · rw [if_neg h0]
      by_cases h1 : k1 = 1
      · subst h1
        simp [valOf]
      · have e : ∀ n s, valOf k1 n s = ⟨k1, 0, pre ++ s⟩ := fun n s => by unfold valOf; rw [if_neg h0, if_neg h1]
        rw [e, e]
        by_cases hs : s1 = s2
        · subst hs; simp
        · have : ¬ pre ++ s1 = pre ++ s2 := fun e => hs (pre_inj e)
          simp [hs, this]
  · rw [if_neg h]
    unfold veq
    rw [kk, kk]
    simp [h]

theorem veq_refl (a : Vl) : veq a a = true := by simp [veq]

end Go.Proofs.Qxb6630528a
