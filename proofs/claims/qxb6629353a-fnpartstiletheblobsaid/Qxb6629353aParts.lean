/-
  Seat b6629353a. The contracts of zzPartCount (5), ZZnewLayout (6), Layout.Part (7).
-/
import Derived.Test.Qxb6629353aRows
import Derived.WalkKit
import Derived.ProofKit
import Derived.WalkSpells
namespace Go.Proofs.Qxb6629353a
open Go.RowKit

/-- The number of parts: the size divided by 5242880, rounded up. -/
def pcount (size : Int) : Int := (size + 5242879) / 5242880

theorem ret_int {k : IntKind} {a b : Int} (h : a = b) : Ending.returned (.int k a) = .returned (.int k b) := by rw [h]

set_option maxHeartbeats 400000 in
theorem count_any (size : Int) (w : World) (h0 : 0 ≤ size) (h1 : size ≤ 9223372036854775807) : Calls Try.prog 5 #[.int .i64 size] w fun e w' => e = .returned (.int .i64 (pcount size)) ∧ w = w' := by
  go_enter Try.func5, Try.ntmps5
  go_wp2
  · have h : (size % 5242880 != 0) = true := by assumption
    go_ret
    refine ⟨ret_int ?_, rfl⟩
    rw [bne_iff_ne] at h
    unfold pcount
    omega
  · have h : (size % 5242880 != 0) = false := by assumption
    go_ret
    refine ⟨ret_int ?_, rfl⟩
    have h' : size % 5242880 = 0 := by simpa using h
    unfold pcount
    omega

set_option maxHeartbeats 400000 in
theorem layout_any (size count : Int) (w : World) : Calls Try.prog 6 #[.int .i64 size, .int .i64 count] w fun e w' => e = .returned (.agg #[.int .i64 size, .int .i64 count]) ∧ w.alloc (.cells #[.int .i64 size, .int .i64 count] 24) = w' := by
  go_enter Try.func6, Try.ntmps6
  go_wp2
  exact bodyPost_ret (v := .agg #[.int .i64 size, .int .i64 count]) (by simp [results, Try.results6, go_sem]) rfl ⟨rfl, rfl⟩

set_option maxHeartbeats 400000 in
theorem part_out (size count n : Int) (w : World) (h : n < 1 ∨ count < n) : Calls Try.prog 7 #[.agg #[.int .i64 size, .int .i64 count], .int .i64 n] w fun e w' =>
    e = .returned (.tuple #[.agg #[.int .i64 0, .int .i64 0, .int .i64 0], .bool false]) ∧ (w.alloc (.cells #[.int .i64 size, .int .i64 count] 24)).alloc (.cells #[.int .i64 0, .int .i64 0, .int .i64 0] 27) = w' := by
  by_cases h1 : n < 1
  · go_enter Try.func7, Try.ntmps7
    go_wp2
    exact bodyPost_ret (v := .tuple #[.agg #[.int .i64 0, .int .i64 0, .int .i64 0], .bool false]) (by simp [results, Try.results7, go_sem]) rfl ⟨rfl, rfl⟩
  · have h2 : count < n := by omega
    go_enter Try.func7, Try.ntmps7
    go_wp2
    exact bodyPost_ret (v := .tuple #[.agg #[.int .i64 0, .int .i64 0, .int .i64 0], .bool false]) (by simp [results, Try.results7, go_sem]) rfl ⟨rfl, rfl⟩

set_option maxHeartbeats 400000 in
/-- Part n, and more than one part's bytes are left. -/
theorem part_full (size count n : Int) (w : World) (h1 : 1 ≤ n) (h2 : n ≤ count) (h3 : size ≤ 9223372036854775807) (h4 : 5242880 < size - (n - 1) * 5242880) : Calls Try.prog 7 #[.agg #[.int .i64 size, .int .i64 count], .int .i64 n] w fun e w' =>
    e = .returned (.tuple #[.agg #[.int .i64 n, .int .i64 ((n - 1) * 5242880), .int .i64 ((n - 1) * 5242880 + 5242880)], .bool true]) ∧
      (w.alloc (.cells #[.int .i64 size, .int .i64 count] 24)).alloc (.cells #[.int .i64 n, .int .i64 ((n - 1) * 5242880), .int .i64 ((n - 1) * 5242880 + 5242880)] 27) = w' := by
  go_enter Try.func7, Try.ntmps7
  go_wp2
  exact bodyPost_ret (v := .tuple #[.agg #[.int .i64 n, .int .i64 ((n - 1) * 5242880), .int .i64 ((n - 1) * 5242880 + 5242880)], .bool true]) (by simp [results, Try.results7, go_sem]) rfl ⟨rfl, rfl⟩

set_option maxHeartbeats 400000 in
/-- Part n, and at most one part's bytes are left. -/
theorem part_last (size count n : Int) (w : World) (h1 : 1 ≤ n) (h2 : n ≤ count) (h3 : size ≤ 9223372036854775807) (h4 : size - (n - 1) * 5242880 ≤ 5242880) (h5 : (n - 1) * 5242880 ≤ size) : Calls Try.prog 7 #[.agg #[.int .i64 size, .int .i64 count], .int .i64 n] w fun e w' =>
    e = .returned (.tuple #[.agg #[.int .i64 n, .int .i64 ((n - 1) * 5242880), .int .i64 size], .bool true]) ∧
      (w.alloc (.cells #[.int .i64 size, .int .i64 count] 24)).alloc (.cells #[.int .i64 n, .int .i64 ((n - 1) * 5242880), .int .i64 size] 27) = w' := by
  go_enter Try.func7, Try.ntmps7
  go_wp2
  exact bodyPost_ret (v := .tuple #[.agg #[.int .i64 n, .int .i64 ((n - 1) * 5242880), .int .i64 size], .bool true]) (by simp [results, Try.results7, go_sem]) rfl ⟨rfl, rfl⟩

/-- The two, the start under a name of its own. -/
theorem part_full' (size count n st : Int) (w : World) (hst : st = (n - 1) * 5242880) (h1 : 1 ≤ n) (h2 : n ≤ count) (h3 : size ≤ 9223372036854775807) (h4 : 5242880 < size - st) : Calls Try.prog 7 #[.agg #[.int .i64 size, .int .i64 count], .int .i64 n] w fun e w' =>
    e = .returned (.tuple #[.agg #[.int .i64 n, .int .i64 st, .int .i64 (st + 5242880)], .bool true]) ∧
      (w.alloc (.cells #[.int .i64 size, .int .i64 count] 24)).alloc (.cells #[.int .i64 n, .int .i64 st, .int .i64 (st + 5242880)] 27) = w' := by
  subst hst
  exact part_full size count n w h1 h2 h3 h4

theorem part_last' (size count n st : Int) (w : World) (hst : st = (n - 1) * 5242880) (h1 : 1 ≤ n) (h2 : n ≤ count) (h3 : size ≤ 9223372036854775807) (h4 : size - st ≤ 5242880) (h5 : st ≤ size) : Calls Try.prog 7 #[.agg #[.int .i64 size, .int .i64 count], .int .i64 n] w fun e w' =>
    e = .returned (.tuple #[.agg #[.int .i64 n, .int .i64 st, .int .i64 size], .bool true]) ∧
      (w.alloc (.cells #[.int .i64 size, .int .i64 count] 24)).alloc (.cells #[.int .i64 n, .int .i64 st, .int .i64 size] 27) = w' := by
  subst hst
  exact part_last size count n w h1 h2 h3 h4 h5

end Go.Proofs.Qxb6629353a
