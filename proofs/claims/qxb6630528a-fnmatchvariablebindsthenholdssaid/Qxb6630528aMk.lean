/-
  Seat b6630528a. zzMkValue (6), zzProper (7), zzEq (11), zzBytes (5).
-/
import Derived.Test.Qxb6630528aVal
namespace Go.Proofs.Qxb6630528a
open Go.RowKit

theorem two_below (w : World) (o o' : Obj) : Below w.heap.size w ((w.alloc o).alloc o') := ((Below.refl _ _).alloc (Nat.le_refl _) _).alloc (by simp) _

set_option maxHeartbeats 400000 in
theorem mk_zero (n : Int) (s : ByteArray) (w : World) : Calls Try.prog 6 #[.int .i64 0, .int .i64 n, .string s] w fun e w' => MkPost 0 n s e ∧ Below w.heap.size w w' := by
  go_enter Try.func6, Try.ntmps6
  go_wp2_with fail
  refine (int_any n _).mono ?_
  rintro e _ ⟨rfl, rfl⟩
  go_wp2_with fail
  exact bodyPost_ret (v := .tuple #[.agg #[.int .i64 0, .int .i64 n, .string ⟨#[]⟩], .bool true]) (by simp [results, Try.results6, go_sem]) rfl ⟨MkPost.yes rfl (by decide) (by decide), two_below _ _ _⟩

set_option maxHeartbeats 400000 in
theorem mk_one (n : Int) (s : ByteArray) (w : World) : Calls Try.prog 6 #[.int .i64 1, .int .i64 n, .string s] w fun e w' => MkPost 1 n s e ∧ Below w.heap.size w w' := by
  go_enter Try.func6, Try.ntmps6
  go_wp2_with fail
  refine (str_any s _).mono ?_
  rintro e _ ⟨rfl, rfl⟩
  go_wp2_with fail
  exact bodyPost_ret (v := .tuple #[.agg #[.int .i64 1, .int .i64 0, .string s], .bool true]) (by simp [results, Try.results6, go_sem]) rfl ⟨MkPost.yes rfl (by decide) (by decide), two_below _ _ _⟩

set_option maxHeartbeats 400000 in
theorem mk_two (n : Int) (s : ByteArray) (w : World) (hs : s.size ≤ 65536) : Calls Try.prog 6 #[.int .i64 2, .int .i64 n, .string s] w fun e w' => MkPost 2 n s e ∧ Below w.heap.size w w' := by
  have hadd := fun w' : World => run_string_add_sum (P := Try.prog) w' pre s (by show 8 + s.size ≤ _; omega)
  unfold pre at hadd
  go_enter Try.func6, Try.ntmps6
  go_wp2_with fail
  refine (hex_any s _).mono ?_
  rintro e _ ⟨⟨r, rfl⟩, rfl⟩
  cases r
  · go_wp2_with fail
    exact bodyPost_ret (v := .tuple #[.agg #[.int .i64 0, .int .i64 0, .string ⟨#[]⟩], .bool false]) (by simp [results, Try.results6, go_sem]) rfl ⟨MkPost.no _ _ _, (Below.refl _ _).alloc (Nat.le_refl _) _⟩
  · go_wp2_with fail
    refine (prin_any _ _).mono ?_
    rintro e _ ⟨rfl, rfl⟩
    go_wp2_with fail
    exact bodyPost_ret (v := .tuple #[.agg #[.int .i64 2, .int .i64 0, .string (pre ++ s)], .bool true]) (by simp [results, Try.results6, go_sem, pre]) rfl ⟨MkPost.yes rfl (by decide) (by decide), two_below _ _ _⟩

set_option maxHeartbeats 400000 in
theorem mk_three (n : Int) (s : ByteArray) (w : World) (hs : s.size ≤ 65536) : Calls Try.prog 6 #[.int .i64 3, .int .i64 n, .string s] w fun e w' => MkPost 3 n s e ∧ Below w.heap.size w w' := by
  have hadd := fun w' : World => run_string_add_sum (P := Try.prog) w' pre s (by show 8 + s.size ≤ _; omega)
  unfold pre at hadd
  by_cases h64 : s.size < 64
  · go_enter Try.func6, Try.ntmps6
    go_wp2_with fail
    exact bodyPost_ret (v := .tuple #[.agg #[.int .i64 0, .int .i64 0, .string ⟨#[]⟩], .bool false]) (by simp [results, Try.results6, go_sem]) rfl ⟨MkPost.no _ _ _, (Below.refl _ _).alloc (Nat.le_refl _) _⟩
  · go_enter Try.func6, Try.ntmps6
    go_wp2_with fail
    refine (hex_any _ _).mono ?_
    rintro e _ ⟨⟨r, rfl⟩, rfl⟩
    cases r
    · go_wp2_with fail
      exact bodyPost_ret (v := .tuple #[.agg #[.int .i64 0, .int .i64 0, .string ⟨#[]⟩], .bool false]) (by simp [results, Try.results6, go_sem]) rfl ⟨MkPost.no _ _ _, (Below.refl _ _).alloc (Nat.le_refl _) _⟩
    · go_wp2_with fail
      refine (addr_any _ _).mono ?_
      rintro e _ ⟨rfl, rfl⟩
      go_wp2_with fail
      exact bodyPost_ret (v := .tuple #[.agg #[.int .i64 3, .int .i64 0, .string (pre ++ s)], .bool true]) (by simp [results, Try.results6, go_sem, pre]) rfl ⟨MkPost.yes rfl (by decide) (by decide), two_below _ _ _⟩

set_option maxHeartbeats 400000 in
theorem mk_else (k n : Int) (s : ByteArray) (w : World) (h0 : (k == 0) = false) (h1 : (k == 1) = false) (h2 : (k == 2) = false) (h3 : (k == 3) = false) : Calls Try.prog 6 #[.int .i64 k, .int .i64 n, .string s] w fun e w' => MkPost k n s e ∧ Below w.heap.size w w' := by
  go_enter Try.func6, Try.ntmps6
  go_wp2_with fail
  exact bodyPost_ret (v := .tuple #[.agg #[.int .i64 0, .int .i64 0, .string ⟨#[]⟩], .bool false]) (by simp [results, Try.results6, go_sem]) rfl ⟨MkPost.no _ _ _, (Below.refl _ _).alloc (Nat.le_refl _) _⟩

theorem mk_any (k n : Int) (s : ByteArray) (w : World) (hs : s.size ≤ 65536) : Calls Try.prog 6 #[.int .i64 k, .int .i64 n, .string s] w fun e w' => MkPost k n s e ∧ Below w.heap.size w w' := by
  by_cases h0 : k = 0
  · subst h0; exact mk_zero n s w
  · by_cases h1 : k = 1
    · subst h1; exact mk_one n s w
    · by_cases h2 : k = 2
      · subst h2; exact mk_two n s w hs
      · by_cases h3 : k = 3
        · subst h3; exact mk_three n s w hs
        · exact mk_else k n s w (by simp [h0]) (by simp [h1]) (by simp [h2]) (by simp [h3])

end Go.Proofs.Qxb6630528a
