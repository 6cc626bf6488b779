/-
  Seat b6629353a. FnPrependingAFullPartShiftsEveryPart (4): the walk.
-/
import Derived.Test.Qxb6629353aTile
namespace Go.Proofs.Qxb6629353a
open Go.RowKit

set_option maxRecDepth 100000 in
set_option maxHeartbeats 1000000 in
theorem shift_early (size count n : Int) (s0 : -9223372036854775808 ≤ size) (s1 : size ≤ 9223372036854775807) (w : World) (h : size < 0 ∨ 9223372036849532927 < size ∨ count ≠ pcount size ∨ count = 9223372036854775807) :
    Calls Try.prog 4 #[.int .i64 size, .int .i64 count, .int .i64 n] w fun e w' => e = .returned (.bool true) ∧ Grown w w' := by
  by_cases h1 : size < 0
  · go_enter Try.func4, Try.ntmps4
    go_wp2_with fail
    go_ret
    exact ⟨rfl, Grown.refl _⟩
  · by_cases h2 : 9223372036849532927 < size
    · go_enter Try.func4, Try.ntmps4
      go_wp2_with fail
      go_ret
      exact ⟨rfl, Grown.refl _⟩
    · by_cases h3 : count = pcount size
      · exfalso
        rcases h with h | h | h | h
        · exact h1 h
        · exact h2 h
        · exact h h3
        · rw [h3] at h; unfold pcount at h; omega
      · have hcb := byes h3
        clear h3 h
        go_enter Try.func4, Try.ntmps4
        go_wp2_with fail
        refine (count_any size w (by omega) s1).mono ?_
        rintro e _ ⟨rfl, rfl⟩
        go_wp2_with fail
        go_ret
        exact ⟨rfl, Grown.refl _⟩

set_option maxRecDepth 100000 in
set_option maxHeartbeats 1000000 in
/-- n is no part's number. -/
theorem shift_out (size count n : Int) (s0 : 0 ≤ size) (s1 : size ≤ 9223372036849532927) (n1 : n ≤ 9223372036854775807)
    (hc1 : size ≤ count * 5242880) (hc2 : count * 5242880 < size + 5242880) (hcb : (count != pcount size) = false) (hcx : (count == 9223372036854775807) = false) (w : World) (hout : n < 1 ∨ count < n) :
    Calls Try.prog 4 #[.int .i64 size, .int .i64 count, .int .i64 n] w fun e w' => e = .returned (.bool true) ∧ Grown w w' := by
  have hc0 : 0 ≤ count := by omega
  have hd : (decide (1 ≤ n) && decide (n ≤ count)) = false := by
    rw [Bool.eq_false_iff]
    simp
    omega
  have hout2 : count < n → (n + 1 < 1 ∨ count + 1 < n + 1) := fun h => by omega
  have hlow : n ≤ count → n < 1 := fun h => by omega
  go_enter Try.func4, Try.ntmps4
  go_wp2_with fail
  refine (count_any size w (by omega) (by omega)).mono ?_
  rintro e _ ⟨rfl, rfl⟩
  go_wp2_with fail
  refine (layout_any size count w).mono ?_
  rintro e _ ⟨rfl, rfl⟩
  go_wp2_with fail
  refine (layout_any (size + 5242880) (count + 1) _).mono ?_
  rintro e _ ⟨rfl, rfl⟩
  go_wp2_with fail
  by_cases hz : size = 0
  · have hze : (size + 5242880 != 5242880) = false := bnot (by omega)
    have hz1 : size + 5242880 - 0 ≤ 5242880 := by omega
    clear hz
    refine (part_last' (size + 5242880) (count + 1) 1 0 _ (by decide) (by decide) (by omega) (by omega) hz1 (by omega)).mono ?_
    rintro e _ ⟨rfl, rfl⟩
    go_wp2_with fail
    refine (part_out size count n _ hout).mono ?_
    rintro e _ ⟨rfl, rfl⟩
    by_cases hgt : count < n
    · by_cases hmx : n < 9223372036854775807
      · go_wp2_with fail
        refine (part_out (size + 5242880) (count + 1) (n + 1) _ (hout2 hgt)).mono ?_
        rintro e _ ⟨rfl, rfl⟩
        go_wp2_with fail
        go_ret
        exact ⟨rfl, by repeat (first | apply Grown.alloc | exact Grown.refl _)⟩
      · go_wp2_with fail
        go_ret
        exact ⟨rfl, by repeat (first | apply Grown.alloc | exact Grown.refl _)⟩
    · have hn1 := hlow (by omega)
      go_wp2_with fail
      go_ret
      exact ⟨rfl, by repeat (first | apply Grown.alloc | exact Grown.refl _)⟩
  · have hz1 : 5242880 < size + 5242880 - 0 := by omega
    clear hz
    refine (part_full' (size + 5242880) (count + 1) 1 0 _ (by decide) (by decide) (by omega) (by omega) hz1).mono ?_
    rintro e _ ⟨rfl, rfl⟩
    go_wp2_with fail
    refine (part_out size count n _ hout).mono ?_
    rintro e _ ⟨rfl, rfl⟩
    by_cases hgt : count < n
    · by_cases hmx : n < 9223372036854775807
      · go_wp2_with fail
        refine (part_out (size + 5242880) (count + 1) (n + 1) _ (hout2 hgt)).mono ?_
        rintro e _ ⟨rfl, rfl⟩
        go_wp2_with fail
        go_ret
        exact ⟨rfl, by repeat (first | apply Grown.alloc | exact Grown.refl _)⟩
      · go_wp2_with fail
        go_ret
        exact ⟨rfl, by repeat (first | apply Grown.alloc | exact Grown.refl _)⟩
    · have hn1 := hlow (by omega)
      go_wp2_with fail
      go_ret
      exact ⟨rfl, by repeat (first | apply Grown.alloc | exact Grown.refl _)⟩

set_option maxRecDepth 100000 in
set_option maxHeartbeats 1000000 in
/-- n is a part's number. -/
theorem shift_in (size count n : Int) (s0 : 0 ≤ size) (s1 : size ≤ 9223372036849532927)
    (hc1 : size ≤ count * 5242880) (hc2 : count * 5242880 < size + 5242880) (hcb : (count != pcount size) = false) (hcx : (count == 9223372036854775807) = false) (w : World) (i1 : 1 ≤ n) (i2 : n ≤ count) :
    Calls Try.prog 4 #[.int .i64 size, .int .i64 count, .int .i64 n] w fun e w' => e = .returned (.bool true) ∧ Grown w w' := by
  have hc0 : 0 ≤ count := by omega
  have hcm : count ≤ 1759218604442 := by omega
  obtain ⟨st, hst⟩ : ∃ st, st = (n - 1) * 5242880 := ⟨_, rfl⟩
  have hst0 : 0 ≤ st := by omega
  have hst1 : st < size := by omega
  have HS : Hid (st = (n - 1) * 5242880) := hst
  have HN : Hid (st + 5242880 = (n + 1 - 1) * 5242880) := show _ = _ by omega
  have hz1 : 5242880 < size + 5242880 - 0 := by omega
  clear hst
  go_enter Try.func4, Try.ntmps4
  go_wp2_with fail
  refine (count_any size w (by omega) (by omega)).mono ?_
  rintro e _ ⟨rfl, rfl⟩
  go_wp2_with fail
  refine (layout_any size count w).mono ?_
  rintro e _ ⟨rfl, rfl⟩
  go_wp2_with fail
  refine (layout_any (size + 5242880) (count + 1) _).mono ?_
  rintro e _ ⟨rfl, rfl⟩
  go_wp2_with fail
  refine (part_full' (size + 5242880) (count + 1) 1 0 _ (by decide) (by decide) (by omega) (by omega) hz1).mono ?_
  rintro e _ ⟨rfl, rfl⟩
  go_wp2_with fail
  by_cases hfull : 5242880 < size - st
  · have hfull2 : 5242880 < size + 5242880 - (st + 5242880) := by omega
    refine (part_full' size count n st _ HS.out i1 i2 (by omega) hfull).mono ?_
    rintro e _ ⟨rfl, rfl⟩
    go_wp2_with fail
    refine (part_full' (size + 5242880) (count + 1) (n + 1) (st + 5242880) _ HN.out (by omega) (by omega) (by omega) hfull2).mono ?_
    rintro e _ ⟨rfl, rfl⟩
    go_wp2_with fail
    go_ret
    exact ⟨rfl, by repeat (first | apply Grown.alloc | exact Grown.refl _)⟩
  · have hl1 : size - st ≤ 5242880 := by omega
    have hl2 : size + 5242880 - (st + 5242880) ≤ 5242880 := by omega
    refine (part_last' size count n st _ HS.out i1 i2 (by omega) hl1 (by omega)).mono ?_
    rintro e _ ⟨rfl, rfl⟩
    go_wp2_with fail
    refine (part_last' (size + 5242880) (count + 1) (n + 1) (st + 5242880) _ HN.out (by omega) (by omega) (by omega) hl2 (by omega)).mono ?_
    rintro e _ ⟨rfl, rfl⟩
    go_wp2_with fail
    go_ret
    exact ⟨rfl, by repeat (first | apply Grown.alloc | exact Grown.refl _)⟩

theorem shift_walk (size count n : Int) (w0 : (Lit.int .i64 size).wf = true) (w1 : (Lit.int .i64 count).wf = true) (w2 : (Lit.int .i64 n).wf = true) (w : World) :
    Calls Try.prog 4 #[.int .i64 size, .int .i64 count, .int .i64 n] w fun e w' => e = .returned (.bool true) ∧ Grown w w' := by
  obtain ⟨s0, s1⟩ := bd w0
  obtain ⟨c0, c1⟩ := bd w1
  obtain ⟨n0, n1⟩ := bd w2
  by_cases h : size < 0 ∨ 9223372036849532927 < size ∨ count ≠ pcount size
  · exact shift_early size count n s0 s1 w (by
      rcases h with h | h | h
      · exact Or.inl h
      · exact Or.inr (Or.inl h)
      · exact Or.inr (Or.inr (Or.inl h)))
  · have hs0 : 0 ≤ size := by omega
    have hs1 : size ≤ 9223372036849532927 := by omega
    have hc : count = pcount size := by
      by_cases e : count = pcount size
      · exact e
      · exact absurd (Or.inr (Or.inr e)) h
    have hcc : size ≤ count * 5242880 ∧ count * 5242880 < size + 5242880 := by rw [hc]; unfold pcount; omega
    have hcx : (count == 9223372036854775807) = false := by rw [beq_eq_false_iff_ne]; omega
    by_cases hin : 1 ≤ n ∧ n ≤ count
    · exact shift_in size count n hs0 hs1 hcc.1 hcc.2 (bnot hc) hcx w hin.1 hin.2
    · exact shift_out size count n hs0 hs1 n1 hcc.1 hcc.2 (bnot hc) hcx w (by omega)

end Go.Proofs.Qxb6629353a
