/-
  Seat b6629353a. FnPartsTileTheBlob (3): the walk.
-/
import Derived.Test.Qxb6629353aParts
namespace Go.Proofs.Qxb6629353a
open Go.RowKit

theorem bd {a : Int} (h : (Lit.int .i64 a).wf = true) : -9223372036854775808 ≤ a ∧ a ≤ 9223372036854775807 := by
  have e1 : IntKind.i64.min = -9223372036854775808 := by decide
  have e2 : IntKind.i64.max = 9223372036854775807 := by decide
  simp only [Lit.wf, Bool.and_eq_true, decide_eq_true_eq, e1, e2] at h
  exact h

theorem bnot {a b : Int} (h : a = b) : (a != b) = false := by simp [h]
theorem byes {a b : Int} (h : a ≠ b) : (a != b) = true := by simp [h]

set_option maxRecDepth 100000 in
set_option maxHeartbeats 1000000 in
theorem tile_walk (size count n : Int) (w0 : (Lit.int .i64 size).wf = true) (w1 : (Lit.int .i64 count).wf = true) (w2 : (Lit.int .i64 n).wf = true) (w : World) :
    Calls Try.prog 3 #[.int .i64 size, .int .i64 count, .int .i64 n] w fun e w' => e = .returned (.bool true) ∧ Grown w w' := by
  obtain ⟨s0, s1⟩ := bd w0
  obtain ⟨c0, c1⟩ := bd w1
  obtain ⟨n0, n1⟩ := bd w2
  clear w0 w1 w2
  by_cases hs : size < 0
  · go_enter Try.func3, Try.ntmps3
    go_wp2_with fail
    go_ret
    exact ⟨rfl, Grown.refl _⟩
  · by_cases hc : count = pcount size
    · have hcc : size ≤ count * 5242880 ∧ count * 5242880 < size + 5242880 := by rw [hc]; unfold pcount; omega
      obtain ⟨hc1, hc2⟩ := hcc
      have hcb := bnot hc
      clear hc
      by_cases hin : 1 ≤ n ∧ n ≤ count
      · obtain ⟨i1, i2⟩ := hin
        obtain ⟨st, hst⟩ : ∃ st, st = (n - 1) * 5242880 := ⟨_, rfl⟩
        have hst0 : 0 ≤ st := by omega
        have hone : (n == 1) = false ∨ (n == 1) = true ∧ (st != 0) = false := by
          by_cases h : n = 1
          · exact Or.inr ⟨by simp [h], bnot (by omega)⟩
          · exact Or.inl (by simp [h])
        have HS : Hid (st = (n - 1) * 5242880) := hst
        by_cases hlt : n < count
        · have hfull : 5242880 < size - st := by omega
          have hbst : ((st + 5242880 - st) != 5242880) = false := bnot (by omega)
          have hnx : 5242880 < size - (st + 5242880) ∨ size - (st + 5242880) ≤ 5242880 ∧ st + 5242880 ≤ size := by omega
          have HN : Hid (st + 5242880 = (n + 1 - 1) * 5242880) := show _ = _ by omega
          have hin2 : 1 ≤ n + 1 ∧ n + 1 ≤ count := ⟨by omega, by omega⟩
          clear hst
          rcases hone with hone | hone
          all_goals
            go_enter Try.func3, Try.ntmps3
            go_wp2_with fail
            refine (count_any size w (by omega) s1).mono ?_
            rintro e _ ⟨rfl, rfl⟩
            go_wp2_with fail
            refine (layout_any size count w).mono ?_
            rintro e _ ⟨rfl, rfl⟩
            go_wp2_with fail
            refine (part_full' size count n st _ HS.out i1 i2 s1 hfull).mono ?_
            rintro e _ ⟨rfl, rfl⟩
            go_wp2_with fail
            rcases hnx with hnx | hnx
            · refine (part_full' size count (n + 1) (st + 5242880) _ HN.out hin2.1 hin2.2 s1 hnx).mono ?_
              rintro e _ ⟨rfl, rfl⟩
              go_wp2_with fail
              go_ret
              exact ⟨rfl, by repeat (first | apply Grown.alloc | exact Grown.refl _)⟩
            · refine (part_last' size count (n + 1) (st + 5242880) _ HN.out hin2.1 hin2.2 s1 hnx.1 hnx.2).mono ?_
              rintro e _ ⟨rfl, rfl⟩
              go_wp2_with fail
              go_ret
              exact ⟨rfl, by repeat (first | apply Grown.alloc | exact Grown.refl _)⟩
        · have hl1 : size - st ≤ 5242880 := by omega
          have hl2 : st < size := by omega
          have hbs : (size != size) = false := bnot rfl
          have hnc : ¬ n < count := hlt
          clear hst
          rcases hone with hone | hone
          all_goals
            go_enter Try.func3, Try.ntmps3
            go_wp2_with fail
            refine (count_any size w (by omega) s1).mono ?_
            rintro e _ ⟨rfl, rfl⟩
            go_wp2_with fail
            refine (layout_any size count w).mono ?_
            rintro e _ ⟨rfl, rfl⟩
            go_wp2_with fail
            refine (part_last' size count n st _ HS.out i1 i2 s1 hl1 (by omega)).mono ?_
            rintro e _ ⟨rfl, rfl⟩
            go_wp2_with fail
            go_ret
            exact ⟨rfl, by repeat (first | apply Grown.alloc | exact Grown.refl _)⟩
      · have hout : n < 1 ∨ count < n := by omega
        go_enter Try.func3, Try.ntmps3
        go_wp2_with fail
        refine (count_any size w (by omega) s1).mono ?_
        rintro e _ ⟨rfl, rfl⟩
        go_wp2_with fail
        refine (layout_any size count w).mono ?_
        rintro e _ ⟨rfl, rfl⟩
        go_wp2_with fail
        refine (part_out size count n _ hout).mono ?_
        rintro e _ ⟨rfl, rfl⟩
        have hd : (decide (1 ≤ n) && decide (n ≤ count)) = false := by
          rw [Bool.eq_false_iff]
          simpa using hin
        go_wp2_with fail
        all_goals
          go_ret
          exact ⟨rfl, by repeat (first | apply Grown.alloc | exact Grown.refl _)⟩
    · have hcb := byes hc
      go_enter Try.func3, Try.ntmps3
      go_wp2_with fail
      refine (count_any size w (by omega) s1).mono ?_
      rintro e _ ⟨rfl, rfl⟩
      go_wp2_with fail
      go_ret
      exact ⟨rfl, Grown.refl _⟩

end Go.Proofs.Qxb6629353a
