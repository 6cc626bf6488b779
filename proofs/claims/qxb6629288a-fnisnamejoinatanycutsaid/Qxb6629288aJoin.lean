/-
  Seat b6629288a. FnIsNameJoinAtAnyCut (3): the walk.
-/
import Derived.Test.Qxb6629288aSmall
namespace Go.Proofs.Qxb6629288a
open Go.RowKit

theorem nm_join (a b : ByteArray) : nm (a ++ b) = (decide (1 ≤ a.size + b.size) && decide (a.size + b.size ≤ 64) && noe a && noe b) := by
  have hs : (a ++ b).size = a.size + b.size := ByteArray.size_append
  have hd : (a ++ b).data.toList = a.data.toList ++ b.data.toList := by rw [ByteArray.data_append, Array.toList_append]
  unfold noe nm
  rw [hs, hd, List.all_append]
  have ha : a.size = 0 → a.data.toList = [] := fun h => List.eq_nil_of_length_eq_zero (by simpa using h)
  have hb : b.size = 0 → b.data.toList = [] := fun h => List.eq_nil_of_length_eq_zero (by simpa using h)
  by_cases h1 : 1 ≤ a.size + b.size
  · by_cases h2 : a.size + b.size ≤ 64
    · by_cases h3 : a.size = 0
      · by_cases h4 : b.size = 0
        · omega
        · have e1 : 1 ≤ b.size := by omega
          have e2 : b.size ≤ 64 := by omega
          simp [h3, h4, ha h3, e1, e2]
      · by_cases h4 : b.size = 0
        · have e1 : 1 ≤ a.size := by omega
          have e2 : a.size ≤ 64 := by omega
          simp [h3, h4, hb h4, e1, e2]
        · have e1 : 1 ≤ a.size := by omega
          have e2 : a.size ≤ 64 := by omega
          have e3 : 1 ≤ b.size := by omega
          have e4 : b.size ≤ 64 := by omega
          simp [h1, h2, h3, h4, e1, e2, e3, e4]
    · simp [h2]
  · simp [h1]

set_option maxRecDepth 100000 in
set_option maxHeartbeats 1000000 in
theorem join_walk (a b : ByteArray) (w : World) (ha : a.size ≤ maxLen) (hb : b.size ≤ maxLen) :
    Calls Try.prog 3 #[.string a, .string b] w fun e w' => e = .returned (.bool true) ∧ Below w.heap.size w w' := by
  have hma := ha
  have hmb := hb
  unfold maxLen at hma hmb
  go_enter Try.func3, Try.ntmps3
  go_wp2_with fail
  refine (bytes_join a b w ha hb).mono ?_
  rintro e _ ⟨hr, rfl⟩
  rcases hr with rfl | rfl
  · go_wp2_with fail
    all_goals first
      | (go_ret; exact ⟨rfl, Below.refl _ _⟩)
      | skip
    refine (names_any w).mono ?_
    rintro e w1 ⟨rfl, hb1⟩
    have hsz : (strOfNums (nums 256)).size = 64 := by rw [strOfNums_size, names_len]
    generalize strOfNums (nums 256) = ns at hsz ⊢
    have hs64 : ((ns.size : Int) != 64) = false := by rw [hsz]; rfl
    have hab : a.size ≤ 65536 ∧ b.size ≤ 65536 := ⟨by omega, by omega⟩
    have hmax : (a ++ b).size ≤ maxLen := by rw [ByteArray.size_append]; unfold maxLen; omega
    have HM : Hid (nm (a ++ b) = (decide (1 ≤ a.size + b.size) && decide (a.size + b.size ≤ 64) && noe a && noe b)) := nm_join a b
    go_wp2_with fail
    · have h1 : 1 ≤ (a.size : Int) + (b.size : Int) := by assumption
      have h2 : (a.size : Int) + (b.size : Int) ≤ 64 := by assumption
      have h3 : 1 ≤ a.size + b.size := by omega
      have h4 : a.size + b.size ≤ 64 := by omega
      refine (noe_any a w1 ha).mono ?_
      rintro e _ ⟨rfl, rfl⟩
      cases hna : noe a
      · go_wp2_with fail
        refine (name_any (a ++ b) w1 hmax).mono ?_
        rintro e _ ⟨rfl, rfl⟩
        have hx : nm (a ++ b) = false := by rw [HM.out, hna]; simp
        rw [hx]
        go_wp2
        go_ret
        exact ⟨rfl, hb1⟩
      · go_wp2_with fail
        refine (noe_any b w1 hb).mono ?_
        rintro e _ ⟨rfl, rfl⟩
        cases hnb : noe b
        · go_wp2_with fail
          refine (name_any (a ++ b) w1 hmax).mono ?_
          rintro e _ ⟨rfl, rfl⟩
          have hx : nm (a ++ b) = false := by rw [HM.out, hnb]; simp
          rw [hx]
          go_wp2
          go_ret
          exact ⟨rfl, hb1⟩
        · go_wp2_with fail
          refine (name_any (a ++ b) w1 hmax).mono ?_
          rintro e _ ⟨rfl, rfl⟩
          have hx : nm (a ++ b) = true := by rw [HM.out, hna, hnb]; simp [h3, h4]
          rw [hx]
          go_wp2
          go_ret
          exact ⟨rfl, hb1⟩
    · have h2 : 64 < (a.size : Int) + (b.size : Int) := by assumption
      have h4 : ¬ a.size + b.size ≤ 64 := by omega
      refine (name_any (a ++ b) w1 hmax).mono ?_
      rintro e _ ⟨rfl, rfl⟩
      have hx : nm (a ++ b) = false := by rw [HM.out]; simp [h4]
      rw [hx]
      go_wp2
      go_ret
      exact ⟨rfl, hb1⟩
    · have h2 : (a.size : Int) + (b.size : Int) < 1 := by assumption
      have h4 : ¬ 1 ≤ a.size + b.size := by omega
      refine (name_any (a ++ b) w1 hmax).mono ?_
      rintro e _ ⟨rfl, rfl⟩
      have hx : nm (a ++ b) = false := by rw [HM.out]; simp [h4]
      rw [hx]
      go_wp2
      go_ret
      exact ⟨rfl, hb1⟩
  · go_wp2_with fail
    go_ret
    exact ⟨rfl, Below.refl _ _⟩

end Go.Proofs.Qxb6629288a
