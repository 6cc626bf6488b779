/-
  Seat b6629288a. FnIsNameInsertOneByte (4): the walk.
-/
import Derived.Test.Qxb6629288aSmall
import Derived.Deep.QuietTactic
import Derived.BigQuiet
namespace Go.Proofs.Qxb6629288a
open Go.RowKit

theorem size_65 {ns : ByteArray} (h : ns.size = 64) : (ns ++ ns.extract 0 1).size = 65 := by
  rw [ByteArray.size_append, ByteArray.size_extract, h]
  rfl

theorem size_ins (s : ByteArray) (n : Nat) (c : Int) (hn : n ≤ s.size) : (s.extract 0 n).size = n ∧ (s.extract 0 n ++ strOfNums [c]).size = n + 1 ∧ (s.extract n s.size).size = s.size - n ∧ (s.extract 0 n ++ strOfNums [c] ++ s.extract n s.size).size = s.size + 1 := by
  have h1 : (s.extract 0 n).size = n := by rw [ByteArray.size_extract]; omega
  have h2 : (s.extract n s.size).size = s.size - n := by rw [ByteArray.size_extract]; omega
  have h3 : (s.extract 0 n ++ strOfNums [c]).size = n + 1 := by rw [ByteArray.size_append, h1, strOfNums_size]; rfl
  exact ⟨h1, h3, h2, by rw [ByteArray.size_append, h3, h2]; omega⟩

theorem add_1 (s : ByteArray) (n : Nat) (c : Int) (hn : n ≤ s.size) (hs : s.size ≤ 65536) (w : World) :
    (Op.stringOp .add (s.extract 0 n) (strOfNums [c])).run Try.prog w = .ok (.string (s.extract 0 n ++ strOfNums [c])) w :=
  run_string_add_sum w _ _ (by rw [(size_ins s n c hn).1, strOfNums_size]; simp only [List.length_cons, List.length_nil]; omega)
theorem add_2 (s : ByteArray) (n : Nat) (c : Int) (hn : n ≤ s.size) (hs : s.size ≤ 65536) (w : World) :
    (Op.stringOp .add (s.extract 0 n ++ strOfNums [c]) (s.extract n s.size)).run Try.prog w = .ok (.string (s.extract 0 n ++ strOfNums [c] ++ s.extract n s.size)) w :=
  run_string_add_sum w _ _ (by rw [(size_ins s n c hn).2.1, (size_ins s n c hn).2.2.1]; omega)

theorem ext_take (s : ByteArray) (n : Nat) : (s.extract 0 n).data.toList = s.data.toList.take n := by
  rw [ByteArray.data_extract, Array.toList_extract, List.extract_eq_take_drop]
  simp
theorem ext_drop (s : ByteArray) (n : Nat) : (s.extract n s.size).data.toList = s.data.toList.drop n := by
  rw [ByteArray.data_extract, Array.toList_extract, List.extract_eq_take_drop]
  exact List.take_of_length_le (by simp)

theorem nm_ins (s : ByteArray) (n : Nat) (c : Int) (hn : n ≤ s.size) :
    nm (s.extract 0 n ++ strOfNums [c] ++ s.extract n s.size) = (decide (s.size < 64) && noe s && nm (strOfNums [c])) := by
  have hz := (size_ins s n c hn).2.2.2
  have hd : (s.extract 0 n ++ strOfNums [c] ++ s.extract n s.size).data.toList = s.data.toList.take n ++ [UInt8.ofNat c.toNat] ++ s.data.toList.drop n := by
    rw [ByteArray.data_append, ByteArray.data_append, Array.toList_append, Array.toList_append, strOfNums_data, ext_take, ext_drop]
    rfl
  have hall : ∀ p : UInt8 → Bool, (s.data.toList.take n ++ [UInt8.ofNat c.toNat] ++ s.data.toList.drop n).all p = (s.data.toList.all p && p (UInt8.ofNat c.toNat)) := fun p => by
    have e : s.data.toList.all p = ((s.data.toList.take n).all p && (s.data.toList.drop n).all p) := by rw [← List.all_append, List.take_append_drop]
    rw [List.all_append, List.all_append, e]
    simp only [List.all_cons, List.all_nil, Bool.and_true]
    cases (s.data.toList.take n).all p <;> cases (s.data.toList.drop n).all p <;> cases p (UInt8.ofNat c.toNat) <;> rfl
  have hone : nm (strOfNums [c]) = nb ((UInt8.ofNat c.toNat).toNat : Int) := by simp [nm, strOfNums, ByteArray.size]
  rw [hone]
  have e0 : s.size = 0 → s.data.toList = [] := fun h => List.eq_nil_of_length_eq_zero (by simpa using h)
  unfold noe nm
  rw [hz, hd, hall]
  by_cases h1 : s.size < 64
  · by_cases h2 : s.size = 0
    · simp [h2, e0 h2]
    · have e1 : 1 ≤ s.size := by omega
      have e2 : s.size ≤ 64 := by omega
      have e3 : s.size + 1 ≤ 64 := by omega
      simp [h1, h2, e1, e2, e3]
  · have e3 : ¬ s.size + 1 ≤ 64 := by omega
    simp [h1, e3]

set_option maxRecDepth 100000 in
set_option maxHeartbeats 1000000 in
theorem insert_walk (s : ByteArray) (i c : Int) (w : World) (hs : s.size ≤ maxLen) :
    Calls Try.prog 4 #[.string s, .int .i64 i, .int .u8 c] w fun e w' => e = .returned (.bool true) ∧ Below w.heap.size w w' := by
  have hms := hs
  unfold maxLen at hms
  by_cases hi : 0 ≤ i ∧ i ≤ (s.size : Int)
  · obtain ⟨hi0, hi1⟩ := hi
    obtain ⟨n, rfl⟩ := Int.eq_ofNat_of_zero_le hi0
    have hn : n ≤ s.size := by omega
    go_enter Try.func4, Try.ntmps4
    go_wp2_with fail
    refine (bytes_ins s _ c w hs).mono ?_
    rintro e _ ⟨hr, rfl⟩
    rcases hr with rfl | rfl
    · go_wp2_with fail
      all_goals first
        | (go_ret; exact ⟨rfl, Below.refl _ _⟩)
        | skip
      refine (names_any w).mono ?_
      rintro e w1 ⟨rfl, hb1⟩
      have hsz : (strOfNums (nums 256)).size = 64 := by rw [strOfNums_size, names_len]
      have hnm : nm (strOfNums (nums 256)) = true := names_nm
      generalize strOfNums (nums 256) = ns at hsz hnm ⊢
      have HN : Hid (nm ns = true) := hnm
      clear hnm
      have hs64 : ((ns.size : Int) != 64) = false := by rw [hsz]; rfl
      go_wp2_with fail
      refine (name_any ns w1 (by rw [hsz]; decide)).mono ?_
      rintro e _ ⟨rfl, rfl⟩
      rw [HN.out]
      go_wp2_with fail
      have h65 : (ns ++ ns.extract 0 1).size = 65 := size_65 hsz
      refine (name_any (ns ++ ns.extract 0 1) w1 (by rw [h65]; decide)).mono ?_
      rintro e _ ⟨rfl, rfl⟩
      rw [nm_big (s := ns ++ ns.extract 0 1) (by omega)]
      have hcv := one_conv c
      have had1 := add_1 s n c hn (by omega)
      have had2 := add_2 s n c hn (by omega)
      go_wp2
      go_quiet (fail)
      have HM : Hid (nm (s.extract 0 n ++ strOfNums [c] ++ s.extract n s.size) = (decide (s.size < 64) && noe s && nm (strOfNums [c]))) := nm_ins s n c hn
      have hmax : (s.extract 0 n ++ strOfNums [c] ++ s.extract n s.size).size ≤ maxLen := by rw [(size_ins s n c hn).2.2.2]; unfold maxLen; omega
      have hone : (strOfNums [c]).size ≤ maxLen := by rw [strOfNums_size]; simp [maxLen]
      have hb2 : Below w.heap.size w ((w1.alloc (Obj.cells #[Value.int IntKind.u8 c] 5)).drewN nq) := by
        have h := hb1.alloc hb1.size (Obj.cells #[Value.int IntKind.u8 c] 5)
        exact ⟨h.os, h.tape, h.output, h.size, h.block⟩
      generalize (w1.alloc (Obj.cells #[Value.int IntKind.u8 c] 5)).drewN nq = w2 at hb2 ⊢
      generalize s.extract 0 n ++ strOfNums [c] ++ s.extract n s.size = t at HM hmax had2 ⊢
      clear had1 had2 hcv
      go_wp2_with fail
      · have h1 : (s.size : Int) < 64 := by assumption
        have h2 : s.size < 64 := by omega
        refine (noe_any s w2 hs).mono ?_
        rintro e _ ⟨rfl, rfl⟩
        cases hna : noe s
        · go_wp2_with fail
          refine (name_any t w2 hmax).mono ?_
          rintro e _ ⟨rfl, rfl⟩
          have hx : nm t = false := by rw [HM.out, hna]; simp
          rw [hx]
          go_wp2
          go_ret
          exact ⟨rfl, hb2⟩
        · go_wp2_with fail
          refine (name_any (strOfNums [c]) w2 hone).mono ?_
          rintro e _ ⟨rfl, rfl⟩
          have hx : nm t = nm (strOfNums [c]) := by rw [HM.out, hna]; simp [h2]
          generalize nm (strOfNums [c]) = r at hx ⊢
          have HX : Hid (nm t = r) := hx
          clear hx HM
          go_wp2_with fail
          refine (name_any t w2 hmax).mono ?_
          rintro e _ ⟨rfl, rfl⟩
          rw [HX.out]
          cases r
          all_goals
            go_wp2
            go_ret
            exact ⟨rfl, hb2⟩
      · have h1 : 64 ≤ (s.size : Int) := by assumption
        have h2 : ¬ s.size < 64 := by omega
        refine (name_any t w2 hmax).mono ?_
        rintro e _ ⟨rfl, rfl⟩
        have hx : nm t = false := by rw [HM.out]; simp [h2]
        rw [hx]
        go_wp2
        go_ret
        exact ⟨rfl, hb2⟩
    · go_wp2_with fail
      go_ret
      exact ⟨rfl, Below.refl _ _⟩
  · go_enter Try.func4, Try.ntmps4
    go_wp2_with fail
    refine (bytes_ins s _ c w hs).mono ?_
    rintro e _ ⟨hr, rfl⟩
    rcases hr with rfl | rfl
    · go_wp2_with fail
      all_goals
        go_ret
        exact ⟨rfl, Below.refl _ _⟩
    · go_wp2_with fail
      go_ret
      exact ⟨rfl, Below.refl _ _⟩

end Go.Proofs.Qxb6629288a
