/-
  Seat b6629288a. zzNameOrEmpty (7), the two zzBytes (5, 9), zzOneByteNames (6).
-/
import Derived.Test.Qxb6629288aNames
import Derived.Laws.BytesArg
import Derived.Maps.AppendAt
namespace Go.Proofs.Qxb6629288a
open Go.RowKit

theorem size_toList (s : ByteArray) : s.toList.length = s.size := by
  rw [ByteArray.toList_eq]
  rfl
theorem noe_nil {s : ByteArray} (h : s.toList = []) : noe s = true := by
  have : s.size = 0 := by rw [← size_toList, h]; rfl
  simp [noe, this]
theorem noe_cons {s : ByteArray} (h : ¬ s.toList = []) : noe s = (s.toList.isEmpty || nm s) := by
  have h1 : s.size ≠ 0 := fun e => h (List.eq_nil_of_length_eq_zero (by rw [size_toList, e]))
  have h2 : s.toList.isEmpty = false := by simpa using h
  simp [noe, h1, h2]

set_option maxHeartbeats 800000 in
theorem noe_any (s : ByteArray) (w : World) (hs : s.size ≤ maxLen) : Calls Try.prog 7 #[.string s] w fun e w' => e = .returned (.bool (noe s)) ∧ w = w' := by
  go_enter Try.func7, Try.ntmps7
  go_wp2_with (go_at_call 8; refine (name_any _ _ hs).mono ?_; rintro e _ ⟨rfl, rfl⟩)
  · have hz : s.toList = [] := by assumption
    go_ret
    exact ⟨ret_bool (noe_nil hz).symm, rfl⟩
  · have hz : ¬ s.toList = [] := by assumption
    go_ret
    exact ⟨ret_bool (noe_cons hz).symm, rfl⟩

set_option maxHeartbeats 800000 in
theorem bytes_join (s t : ByteArray) (w : World) (hs : s.size ≤ maxLen) (ht : t.size ≤ maxLen) : Calls Try.prog 5 #[.string s, .string t] w fun e w' => (e = .returned (.bool true) ∨ e = .returned (.bool false)) ∧ w = w' := by
  unfold maxLen at hs ht
  go_enter Try.func5, Try.ntmps5
  go_wp2
  all_goals
    go_ret
    first | exact ⟨Or.inl rfl, rfl⟩ | exact ⟨Or.inr rfl, rfl⟩

set_option maxHeartbeats 800000 in
theorem bytes_ins (s : ByteArray) (i c : Int) (w : World) (hs : s.size ≤ maxLen) : Calls Try.prog 9 #[.string s, .int .i64 i, .int .u8 c] w fun e w' => (e = .returned (.bool true) ∨ e = .returned (.bool false)) ∧ w = w' := by
  unfold maxLen at hs
  go_enter Try.func9, Try.ntmps9
  go_wp2
  all_goals
    go_ret
    first | exact ⟨Or.inl rfl, rfl⟩ | exact ⟨Or.inr rfl, rfl⟩

theorem Try.info5 : (Try.prog.info? 5).map (fun i => (i.zero, i.size, i.bytes)) = some (some (.int .u8 0), 1, 1) := by kernel_rfl

/-- 'string([]byte{c})'. -/
theorem one_conv (c : Int) (w : World) : (convert 26 9 (.slice (some ⟨w.heap.size, 0, none⟩) 1 1)).run Try.prog (w.alloc (.cells #[.int .u8 c] 5)) = .ok (.string (strOfNums [c])) (w.alloc (.cells #[.int .u8 c] 5)) := by
  refine run_convert_bytes_arg (P := Try.prog) _ 26 5 Try.underlying26 Try.underlying5 w.heap.size 0 1 1 [c] rfl (fun i hi => ?_) 9 Try.underlying9
  obtain rfl : i = 0 := by omega
  simp

/-- The names' bytes below k, in order. -/
def nums : Nat → List Int
  | 0 => []
  | k + 1 => if nb (k : Int) then nums k ++ [(k : Int)] else nums k
theorem nums_yes {k : Nat} (h : nb (k : Int) = true) : nums (k + 1) = nums k ++ [(k : Int)] := by
  show (if nb (k : Int) then nums k ++ [(k : Int)] else nums k) = _
  rw [if_pos h]
theorem nums_no {k : Nat} (h : nb (k : Int) = false) : nums (k + 1) = nums k := by
  show (if nb (k : Int) then nums k ++ [(k : Int)] else nums k) = _
  rw [h]; rfl
theorem nums_le : ∀ k, (nums k).length ≤ k
  | 0 => Nat.le_refl _
  | k + 1 => by
    have := nums_le k
    unfold nums
    split <;> simp <;> omega

theorem nm_one {k : Nat} (hk : k < 256) : nm (strOfNums [(k : Int)]) = nb (k : Int) := by
  have h : (UInt8.ofNat k).toNat = k := by simp; omega
  simp [nm, strOfNums, ByteArray.size, h]

set_option maxRecDepth 100000 in
set_option maxHeartbeats 800000 in
theorem names_any (w : World) : Calls Try.prog 6 #[] w fun e w' => e = .returned (.string (strOfNums (nums 256))) ∧ Below w.heap.size w w' := by
  obtain ⟨i0, hi, hz0, hz1, hz2⟩ := info_parts Try.info5
  have hcv := one_conv
  go_enter Try.func6, Try.ntmps6
  go_wp2_with (at_make; refine wpList_make_own _ rfl _ _ 26 rfl w.heap.size 5 i0 (.int .u8 0) 1 Try.underlying26 hi hz0 hz1 .i64 .i64 256 256 rfl rfl rfl (by rw [hz2]; decide) (by decide) (Nat.le_refl _) ?_; intro w1 hown hgrow)
  have hb1 : Below w.heap.size w w1 := (Below.refl _ _).grown hgrow (Nat.le_refl _) (fun k hk => by cases hk)
  clear hgrow
  go_loopw [1, 2] (fun v i wr => ∃ k : Nat, k ≤ 256 ∧ i = .int .i64 k ∧ v = .slice (some ⟨w.heap.size, 0, none⟩) (nums k).length 256 ∧ wr.ownsRow w.heap.size 5 1 (.slice (some ⟨w.heap.size, 0, none⟩) (nums k).length 256) (nums k).length ((nums k).map (Value.int .u8)) ∧ Below w.heap.size w wr)
    (fun _ i _ => 256 - (intOf i).toNat)
  case atStart => exact ⟨0, by omega, rfl, rfl, hown, hb1⟩
  case round =>
    obtain ⟨k, hk, rfl, rfl, hown, hb⟩ := hrel
    have hnl := nums_le k
    by_cases hlt : k < 256
    · have hn1 := nm_one hlt
      have HN : Hid (nm (strOfNums [(k : Int)]) = nb (k : Int)) := hn1
      clear hn1
      go_wp2_with fail
      refine (name_any _ _ (by rw [strOfNums_size]; simp [maxLen])).mono ?_
      rintro e _ ⟨rfl, rfl⟩
      rw [HN.out]
      cases hnb : nb (k : Int)
      · go_wp2_with fail
        go_roundw
        case rel => exact ⟨k + 1, by omega, by go_num, by rw [nums_no hnb], by rw [nums_no hnb]; exact hown.alloc _, hb.alloc hb.size _⟩
        case measure => simp [intOf]; omega
      · go_wp2_with (at_builtin; refine wpList_append_fits _ rfl _ _ 26 rfl w.heap.size 5 i0 1 Try.underlying26 hi hz1 w.heap.size (nums k).length 256 _ rfl ((hown.alloc _).alloc _) ⟨wr.heap.size + 1, 0, none⟩ 1 1 [.int .u8 (k : Int)] rfl rfl ?qc (ints_oneCell .u8 [(k : Int)]) (by omega) ?_; rotate_right; intro w2 hown2 hgrow2)
        · go_roundw
          case rel =>
            refine ⟨k + 1, by omega, by go_num, by rw [nums_yes hnb]; simp, ?_, ?_⟩
            · rw [nums_yes hnb]
              simpa using hown2
            · exact ((hb.alloc hb.size _).alloc (by have := hb.size; simp; omega) _).grown hgrow2 (by have := hb.size; simp; omega) (fun j hj => by cases hj; exact Nat.le_refl _)
          case measure => simp [intOf]; omega
        · have := cell_one_new (wr.alloc (Obj.cells #[Value.int IntKind.u8 (k : Int)] 5)) (.int .u8 (k : Int)) 5
          simpa using this
    · have : k = 256 := by omega
      subst this
      have hfin := run_convert_bytes_arg (P := Try.prog) wr 26 5 Try.underlying26 Try.underlying5 w.heap.size 0 (nums 256).length 256 (nums 256) rfl (fun i hi => by
        rw [Nat.zero_add, hown.cellAt i (by omega), List.getElem?_map, List.getElem?_eq_getElem hi, List.getD, List.getElem?_eq_getElem hi]
        rfl) 9 Try.underlying9
      clear hcv hown
      go_wp2
      go_ret
      exact ⟨rfl, hb⟩

theorem names_len : (nums 256).length = 64 := by decide +kernel
theorem names_nm : nm (strOfNums (nums 256)) = true := by decide +kernel

end Go.Proofs.Qxb6629288a
