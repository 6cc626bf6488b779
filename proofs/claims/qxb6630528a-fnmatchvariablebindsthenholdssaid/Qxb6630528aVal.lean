/-
  Seat b6630528a. A policy.Value ('Vl'), and the contracts of zzIsHex64 (13), Str (14), ZZPrincipal (15), ZZAddressed (16), ZZInt (17), zzMkValue (6), zzProper (7), zzEq (11), zzBytes (5).
-/
import Derived.Test.Qxb6630528aRows
import Derived.WalkKit
import Derived.ProofKit
import Derived.WalkSpells
import Derived.Laws.StructEq
namespace Go.Proofs.Qxb6630528a
open Go.RowKit

/-- SOME BOOL CAME BACK. -/
def SomeBool (e : Ending) : Prop := ∃ r, e = .returned (.bool r)
theorem SomeBool.mk (r : Bool) : SomeBool (.returned (.bool r)) := ⟨r, rfl⟩

theorem ret_bool {a b : Bool} (h : a = b) : Ending.returned (.bool a) = .returned (.bool b) := by rw [h]

set_option maxHeartbeats 400000 in
theorem hex_any (s : ByteArray) (w : World) : Calls Try.prog 13 #[.string s] w fun e w' => SomeBool e ∧ w = w' := by
  by_cases h : s.size = 64
  · have hz : ((s.size : Int) != 64) = false := by rw [h]; rfl
    go_enter Try.func13, Try.ntmps13
    go_wp2
    go_loop [3] (fun i => ∃ k : Nat, k ≤ 64 ∧ i = .int .i64 k) (fun i => 64 - (intOf i).toNat)
    case atStart => exact ⟨0, by omega, rfl⟩
    case round =>
      obtain ⟨k, hk, rfl⟩ := hrel
      by_cases hlt : k < 64
      · have hlt' : k < s.size := by omega
        go_wp2
        all_goals first
          | (go_ret; exact ⟨SomeBool.mk _, rfl⟩)
          | (go_round
             case rel => exact ⟨k + 1, by omega, by go_num⟩
             case measure => simp [intOf]; omega)
      · go_wp2
        go_ret
        exact ⟨SomeBool.mk _, rfl⟩
  · have hz : ((s.size : Int) != 64) = true := by rw [bne_iff_ne]; omega
    go_enter Try.func13, Try.ntmps13
    go_wp2
    go_ret
    exact ⟨SomeBool.mk _, rfl⟩

theorem int_any (n : Int) (w : World) : Calls Try.prog 17 #[.int .i64 n] w fun e w' => e = .returned (.agg #[.int .i64 0, .int .i64 n, .string ⟨#[]⟩]) ∧ w.alloc (.cells #[.int .i64 0, .int .i64 n, .string ⟨#[]⟩] 25) = w' := by
  go_enter Try.func17, Try.ntmps17
  go_wp2
  exact bodyPost_ret (v := .agg #[.int .i64 0, .int .i64 n, .string ⟨#[]⟩]) (by simp [results, Try.results17, go_sem]) rfl ⟨rfl, rfl⟩

theorem str_any (s : ByteArray) (w : World) : Calls Try.prog 14 #[.string s] w fun e w' => e = .returned (.agg #[.int .i64 1, .int .i64 0, .string s]) ∧ w.alloc (.cells #[.int .i64 1, .int .i64 0, .string s] 25) = w' := by
  go_enter Try.func14, Try.ntmps14
  go_wp2
  exact bodyPost_ret (v := .agg #[.int .i64 1, .int .i64 0, .string s]) (by simp [results, Try.results14, go_sem]) rfl ⟨rfl, rfl⟩

theorem prin_any (s : ByteArray) (w : World) : Calls Try.prog 15 #[.string s] w fun e w' => e = .returned (.agg #[.int .i64 2, .int .i64 0, .string s]) ∧ w.alloc (.cells #[.int .i64 2, .int .i64 0, .string s] 25) = w' := by
  go_enter Try.func15, Try.ntmps15
  go_wp2
  exact bodyPost_ret (v := .agg #[.int .i64 2, .int .i64 0, .string s]) (by simp [results, Try.results15, go_sem]) rfl ⟨rfl, rfl⟩

theorem addr_any (s : ByteArray) (w : World) : Calls Try.prog 16 #[.string s] w fun e w' => e = .returned (.agg #[.int .i64 3, .int .i64 0, .string s]) ∧ w.alloc (.cells #[.int .i64 3, .int .i64 0, .string s] 25) = w' := by
  go_enter Try.func16, Try.ntmps16
  go_wp2
  exact bodyPost_ret (v := .agg #[.int .i64 3, .int .i64 0, .string s]) (by simp [results, Try.results16, go_sem]) rfl ⟨rfl, rfl⟩

/-- A Value's three fields. -/
structure Vl where
  k : Int
  n : Int
  s : ByteArray

def pre : ByteArray := ⟨#[101, 100, 50, 53, 53, 49, 57, 58]⟩
/-- The Value of kind k. -/
def valOf (k n : Int) (s : ByteArray) : Vl := if k = 0 then ⟨0, n, ⟨#[]⟩⟩ else if k = 1 then ⟨1, 0, s⟩ else ⟨k, 0, pre ++ s⟩

/-- What zzMkValue hands back: the Value of its kind, or not ok. -/
def MkPost (k n : Int) (s : ByteArray) (e : Ending) : Prop :=
  ∃ (V : Vl) (ok : Bool), e = .returned (.tuple #[.agg #[.int .i64 V.k, .int .i64 V.n, .string V.s], .bool ok]) ∧ (ok = true → V = valOf k n s ∧ 0 ≤ k ∧ k ≤ 3)

theorem MkPost.no (k n : Int) (s : ByteArray) : MkPost k n s (.returned (.tuple #[.agg #[.int .i64 0, .int .i64 0, .string ⟨#[]⟩], .bool false])) :=
  ⟨⟨0, 0, ⟨#[]⟩⟩, false, rfl, fun h => by cases h⟩

theorem MkPost.yes {k n a b : Int} {s t : ByteArray} (h : (⟨a, b, t⟩ : Vl) = valOf k n s) (h0 : 0 ≤ k) (h3 : k ≤ 3) : MkPost k n s (.returned (.tuple #[.agg #[.int .i64 a, .int .i64 b, .string t], .bool true])) :=
  ⟨⟨a, b, t⟩, true, rfl, fun _ => ⟨h, h0, h3⟩⟩

end Go.Proofs.Qxb6630528a
