/-
  Seat b6630528a. The contract of Match (9) at a term without an address part.
-/
import Derived.Test.Qxb6630528aBind
namespace Go.Proofs.Qxb6630528a
open Go.RowKit

theorem EnvIs.later {w w' : World} {B E : Nat} {L : List Bd} (h : EnvIs w B E L) (hb : Below w.heap.size w w') : EnvIs w' B E L := by
  obtain ⟨v, hv, hl, hown⟩ := h
  refine ⟨v, (hb.block E (Array.getElem?_eq_some_iff.1 hv).1).trans hv, hl, ?_⟩
  rcases hown with h | ⟨g, cap, cur, h1, h2, hgc, r⟩
  · exact Or.inl h
  · exact Or.inr ⟨g, cap, cur, h1, h2, (hb.block g (Array.getElem?_eq_some_iff.1 hgc).1).trans hgc, r⟩

theorem EnvIs.lt {w : World} {B E : Nat} {L : List Bd} (h : EnvIs w B E L) : E < w.heap.size := by
  obtain ⟨v, hv, _⟩ := h
  exact (Array.getElem?_eq_some_iff.1 hv).1

/-- A term without an address part, as a value. -/
abbrev termV (x : ByteArray) (u : Vl) : Value := .agg #[.string ⟨#[]⟩, .int .i64 0, .int .i64 0, .string x, .string ⟨#[]⟩, .int .i64 u.k, .int .i64 u.n, .string u.s, .pointer none]
abbrev valV (v : Vl) : Value := .agg #[.int .i64 v.k, .int .i64 v.n, .string v.s]

theorem veq_run (a b : Vl) (w : World) : (binOp .eql 25 (valV a) (valV b)).run Try.prog w = .ok (.bool (veq a b)) w := by
  by_cases h1 : a.k = b.k
  · by_cases h2 : a.n = b.n
    · by_cases h3 : a.s.toList = b.s.toList
      · have h4 : a.s = b.s := str_eq (by rw [h3]; simp)
        simp [go_sem, h1, h2, veq, h4]
      · have h4 : ¬ a.s = b.s := fun e => h3 (by rw [e])
        simp [go_sem, h1, h2, h3, veq, h4]
    · simp [go_sem, h1, h2, veq]
  · simp [go_sem, h1, veq]

set_option maxHeartbeats 400000 in
/-- No variable: the term's own value. -/
theorem match_value (E : Nat) (u v : Vl) (w : World) :
    Calls Try.prog 9 #[termV ⟨#[]⟩ u, valV v, .pointer (some ⟨E, 0, none⟩)] w fun e w' => e = .returned (.bool (veq u v)) ∧ Below w.heap.size w w' := by
  have hve := veq_run u v
  go_enter Try.func9, Try.ntmps9
  go_wp2
  go_ret
  exact ⟨rfl, two_below _ _ _⟩

set_option maxHeartbeats 400000 in
/-- The anonymous variable. -/
theorem match_anon (E : Nat) (u v : Vl) (w : World) :
    Calls Try.prog 9 #[termV ⟨#[95]⟩ u, valV v, .pointer (some ⟨E, 0, none⟩)] w fun e w' => e = .returned (.bool true) ∧ Below w.heap.size w w' := by
  go_enter Try.func9, Try.ntmps9
  go_wp2
  go_ret
  exact ⟨rfl, two_below _ _ _⟩

theorem not_nil {x : ByteArray} (h : x ≠ ⟨#[]⟩) : x.toList.isEmpty = false := by
  cases hb : x.toList.isEmpty with
  | false => rfl
  | true => exact absurd (of_nil (by simpa using hb)) h

theorem get_some (B E : Nat) (x : ByteArray) (b : Vl) (L : List Bd) (w : World) (hE : EnvIs w B E L) (hL : L.length ≤ 100) (hg : getF L x = some b) :
    Calls Try.prog 10 #[.pointer (some ⟨E, 0, none⟩), .string x] w fun e w' => e = .returned (.tuple #[valV b, .bool true]) ∧ Below w.heap.size w w' := by
  have h := get_any B E x L w hE hL
  rw [hg] at h
  exact h

theorem get_none (B E : Nat) (x : ByteArray) (L : List Bd) (w : World) (hE : EnvIs w B E L) (hL : L.length ≤ 100) (hg : getF L x = none) :
    Calls Try.prog 10 #[.pointer (some ⟨E, 0, none⟩), .string x] w fun e w' => e = .returned (.tuple #[.agg #[.int .i64 0, .int .i64 0, .string ⟨#[]⟩], .bool false]) ∧ Below w.heap.size w w' := by
  have h := get_any B E x L w hE hL
  rw [hg] at h
  exact h

theorem two_kept {w w2 : World} {o1 o2 : Obj} (h : Below ((w.alloc o1).alloc o2).heap.size ((w.alloc o1).alloc o2) w2) :
    w2.heap[w.heap.size]? = some o1 ∧ w2.heap[w.heap.size + 1]? = some o2 ∧ w.heap.size + 2 ≤ w2.heap.size ∧ Below w.heap.size w w2 := by
  have s1 : (w.alloc o1).heap.size = w.heap.size + 1 := by simp
  have s2 : ((w.alloc o1).alloc o2).heap.size = w.heap.size + 2 := by simp
  refine ⟨?_, ?_, ?_, ?_⟩
  · rw [h.block w.heap.size (by omega), Below.heap_alloc _ _ _ (by omega)]
    exact (MapKept.heap_alloc w _).1
  · rw [h.block (w.heap.size + 1) (by omega), ← s1]
    exact (MapKept.heap_alloc (w.alloc o1) _).1
  · have := h.size
    omega
  · exact (two_below w o1 o2).trans (h.mono (by omega))

set_option maxHeartbeats 400000 in
/-- A variable that is bound. -/
theorem match_bound (B E : Nat) (x : ByteArray) (u v b : Vl) (L : List Bd) (w : World) (hE : EnvIs w B E L) (hL : L.length ≤ 100) (h0 : x ≠ ⟨#[]⟩) (h1 : x ≠ ⟨#[95]⟩) (hg : getF L x = some b) :
    Calls Try.prog 9 #[termV x u, valV v, .pointer (some ⟨E, 0, none⟩)] w fun e w' => e = .returned (.bool (veq b v)) ∧ Below w.heap.size w w' := by
  have n0 := not_nil h0
  have n1 : (x.toList == [95]) = false := by rw [is_under]; simp [h1]
  have hve := veq_run b v
  go_enter Try.func9, Try.ntmps9
  go_wp2_with fail
  refine Calls.mono (get_some B E x b L _ ?_ hL hg) ?_
  · exact hE.later (two_below _ _ _)
  rintro e w2 ⟨rfl, hb2⟩
  obtain ⟨k1, k2, k3, k4⟩ := two_kept hb2
  have v0 : w2.cell? ⟨w.heap.size + 1, 0, none⟩ = some (.int .i64 v.k) := cell_at k2 0
  have v1 : w2.cell? ⟨w.heap.size + 1, 1, none⟩ = some (.int .i64 v.n) := cell_at k2 1
  have v2 : w2.cell? ⟨w.heap.size + 1, 2, none⟩ = some (.string v.s) := cell_at k2 2
  have hz : w.heap.size + 1 < w2.heap.size := by omega
  clear hb2 k1 k2 h0 h1 hE hg
  go_wp2
  go_ret
  exact ⟨rfl, k4.alloc (by omega) _⟩

set_option maxHeartbeats 400000 in
/-- A variable that is not bound: it is bound. -/
theorem match_fresh (B E : Nat) (x : ByteArray) (u v : Vl) (L : List Bd) (w : World) (hE : EnvIs w B E L) (hL : L.length ≤ 100) (hB : B ≤ E) (h0 : x ≠ ⟨#[]⟩) (h1 : x ≠ ⟨#[95]⟩) (hg : getF L x = none) :
    Calls Try.prog 9 #[termV x u, valV v, .pointer (some ⟨E, 0, none⟩)] w fun e w' => e = .returned (.bool true) ∧ EnvIs w' B E (L ++ [(x, v)]) ∧ Kp B E w w' := by
  have n0 := not_nil h0
  have n1 : (x.toList == [95]) = false := by rw [is_under]; simp [h1]
  have hlt := hE.lt
  go_enter Try.func9, Try.ntmps9
  go_wp2_with fail
  refine Calls.mono (get_none B E x L _ ?_ hL hg) ?_
  · exact hE.later (two_below _ _ _)
  rintro e w2 ⟨rfl, hb2⟩
  obtain ⟨k1, k2, k3, k4⟩ := two_kept hb2
  have v0 : w2.cell? ⟨w.heap.size + 1, 0, none⟩ = some (.int .i64 v.k) := cell_at k2 0
  have v1 : w2.cell? ⟨w.heap.size + 1, 1, none⟩ = some (.int .i64 v.n) := cell_at k2 1
  have v2 : w2.cell? ⟨w.heap.size + 1, 2, none⟩ = some (.string v.s) := cell_at k2 2
  have t3 : w2.cell? ⟨w.heap.size, 3, none⟩ = some (.string x) := cell_at k1 3
  have hz : w.heap.size + 1 < w2.heap.size := by omega
  have hz' : w.heap.size < w2.heap.size := by omega
  clear hb2 k1 k2 h0 h1 hg
  go_wp2_with fail
  have k5 : Below w.heap.size w (w2.alloc (Obj.cells #[Value.int IntKind.i64 0, Value.int IntKind.i64 0, Value.string ⟨#[]⟩] 25)) := k4.alloc (by omega) _
  generalize w2.alloc (Obj.cells #[Value.int IntKind.i64 0, Value.int IntKind.i64 0, Value.string ⟨#[]⟩] 25) = w3 at k5 ⊢
  refine Calls.mono (bind_any B E x v.k v.n v.s L w3 ?_ hL hB) ?_
  · exact hE.later k5
  rintro e w4 ⟨rfl, hE4, hk4⟩
  go_wp2_with fail
  go_ret
  exact ⟨rfl, hE4, (Kp.of_below k5 (by omega)).trans hk4⟩

end Go.Proofs.Qxb6630528a
