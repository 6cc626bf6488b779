/-
  Seat b6629240a. What the two laws lay in memory: a row of pointers to messages ('Made'); plain lists of first places ('firstOf', 'dcount').
-/
import Derived.Test.Qxb6629240aAdd
namespace Go.Proofs.Qxb6629240a
open Go.RowKit Go.Maps

/-! ### plain -/
/-- The first place below k that holds s. -/
def firstOf (S : Nat → ByteArray) : Nat → ByteArray → Option Nat
  | 0, _ => none
  | k + 1, s => match firstOf S k s with
    | some f => some f
    | none => if S k = s then some k else none

/-- How many places below k hold what no place before them holds. -/
def dcount (S : Nat → ByteArray) : Nat → Nat
  | 0 => 0
  | k + 1 => dcount S k + if (firstOf S k (S k)).isSome then 0 else 1

theorem dcount_le (S : Nat → ByteArray) : ∀ k, dcount S k ≤ k
  | 0 => Nat.le_refl _
  | k + 1 => by
    have := dcount_le S k
    unfold dcount
    split <;> omega

theorem firstOf_none {S : Nat → ByteArray} {s : ByteArray} : ∀ {k : Nat}, (∀ j, j < k → S j ≠ s) → firstOf S k s = none
  | 0, _ => rfl
  | k + 1, h => by
    unfold firstOf
    rw [firstOf_none (k := k) (fun j hj => h j (by omega))]
    simp [h k (by omega)]

theorem firstOf_some {S : Nat → ByteArray} {s : ByteArray} {f : Nat} (hs : S f = s) (hl : ∀ j, j < f → S j ≠ s) : ∀ {k : Nat}, f < k → firstOf S k s = some f
  | 0, h => absurd h (Nat.not_lt_zero _)
  | k + 1, h => by
    unfold firstOf
    by_cases e : f = k
    · subst e
      rw [firstOf_none hl]
      simp [hs]
    · rw [firstOf_some hs hl (k := k) (by omega)]

theorem IsFirst.of {S : Nat → ByteArray} {i f k : Nat} (h : IsFirst S i f) (hk : i < k) : firstOf S k (S i) = some f := firstOf_some h.same h.least (Nat.lt_of_le_of_lt h.le hk)

theorem IsFirst.dcount_same {S : Nat → ByteArray} {i : Nat} (h : IsFirst S i i) : dcount S (i + 1) = dcount S i + 1 := by
  show dcount S i + (if (firstOf S i (S i)).isSome then 0 else 1) = _
  rw [firstOf_none h.least]
  rfl

theorem IsFirst.dcount_other {S : Nat → ByteArray} {i f : Nat} (h : IsFirst S i f) (hne : f ≠ i) : dcount S (i + 1) = dcount S i := by
  show dcount S i + (if (firstOf S i (S i)).isSome then 0 else 1) = _
  rw [firstOf_some h.same h.least (by have := h.le; omega)]
  rfl

theorem firstOf_hit {S : Nat → ByteArray} {k f : Nat} (h : firstOf S k (S k) = some f) (s : ByteArray) : firstOf S (k + 1) s = firstOf S k s := by
  show (match firstOf S k s with | some f => some f | none => if S k = s then some k else none) = _
  cases hs : firstOf S k s with
  | some g => rfl
  | none =>
    by_cases e : S k = s
    · subst e; rw [h] at hs; cases hs
    · simp [e]

theorem firstOf_miss {S : Nat → ByteArray} {k : Nat} (h : firstOf S k (S k) = none) (s : ByteArray) : firstOf S (k + 1) s = if s = S k then some k else firstOf S k s := by
  show (match firstOf S k s with | some f => some f | none => if S k = s then some k else none) = _
  by_cases e : s = S k
  · simp [e, h]
  · rw [if_neg e]
    have e' : ¬ S k = s := fun h => e h.symm
    cases hs : firstOf S k s with
    | some g => rfl
    | none => simp [e']

theorem dcount_hit {S : Nat → ByteArray} {k f : Nat} (h : firstOf S k (S k) = some f) : dcount S (k + 1) = dcount S k := by
  show dcount S k + (if (firstOf S k (S k)).isSome then 0 else 1) = _
  rw [h]; rfl

theorem dcount_miss {S : Nat → ByteArray} {k : Nat} (h : firstOf S k (S k) = none) : dcount S (k + 1) = dcount S k + 1 := by
  show dcount S k + (if (firstOf S k (S k)).isSome then 0 else 1) = _
  rw [h]; rfl

/-! ### messages -/
/-- Block q is a message of resource s and line l. -/
structure MsgAt (w : World) (q : Nat) (s : ByteArray) (l : Int) : Prop where
  res : w.cell? ⟨q, 4, none⟩ = some (.string s)
  line : w.cell? ⟨q, 2, none⟩ = some (.int .i64 l)
  lt : q < w.heap.size

/-- BLOCK r IS A ROW OF n POINTERS, THE FIRST k OF THEM TO THE MESSAGES IN THE BLOCKS b0, b0 + 1, ..: of resource S j and line j + 1. -/
structure Made (w : World) (r b0 n k : Nat) (S : Nat → ByteArray) : Prop where
  row : w.rowIs r 26 n (fun j => if j < k then .pointer (some ⟨b0 + j, 0, none⟩) else .pointer none)
  msg : ∀ j, j < k → MsgAt w (b0 + j) (S j) ((j : Int) + 1)

theorem MsgAt.of_block {w w' : World} {q : Nat} {s : ByteArray} {l : Int} (h : MsgAt w q s l) (hz : w.heap.size ≤ w'.heap.size) (e : w'.heap[q]? = w.heap[q]?) : MsgAt w' q s l :=
  ⟨(World.cell?_of_block (w := w) (a := ⟨q, 4, none⟩) e).trans h.res, (World.cell?_of_block (w := w) (a := ⟨q, 2, none⟩) e).trans h.line, Nat.lt_of_lt_of_le h.lt hz⟩

/-- What is laid stays while other blocks are written. -/
theorem Made.kept {w w' : World} {r b0 n k x : Nat} {S : Nat → ByteArray} (h : Made w r b0 n k S) (hg : w.grownBy w' (some x)) (hr : r ≠ x) (hx : x < b0 ∨ b0 + k ≤ x) : Made w' r b0 n k S :=
  ⟨h.row.of_block (hg.block r h.row.lt (fun e => hr (by simpa using e))), fun j hj => (h.msg j hj).of_block hg.size (hg.block _ (h.msg j hj).lt (fun e => by simp at e; omega))⟩

theorem Made.ptr {w : World} {r b0 n k : Nat} {S : Nat → ByteArray} (h : Made w r b0 n k S) {j : Nat} (hj : j < k) (hk : k ≤ n) : w.cell? ⟨r, j, none⟩ = some (.pointer (some ⟨b0 + j, 0, none⟩)) := by
  rw [h.row.cell (by omega), if_pos hj]

theorem Made.drewN {w : World} {r b0 n k : Nat} {S : Nat → ByteArray} (h : Made w r b0 n k S) (j : Nat) : Made (w.drewN j) r b0 n k S :=
  ⟨h.row, fun i hi => ⟨(h.msg i hi).res, (h.msg i hi).line, (h.msg i hi).lt⟩⟩

theorem Made.start (w : World) (n b0 : Nat) (S : Nat → ByteArray) : Made (w.alloc (.cells (madeCells #[.pointer none] n) 26)) w.heap.size b0 n 0 S :=
  ⟨(World.rowIs_made w _ n 26).congr (fun i _ => by simp), fun _ h => absurd h (Nat.not_lt_zero _)⟩

/-- The message that is made in round k. -/
def msgCells (nm s : ByteArray) (l : Int) : Array Value :=
  #[.string nm, .string ⟨#[]⟩, .int .i64 l, .int .i64 0, .string s, .bool false, .slice none 0 0, .slice none 0 0, .pointer none]

theorem cell_at {w : World} {q : Nat} {cs : Array Value} {t : TypeId} {m : Nat × Nat} {o : Nat} (h : w.heap[q]? = some (.cells cs t m)) : w.cell? ⟨q, o, none⟩ = cs[o]? := by
  simp [World.cell?, h]

/-- ONE ROUND: the new message laid behind, its pointer stored into the row. -/
theorem Made.step {w : World} {r b0 n k : Nat} {S : Nat → ByteArray} (h : Made w r b0 n k S) (hk : k < n) (hz : w.heap.size = b0 + k) (hr : r < b0) (nm : ByteArray) :
    Made ((w.alloc (.cells (msgCells nm (S k) ((k : Int) + 1)) 30)).setCell ⟨r, k, none⟩ (.pointer (some ⟨w.heap.size, 0, none⟩))) r b0 n (k + 1) S := by
  have hnew : ((w.alloc (.cells (msgCells nm (S k) ((k : Int) + 1)) 30)).setCell ⟨r, k, none⟩ (.pointer (some ⟨w.heap.size, 0, none⟩))).heap[w.heap.size]? = some (.cells (msgCells nm (S k) ((k : Int) + 1)) 30) := by
    rw [Below.heap_setCell _ _ _ _ (by show w.heap.size ≠ r; omega)]
    exact (MapKept.heap_alloc w _).1
  have hsz : ((w.alloc (.cells (msgCells nm (S k) ((k : Int) + 1)) 30)).setCell ⟨r, k, none⟩ (.pointer (some ⟨w.heap.size, 0, none⟩))).heap.size = w.heap.size + 1 := by simp [World.setCell]
  refine ⟨((h.row.alloc _).set k _).congr (fun i _ => ?_), fun j hj => ?_⟩
  · by_cases e : i = k
    · subst e; rw [if_pos rfl, if_pos (by omega), hz]
    · rw [if_neg e]
      by_cases e2 : i < k
      · rw [if_pos e2, if_pos (by omega)]
      · rw [if_neg e2, if_neg (by omega)]
  · by_cases e : j = k
    · subst e
      rw [← hz]
      exact ⟨(cell_at hnew).trans rfl, (cell_at hnew).trans rfl, by omega⟩
    · have hm := h.msg j (by omega)
      refine hm.of_block (by omega) ?_
      rw [Below.heap_setCell _ _ _ _ (by show b0 + j ≠ r; omega)]
      exact Below.heap_alloc _ _ _ hm.lt

end Go.Proofs.Qxb6629240a
