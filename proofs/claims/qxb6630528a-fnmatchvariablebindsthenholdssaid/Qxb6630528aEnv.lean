/-
  Seat b6630528a. An Env in memory ('EnvIs'), and the contracts of Get (10) and Bind (8).
-/
import Derived.Test.Qxb6630528aEq
import Derived.Laws.OwnMore
import Derived.Deep.QuietTactic
import Derived.BigQuiet
namespace Go.Proofs.Qxb6630528a
open Go.RowKit

abbrev Bd := ByteArray × Vl
def cellsB (b : Bd) : List Value := [.string b.1, .int .i64 b.2.k, .int .i64 b.2.n, .string b.2.s]
def rowOf (L : List Bd) : List Value := L.flatMap cellsB

theorem rowOf_length (L : List Bd) : (rowOf L).length = L.length * 4 := by
  induction L with
  | nil => rfl
  | cons b L ih =>
    show (cellsB b ++ rowOf L).length = _
    rw [List.length_append, ih]
    simp [cellsB]
    omega

theorem rowOf_at : ∀ (L : List Bd) (k i : Nat) (hk : k < L.length), i < 4 → (rowOf L)[k * 4 + i]? = (cellsB L[k])[i]?
  | [], k, _, hk, _ => absurd hk (Nat.not_lt_zero _)
  | b :: L, 0, i, _, hi => by
    show (cellsB b ++ rowOf L)[0 * 4 + i]? = _
    rw [List.getElem?_append_left (by simp [cellsB]; omega)]
    simp
  | b :: L, k + 1, i, hk, hi => by
    show (cellsB b ++ rowOf L)[(k + 1) * 4 + i]? = _
    rw [List.getElem?_append_right (by simp [cellsB]; omega)]
    have e : (k + 1) * 4 + i - (cellsB b).length = k * 4 + i := by simp [cellsB]; omega
    rw [e, rowOf_at L k i (by simpa using hk) hi]
    rfl

/-- BLOCK E IS AN Env WHOSE BINDINGS ARE L, in a row from block B on. -/
def EnvIs (w : World) (B E : Nat) (L : List Bd) : Prop := ∃ v, w.heap[E]? = some (.cells #[v] 30 (0, 0)) ∧ w.ownsRow B 46 4 v L.length (rowOf L)

/-- The value that a name is bound to. -/
def getF : List Bd → ByteArray → Option Vl
  | [], _ => none
  | b :: L, x => if b.1 = x then some b.2 else getF L x
def z0 : Vl := ⟨0, 0, ⟨#[]⟩⟩

theorem getF_at : ∀ (L : List Bd) (x : ByteArray) (k : Nat) (hk : k < L.length), (∀ j (hj : j < L.length), j < k → (L[j]).1 ≠ x) → (L[k]).1 = x → getF L x = some (L[k]).2
  | [], _, k, hk, _, _ => absurd hk (Nat.not_lt_zero _)
  | b :: L, x, 0, _, _, h => by
    show (if b.1 = x then some b.2 else getF L x) = _
    rw [if_pos (show b.1 = x from h)]
    rfl
  | b :: L, x, k + 1, hk, hn, h => by
    show (if b.1 = x then some b.2 else getF L x) = _
    rw [if_neg (show ¬ b.1 = x from hn 0 (by simp) (by omega))]
    exact getF_at L x k (by simpa using hk) (fun j hj hjk => hn (j + 1) (by simpa using hj) (by omega)) h

theorem getF_none : ∀ (L : List Bd) (x : ByteArray), (∀ j (hj : j < L.length), (L[j]).1 ≠ x) → getF L x = none
  | [], _, _ => rfl
  | b :: L, x, h => by
    show (if b.1 = x then some b.2 else getF L x) = _
    rw [if_neg (show ¬ b.1 = x from h 0 (by simp))]
    exact getF_none L x (fun j hj => h (j + 1) (by simpa using hj))

theorem idx46 {g n cap k : Nat} (hk : k < n) (w : World) : (Instr.indexAt 28 (.slice (some ⟨g, 0, none⟩) n cap) (.int .i64 (k : Int))).run Try.prog w = .ok (.pointer (some ⟨g, k * 4, none⟩)) w := by
  rw [run_indexAt_slice (h := by kernel_rfl), if_pos (by omega)]
  simp [Addr.add, go_sem]
  omega

theorem cell_at {w : World} {q : Nat} {cs : Array Value} {t : TypeId} {m : Nat × Nat} (h : w.heap[q]? = some (.cells cs t m)) (o : Nat) : w.cell? ⟨q, o, none⟩ = cs[o]? := by
  simp [World.cell?, h]

theorem set3 {w : World} {B : Nat} {x y z : Value} {t : TypeId} {m : Nat × Nat} (h : w.heap[B]? = some (.cells #[x, y, z] t m)) (a b c : Value) :
    (((w.setCell ⟨B, 0, none⟩ a).setCell ⟨B, 1, none⟩ b).setCell ⟨B, 2, none⟩ c).heap[B]? = some (.cells #[a, b, c] t m) := by
  simp [World.setCell, Array.getElem?_modify, h]

theorem size_set3 (w : World) (B : Nat) (a b c : Value) : (((w.setCell ⟨B, 0, none⟩ a).setCell ⟨B, 1, none⟩ b).setCell ⟨B, 2, none⟩ c).heap.size = w.heap.size := by simp [World.setCell]

set_option maxHeartbeats 400000 in
theorem get_any (B E : Nat) (x : ByteArray) (L : List Bd) (w : World) (hE : EnvIs w B E L) (hL : L.length ≤ 100) :
    Calls Try.prog 10 #[.pointer (some ⟨E, 0, none⟩), .string x] w fun e w' =>
      e = .returned (.tuple #[.agg #[.int .i64 ((getF L x).getD z0).k, .int .i64 ((getF L x).getD z0).n, .string ((getF L x).getD z0).s], .bool (getF L x).isSome]) ∧ Below w.heap.size w w' := by
  obtain ⟨v, hv, hown⟩ := hE
  have hc0 : ∀ o, (w.alloc o).cell? ⟨E, 0, none⟩ = some v := fun o => by
    have hlt := (Array.getElem?_eq_some_iff.1 hv).1
    have e : (w.alloc o).heap[E]? = some (.cells #[v] 30 (0, 0)) := (Below.heap_alloc _ _ _ hlt).trans hv
    simp [World.cell?, e]
  rcases hown.2 with ⟨rfl, hn⟩ | ⟨g, cap, cur, rfl, hg, hgc, hcap, hmax, hsz, htk⟩
  · have hL0 : L = [] := List.eq_nil_of_length_eq_zero hn
    subst hL0
    go_enter Try.func10, Try.ntmps10
    go_wp2
    refine wp_loop_rounds 1 ?_
    rw [rounds_succ]
    go_wp2
    exact bodyPost_ret (v := .tuple #[.agg #[.int .i64 0, .int .i64 0, .string ⟨#[]⟩], .bool false]) (by simp [results, Try.results10, go_sem]) rfl ⟨rfl, (Below.refl _ _).alloc (Nat.le_refl _) _⟩
  · have hcell : ∀ k (hk : k < L.length) i, i < 4 → w.cell? ⟨g, k * 4 + i, none⟩ = (cellsB L[k])[i]? := fun k hk i hi => by
      rw [hown.cellAt (k * 4 + i) (by omega), rowOf_at L k i hk hi]
    go_enter Try.func10, Try.ntmps10
    go_wp2
    go_loopw [13] (fun i wr => ∃ k : Nat, k ≤ L.length ∧ i = .int .i64 k ∧ Below w.heap.size w wr ∧ wr.heap[w.heap.size]? = some (.cells #[.int .i64 0, .int .i64 0, .string ⟨#[]⟩] 25 (0, 0)) ∧ ∀ j (hj : j < L.length), j < k → (L[j]).1 ≠ x) (fun i _ => L.length - (intOf i).toNat)
    case atStart => exact ⟨0, Nat.zero_le _, rfl, (Below.refl _ _).alloc (Nat.le_refl _) _, (MapKept.heap_alloc w _).1, fun _ _ h => absurd h (Nat.not_lt_zero _)⟩
    case round =>
      obtain ⟨k, hk, rfl, hb, hr, hno⟩ := hrel
      have HN : Hid (∀ j (hj : j < L.length), j < k → (L[j]).1 ≠ x) := hno
      clear hno
      by_cases hlt : k < L.length
      · have hi := idx46 (g := g) (cap := cap) hlt
        have hgl := (Array.getElem?_eq_some_iff.1 hgc).1
        have c0 : wr.cell? ⟨g, k * 4, none⟩ = some (.string (L[k]).1) := (hb.cell (p := ⟨g, k * 4, none⟩) hgl).trans (hcell k hlt 0 (by omega))
        have c1 : wr.cell? ⟨g, k * 4 + 1, none⟩ = some (.int .i64 (L[k]).2.k) := (hb.cell (p := ⟨g, k * 4 + 1, none⟩) hgl).trans (hcell k hlt 1 (by omega))
        have c2 : wr.cell? ⟨g, k * 4 + 1 + 1, none⟩ = some (.int .i64 (L[k]).2.n) := (hb.cell (p := ⟨g, k * 4 + 2, none⟩) hgl).trans (hcell k hlt 2 (by omega))
        have c3 : wr.cell? ⟨g, k * 4 + 1 + 1 + 1, none⟩ = some (.string (L[k]).2.s) := (hb.cell (p := ⟨g, k * 4 + 3, none⟩) hgl).trans (hcell k hlt 3 (by omega))
        have HB : Hid (Below w.heap.size w wr ∧ wr.heap[w.heap.size]? = some (.cells #[.int .i64 0, .int .i64 0, .string ⟨#[]⟩] 25 (0, 0))) := ⟨hb, hr⟩
        have hbig : w.heap.size < wr.heap.size := (Array.getElem?_eq_some_iff.1 hr).1
        have hro : ∀ o, (wr.alloc o).heap[w.heap.size]? = some (.cells #[.int .i64 0, .int .i64 0, .string ⟨#[]⟩] 25 (0, 0)) := fun o => (Below.heap_alloc _ _ _ hbig).trans hr
        have r0 : ∀ o, (wr.alloc o).cell? ⟨w.heap.size, 0, none⟩ = some (.int .i64 0) := fun o => by simp [World.cell?, hro o]
        have r1 : ∀ o, (wr.alloc o).cell? ⟨w.heap.size, 1, none⟩ = some (.int .i64 0) := fun o => by simp [World.cell?, hro o]
        have r2 : ∀ o, (wr.alloc o).cell? ⟨w.heap.size, 2, none⟩ = some (.string ⟨#[]⟩) := fun o => by simp [World.cell?, hro o]
        have fz : ∀ o j, (wr.alloc o).frozen? ⟨w.heap.size, j, none⟩ = false := fun o j => by simp [World.frozen?, hro o]
        have q0 : wr.cell? ⟨w.heap.size, 0, none⟩ = some (.int .i64 0) := by simp [World.cell?, hr]
        have q1 : wr.cell? ⟨w.heap.size, 1, none⟩ = some (.int .i64 0) := by simp [World.cell?, hr]
        have q2 : wr.cell? ⟨w.heap.size, 2, none⟩ = some (.string ⟨#[]⟩) := by simp [World.cell?, hr]
        have qz : ∀ j, wr.frozen? ⟨w.heap.size, j, none⟩ = false := fun j => by simp [World.frozen?, hr]
        clear hb hr hcell hc0 hv hown hgc htk hro
        generalize hLk : L[k] = b at c0 c1 c2 c3
        have HL : Hid (L[k] = b) := hLk
        clear hLk
        go_wp2
        · have he : (b.1.toList == x.toList) = true := by assumption
          have hget : getF L x = some b.2 := by rw [← HL.out]; exact getF_at L x k hlt HN.out (by rw [HL.out]; exact str_eq he)
          have hs3 := set3 HB.out.2 (.int .i64 b.2.k) (.int .i64 b.2.n) (.string b.2.s)
          have hz3 := size_set3 wr w.heap.size (.int .i64 b.2.k) (.int .i64 b.2.n) (.string b.2.s)
          have hb3 : Below w.heap.size w (((wr.setCell ⟨w.heap.size, 0, none⟩ (.int .i64 b.2.k)).setCell ⟨w.heap.size, 1, none⟩ (.int .i64 b.2.n)).setCell ⟨w.heap.size, 2, none⟩ (.string b.2.s)) := ((HB.out.1.setCell (Nat.le_refl _) _).setCell (Nat.le_refl _) _).setCell (Nat.le_refl _) _
          generalize ((wr.setCell ⟨w.heap.size, 0, none⟩ (.int .i64 b.2.k)).setCell ⟨w.heap.size, 1, none⟩ (.int .i64 b.2.n)).setCell ⟨w.heap.size, 2, none⟩ (.string b.2.s) = W3 at hs3 hz3 hb3 ⊢
          have hs4 : ∀ o, (W3.alloc o).heap[w.heap.size]? = some (.cells #[.int .i64 b.2.k, .int .i64 b.2.n, .string b.2.s] 25 (0, 0)) := fun o => (Below.heap_alloc _ _ _ (by omega)).trans hs3
          have z0 : ∀ o, (W3.alloc o).cell? ⟨w.heap.size, 0, none⟩ = some (.int .i64 b.2.k) := fun o => cell_at (hs4 o) 0
          have z1 : ∀ o, (W3.alloc o).cell? ⟨w.heap.size, 1, none⟩ = some (.int .i64 b.2.n) := fun o => cell_at (hs4 o) 1
          have z2 : ∀ o, (W3.alloc o).cell? ⟨w.heap.size, 2, none⟩ = some (.string b.2.s) := fun o => cell_at (hs4 o) 2
          exact bodyPost_ret (v := .tuple #[.agg #[.int .i64 b.2.k, .int .i64 b.2.n, .string b.2.s], .bool true]) (by simp [results, Try.results10, go_sem, z0, z1, z2]) rfl ⟨by rw [hget]; rfl, hb3.alloc (by omega) _⟩
        · have he : (b.1.toList == x.toList) = false := by assumption
          go_roundw
          case rel =>
            refine ⟨k + 1, by omega, by go_num, HB.out.1.alloc (by omega) _, (Below.heap_alloc _ _ _ hbig).trans HB.out.2, fun j hj h1 => ?_⟩
            by_cases e : j = k
            · subst e; rw [HL.out]; exact str_ne he
            · exact HN.out j hj (by omega)
          case measure => simp [intOf]; omega
      · have hget : getF L x = none := getF_none L x (fun j hj => HN.out j hj (by omega))
        have HG : Hid (getF L x = none) := hget
        have q0 : wr.cell? ⟨w.heap.size, 0, none⟩ = some (.int .i64 0) := by simp [World.cell?, hr]
        have q1 : wr.cell? ⟨w.heap.size, 1, none⟩ = some (.int .i64 0) := by simp [World.cell?, hr]
        have q2 : wr.cell? ⟨w.heap.size, 2, none⟩ = some (.string ⟨#[]⟩) := by simp [World.cell?, hr]
        have qz : ∀ j, wr.frozen? ⟨w.heap.size, j, none⟩ = false := fun j => by simp [World.frozen?, hr]
        have HR : Hid (wr.heap[w.heap.size]? = some (.cells #[.int .i64 0, .int .i64 0, .string ⟨#[]⟩] 25 (0, 0))) := hr
        clear hget hr
        go_wp2
        have hs3 := set3 HR.out (.int .i64 0) (.int .i64 0) (.string ⟨#[]⟩)
        have hb3 : Below w.heap.size w (((wr.setCell ⟨w.heap.size, 0, none⟩ (.int .i64 0)).setCell ⟨w.heap.size, 1, none⟩ (.int .i64 0)).setCell ⟨w.heap.size, 2, none⟩ (.string ⟨#[]⟩)) := ((hb.setCell (Nat.le_refl _) _).setCell (Nat.le_refl _) _).setCell (Nat.le_refl _) _
        generalize ((wr.setCell ⟨w.heap.size, 0, none⟩ (.int .i64 0)).setCell ⟨w.heap.size, 1, none⟩ (.int .i64 0)).setCell ⟨w.heap.size, 2, none⟩ (.string ⟨#[]⟩) = W3 at hs3 hb3 ⊢
        have z0 : W3.cell? ⟨w.heap.size, 0, none⟩ = some (.int .i64 0) := cell_at hs3 0
        have z1 : W3.cell? ⟨w.heap.size, 1, none⟩ = some (.int .i64 0) := cell_at hs3 1
        have z2 : W3.cell? ⟨w.heap.size, 2, none⟩ = some (.string ⟨#[]⟩) := cell_at hs3 2
        exact bodyPost_ret (v := .tuple #[.agg #[.int .i64 0, .int .i64 0, .string ⟨#[]⟩], .bool false]) (by simp [results, Try.results10, go_sem, z0, z1, z2]) rfl ⟨by rw [HG.out]; rfl, hb3⟩

end Go.Proofs.Qxb6630528a
