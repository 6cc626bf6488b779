/-
  Seat b6630528a. The contract of Bind (8).
-/
import Derived.Test.Qxb6630528aEnv
import Derived.RegionTactic
namespace Go.Proofs.Qxb6630528a
open Go.RowKit

/-- w' IS w BUT FOR THE Env IN BLOCK E, ITS ROWS, AND NEW BLOCKS; below B nothing has turned. -/
structure Kp (B E : Nat) (w w' : World) : Prop where
  below : Below B w w'
  kept : ∀ i c t m, w.heap[i]? = some (.cells c t m) → t ≠ 46 → i ≠ E → w'.heap[i]? = w.heap[i]?

theorem Kp.of_below {B E : Nat} {w w' : World} (h : Below w.heap.size w w') (hB : B ≤ w.heap.size) : Kp B E w w' :=
  ⟨h.mono hB, fun i _ _ _ hi _ _ => h.block i (Array.getElem?_eq_some_iff.1 hi).1⟩

theorem Kp.trans {B E : Nat} {a b c : World} (h : Kp B E a b) (k : Kp B E b c) : Kp B E a c :=
  ⟨h.below.trans k.below, fun i cs t m hi ht he => (k.kept i cs t m ((h.kept i cs t m hi ht he).trans hi) ht he).trans (h.kept i cs t m hi ht he)⟩

theorem Try.info46 : (Try.prog.info? 46).map (fun i => (i.zero, i.size, i.bytes)) = some (some (.agg #[.string ⟨#[]⟩, .int .i64 0, .int .i64 0, .string ⟨#[]⟩]), 4, 48) := by kernel_rfl

/-- 'append(bindings, binding{})', the shape of what comes back written out. -/
theorem wpList_append_env {ops : Array Oper} {rest : List Oper} {o : Oper} {a : Act} {Q : Exit → Act → World → Prop} (w : World) (hgd : o.guard = none) (s x : Operand)
    (ho : o.op = .call { callee := .builtin .append, args := #[s, x], argTypes := #[28, 28] }) (B : Nat) (v : Value) (n : Nat) (xs : List Value) (hs : a.eval s = v) (hown : w.ownsRow B 46 4 v n xs)
    (ad : Addr) (news : List Value) (hx : a.eval x = .slice (some ad) 1 1) (hl : news.length = 1 * 4) (hnews : ∀ j u, news[j]? = some u → w.cell? (ad.add j) = some u) (h1 : ∀ u ∈ news, u.oneCell' = true)
    (hn : n ≤ 100) (hbase : B ≤ w.heap.size)
    (h : ∀ g cap w', w'.ownsRow B 46 4 (.slice (some ⟨g, 0, none⟩) (n + 1) cap) (n + 1) (xs ++ news) → w.grownBy w' v.ownBlock → wpList Try.prog ops Q rest (a.put o.dst (.slice (some ⟨g, 0, none⟩) (n + 1) cap)) w') : wpList Try.prog ops Q (o :: rest) a w := by
  obtain ⟨i0, hi, hz0, hz1, hz2⟩ := info_parts Try.info46
  refine wpList_append_own w hgd s x 28 ho B 46 i0 _ 4 48 Try.underlying28 hi hz0 hz1 hz2 rfl (by decide) v n xs hs hown ad 1 1 news hx hl hnews h1 (by unfold maxLen; omega) (by omega) hbase ?_
  intro v' w' hown' hg _
  rcases hown'.2 with ⟨_, hn0⟩ | ⟨g, cap, cur, hv, _⟩
  · omega
  · subst hv
    exact h g cap w' hown' hg

theorem oneCells (x : ByteArray) (k n : Int) (s : ByteArray) : ∀ u ∈ cellsB (x, ⟨k, n, s⟩), u.oneCell' = true := by
  intro u hu
  simp only [cellsB, List.mem_cons, List.not_mem_nil, or_false] at hu
  rcases hu with rfl | rfl | rfl | rfl <;> rfl

theorem new_cells (w : World) (l : List Value) (t : TypeId) : ∀ j u, l[j]? = some u → (w.alloc (.cells l.toArray t)).cell? ((⟨w.heap.size, 0, none⟩ : Addr).add j) = some u := by
  intro j u hj
  have hadd : (⟨w.heap.size, 0, none⟩ : Addr).add j = ⟨w.heap.size, j, none⟩ := by unfold Addr.add; split <;> simp_all
  rw [hadd, cell_at (MapKept.heap_alloc w _).1]
  simpa using hj

theorem frozen_at {w : World} {q : Nat} {cs : Array Value} {t : TypeId} (h : w.heap[q]? = some (.cells cs t (0, 0))) (o : Nat) : w.frozen? ⟨q, o, none⟩ = false := by
  simp [World.frozen?, h]

/-- What the append leaves as it was: the Env's own block, and the boxed Value. -/
theorem after_append {w w2 : World} {B E n : Nat} {v : Value} {xs : List Value} {o1 o2 : Obj} (hv : w.heap[E]? = some (.cells #[v] 30 (0, 0))) (hown : w.ownsRow B 46 4 v n xs) (hg : ((w.alloc o1).alloc o2).grownBy w2 v.ownBlock) :
    w2.heap[E]? = some (.cells #[v] 30 (0, 0)) ∧ w2.heap[w.heap.size]? = some o1 ∧ w.heap.size + 2 ≤ w2.heap.size := by
  have hElt := (Array.getElem?_eq_some_iff.1 hv).1
  have s1 : (w.alloc o1).heap.size = w.heap.size + 1 := by simp
  have s2 : ((w.alloc o1).alloc o2).heap.size = w.heap.size + 2 := by simp
  have hne : v.ownBlock ≠ some E := fun e => by
    rcases hown.2 with ⟨rfl, _⟩ | ⟨g, cap, cur, rfl, _, hgc, _⟩
    · simp [Value.ownBlock] at e
    · simp [Value.ownBlock] at e
      subst e
      rw [hv] at hgc
      simp at hgc
  have hne2 : v.ownBlock ≠ some w.heap.size := fun e => by
    have := (hown.lt _ e).2
    omega
  refine ⟨?_, ?_, ?_⟩
  · rw [hg.block E (by omega) (fun e => hne e.symm), Below.heap_alloc _ _ _ (by omega), Below.heap_alloc _ _ _ hElt]
    exact hv
  · rw [hg.block w.heap.size (by omega) (fun e => hne2 e.symm), Below.heap_alloc _ _ _ (by omega)]
    exact (MapKept.heap_alloc w _).1
  · have := hg.size
    omega

/-- .. and the store of the new slice into the Env. -/
theorem after_store {w w2 : World} {B E n cap g : Nat} {v : Value} {xs ys : List Value} {bx : Array Value} {o2 : Obj} (hv : w.heap[E]? = some (.cells #[v] 30 (0, 0))) (hown : w.ownsRow B 46 4 v n xs) (hB : B ≤ E)
    (hown2 : w2.ownsRow B 46 4 (.slice (some ⟨g, 0, none⟩) (n + 1) cap) (n + 1) ys) (hg : ((w.alloc (.cells bx 25)).alloc o2).grownBy w2 v.ownBlock)
    (F : w2.heap[E]? = some (.cells #[v] 30 (0, 0)) ∧ w2.heap[w.heap.size]? = some (.cells bx 25) ∧ w.heap.size + 2 ≤ w2.heap.size) :
    (w2.setCell ⟨E, 0, none⟩ (.slice (some ⟨g, 0, none⟩) (n + 1) cap)).heap[E]? = some (.cells #[.slice (some ⟨g, 0, none⟩) (n + 1) cap] 30 (0, 0)) ∧
    (w2.setCell ⟨E, 0, none⟩ (.slice (some ⟨g, 0, none⟩) (n + 1) cap)).ownsRow B 46 4 (.slice (some ⟨g, 0, none⟩) (n + 1) cap) (n + 1) ys ∧
    (w2.setCell ⟨E, 0, none⟩ (.slice (some ⟨g, 0, none⟩) (n + 1) cap)).heap[w.heap.size]? = some (.cells bx 25 (0, 0)) ∧ g ≠ E ∧ g ≠ w.heap.size ∧
    Kp B E w (w2.setCell ⟨E, 0, none⟩ (.slice (some ⟨g, 0, none⟩) (n + 1) cap)) := by
  obtain ⟨f1, f2, f3⟩ := F
  have hElt := (Array.getElem?_eq_some_iff.1 hv).1
  have hgc : ∃ cur, w2.heap[g]? = some (.cells cur 46 (0, 0)) := by
    rcases hown2.2 with ⟨h, _⟩ | ⟨g', cap', cur, h, _, hgc, _⟩
    · simp at h
    · simp only [Value.slice.injEq, Option.some.injEq, Addr.mk.injEq, and_true, true_and] at h
      obtain ⟨rfl, rfl⟩ := h
      exact ⟨cur, hgc⟩
  obtain ⟨cur, hgc⟩ := hgc
  have hgE : g ≠ E := fun e => by subst e; rw [f1] at hgc; simp at hgc
  have hgb : g ≠ w.heap.size := fun e => by subst e; rw [f2] at hgc; simp at hgc
  have old : ∀ i, i ≠ E → (w2.setCell ⟨E, 0, none⟩ (.slice (some ⟨g, 0, none⟩) (n + 1) cap)).heap[i]? = w2.heap[i]? := fun i hi => Below.heap_setCell _ _ _ _ hi
  have hkw : Kp B E w w2 := by
    refine ⟨(((Below.refl B w).alloc (by omega) _).alloc (by simp; omega) _).grown hg (by simp; omega) (fun j hj => (hown.lt j hj).1), fun i c t m hi ht _ => ?_⟩
    have hil := (Array.getElem?_eq_some_iff.1 hi).1
    have hne : some i ≠ v.ownBlock := fun e => by
      rcases hown.2 with ⟨rfl, _⟩ | ⟨g', cap', cur', rfl, _, hgc', _⟩
      · simp [Value.ownBlock] at e
      · simp [Value.ownBlock] at e
        subst e
        rw [hi] at hgc'
        simp at hgc'
        exact ht hgc'.2.1
    rw [hg.block i (by simp; omega) hne, Below.heap_alloc _ _ _ (by simp; omega), Below.heap_alloc _ _ _ hil]
  refine ⟨?_, ?_, (old _ (by omega)).trans f2, hgE, hgb, ⟨hkw.below.setCell hB _, fun i c t m hi ht hne => (old i hne).trans (hkw.kept i c t m hi ht hne)⟩⟩
  · simp [World.setCell, Array.getElem?_modify, f1]
  · refine ⟨hown2.1, ?_⟩
    rcases hown2.2 with ⟨h, _⟩ | ⟨g', cap', cur, h, hb, hgc, r⟩
    · simp at h
    · simp only [Value.slice.injEq, Option.some.injEq, Addr.mk.injEq, and_true, true_and] at h
      obtain ⟨rfl, rfl⟩ := h
      exact Or.inr ⟨_, _, cur, rfl, hb, (old _ hgE).trans hgc, r⟩

theorem row_last {w : World} {B g cap : Nat} {L : List Bd} {b : Bd} (h : w.ownsRow B 46 4 (.slice (some ⟨g, 0, none⟩) (L.length + 1) cap) (L.length + 1) (rowOf L ++ cellsB b)) :
    ∃ cur : Array Value, w.heap[g]? = some (.cells cur 46 (0, 0)) ∧ cur[L.length * 4]? = some (.string b.1) ∧ cur[L.length * 4 + 1]? = some (.int .i64 b.2.k) ∧ cur[L.length * 4 + 1 + 1]? = some (.int .i64 b.2.n) ∧ cur[L.length * 4 + 1 + 1 + 1]? = some (.string b.2.s) := by
  rcases h.2 with ⟨h', _⟩ | ⟨g', cap', cur, h', _, hgc, _, _, _, _⟩
  · simp at h'
  · simp only [Value.slice.injEq, Option.some.injEq, Addr.mk.injEq, and_true, true_and] at h'
    obtain ⟨rfl, rfl⟩ := h'
    have hat : ∀ i, i < 4 → cur[L.length * 4 + i]? = (cellsB b)[i]? := fun i hi => by
      have := h.cellAt (L.length * 4 + i) (by omega)
      rw [cell_at hgc] at this
      rw [this, List.getElem?_append_right (by rw [rowOf_length]; omega), rowOf_length]
      congr 1
      omega
    exact ⟨cur, hgc, hat 0 (by omega), hat 1 (by omega), hat 2 (by omega), hat 3 (by omega)⟩

theorem set_at (a l : List Value) (i : Nat) (v : Value) : (a ++ l).set (a.length + i) v = a ++ l.set i v := by
  rw [List.set_append_right _ _ (by omega)]
  congr 2
  omega

theorem set_four (a tl : List Value) (b : Bd) (x : ByteArray) (k n : Int) (s : ByteArray) :
    List.take (a.length + 4) (((((a ++ (cellsB b ++ tl)).set a.length (.string x)).set (a.length + 1) (.int .i64 k)).set (a.length + 1 + 1) (.int .i64 n)).set (a.length + 1 + 2) (.string s)) = a ++ [.string x, .int .i64 k, .int .i64 n, .string s] := by
  have h0 := set_at a (cellsB b ++ tl) 0 (.string x)
  rw [Nat.add_zero] at h0
  have e1 : a.length + 1 + 1 = a.length + 2 := rfl
  have e2 : a.length + 1 + 2 = a.length + 3 := rfl
  rw [h0, set_at, e1, set_at, e2, set_at, List.take_length_add_append]
  rfl

/-- .. and the two stores into the new binding. -/
theorem after_four {w W3 W4 : World} {B E g cap nq : Nat} {L : List Bd} {b : Bd} (hE : W3.heap[E]? = some (.cells #[.slice (some ⟨g, 0, none⟩) (L.length + 1) cap] 30 (0, 0)))
    (hown : W3.ownsRow B 46 4 (.slice (some ⟨g, 0, none⟩) (L.length + 1) cap) (L.length + 1) (rowOf L ++ cellsB b)) (hkp : Kp B E w W3) (hgE : g ≠ E) (hW : W3.drewN nq = W4) (x : ByteArray) (k n : Int) (s : ByteArray) :
    EnvIs ((((W4.setCell ⟨g, L.length * 4, none⟩ (.string x)).setCell ⟨g, L.length * 4 + 1, none⟩ (.int .i64 k)).setCell ⟨g, L.length * 4 + 1 + 1, none⟩ (.int .i64 n)).setCell ⟨g, L.length * 4 + 1 + 2, none⟩ (.string s)).drew B E (L ++ [(x, ⟨k, n, s⟩)]) ∧
    Kp B E w ((((W4.setCell ⟨g, L.length * 4, none⟩ (.string x)).setCell ⟨g, L.length * 4 + 1, none⟩ (.int .i64 k)).setCell ⟨g, L.length * 4 + 1 + 1, none⟩ (.int .i64 n)).setCell ⟨g, L.length * 4 + 1 + 2, none⟩ (.string s)).drew := by
  subst hW
  rcases hown.2 with ⟨h', _⟩ | ⟨g', cap', cur, h', hBg, hgc, hn, hm, hsz, htk⟩
  · simp at h'
  · simp only [Value.slice.injEq, Option.some.injEq, Addr.mk.injEq, and_true, true_and] at h'
    obtain ⟨rfl, rfl⟩ := h'
    have old : ∀ i, i ≠ g → ((((((W3.drewN nq).setCell ⟨g, L.length * 4, none⟩ (.string x)).setCell ⟨g, L.length * 4 + 1, none⟩ (.int .i64 k)).setCell ⟨g, L.length * 4 + 1 + 1, none⟩ (.int .i64 n)).setCell ⟨g, L.length * 4 + 1 + 2, none⟩ (.string s)).drew).heap[i]? = W3.heap[i]? := fun i hi => by
      show (((((W3.drewN nq).setCell ⟨g, L.length * 4, none⟩ (.string x)).setCell ⟨g, L.length * 4 + 1, none⟩ (.int .i64 k)).setCell ⟨g, L.length * 4 + 1 + 1, none⟩ (.int .i64 n)).setCell ⟨g, L.length * 4 + 1 + 2, none⟩ (.string s)).heap[i]? = _
      rw [Below.heap_setCell _ _ _ _ hi, Below.heap_setCell _ _ _ _ hi, Below.heap_setCell _ _ _ _ hi, Below.heap_setCell _ _ _ _ hi]
      rfl
    have hnew : ((((((W3.drewN nq).setCell ⟨g, L.length * 4, none⟩ (.string x)).setCell ⟨g, L.length * 4 + 1, none⟩ (.int .i64 k)).setCell ⟨g, L.length * 4 + 1 + 1, none⟩ (.int .i64 n)).setCell ⟨g, L.length * 4 + 1 + 2, none⟩ (.string s)).drew).heap[g]? =
        some (.cells ((((cur.setIfInBounds (L.length * 4) (.string x)).setIfInBounds (L.length * 4 + 1) (.int .i64 k)).setIfInBounds (L.length * 4 + 1 + 1) (.int .i64 n)).setIfInBounds (L.length * 4 + 1 + 2) (.string s)) 46 (0, 0)) := by
      show (((((W3.drewN nq).setCell ⟨g, L.length * 4, none⟩ (.string x)).setCell ⟨g, L.length * 4 + 1, none⟩ (.int .i64 k)).setCell ⟨g, L.length * 4 + 1 + 1, none⟩ (.int .i64 n)).setCell ⟨g, L.length * 4 + 1 + 2, none⟩ (.string s)).heap[g]? = _
      simp [World.setCell, Array.getElem?_modify, hgc]
    have hrow : ((((cur.setIfInBounds (L.length * 4) (.string x)).setIfInBounds (L.length * 4 + 1) (.int .i64 k)).setIfInBounds (L.length * 4 + 1 + 1) (.int .i64 n)).setIfInBounds (L.length * 4 + 1 + 2) (.string s)).toList.take ((L.length + 1) * 4) = rowOf (L ++ [(x, ⟨k, n, s⟩)]) := by
      have e1 : rowOf (L ++ [(x, ⟨k, n, s⟩)]) = rowOf L ++ [.string x, .int .i64 k, .int .i64 n, .string s] := by simp [rowOf, cellsB]
      have e2 : cur.toList = rowOf L ++ (cellsB b ++ cur.toList.drop ((L.length + 1) * 4)) := by
        rw [← List.append_assoc, ← htk, List.take_append_drop]
      have e3 := rowOf_length L
      rw [e1]
      simp only [Array.toList_setIfInBounds]
      rw [e2]
      generalize cur.toList.drop ((L.length + 1) * 4) = tl
      generalize rowOf L = a at e3 ⊢
      rw [← e3]
      have e4 : (L.length + 1) * 4 = a.length + 4 := by omega
      rw [e4]
      exact set_four a tl b x k n s
    refine ⟨⟨_, (old E (fun e => hgE e.symm)).trans hE, ?_⟩, ⟨?_, fun i c t m hi ht hne => ?_⟩⟩
    · have hl : (L ++ [(x, (⟨k, n, s⟩ : Vl))]).length = L.length + 1 := by simp
      rw [hl]
      refine ⟨by rw [rowOf_length, hl], Or.inr ⟨g, cap, _, rfl, hBg, hnew, hn, hm, by simpa using hsz, hrow⟩⟩
    · have hb := (((hkp.below.setCell (p := ⟨g, L.length * 4, none⟩) hBg (.string x)).setCell (p := ⟨g, L.length * 4 + 1, none⟩) hBg (.int .i64 k)).setCell (p := ⟨g, L.length * 4 + 1 + 1, none⟩) hBg (.int .i64 n)).setCell (p := ⟨g, L.length * 4 + 1 + 2, none⟩) hBg (.string s)
      exact ⟨hb.os, hb.tape, hb.output, hb.size, hb.block⟩
    · have h3 := hkp.kept i c t m hi ht hne
      have hig : i ≠ g := fun e => by
        subst e
        rw [hgc] at h3
        rw [hi] at h3
        simp at h3
        exact ht h3.2.1.symm
      exact (old i hig).trans h3

set_option maxHeartbeats 800000 in
theorem bind_any (B E : Nat) (x : ByteArray) (k n : Int) (s : ByteArray) (L : List Bd) (w : World) (hE : EnvIs w B E L) (hL : L.length ≤ 100) (hB : B ≤ E) :
    Calls Try.prog 8 #[.pointer (some ⟨E, 0, none⟩), .string x, .agg #[.int .i64 k, .int .i64 n, .string s]] w fun e w' =>
      e = .returned (.tuple #[]) ∧ EnvIs w' B E (L ++ [(x, ⟨k, n, s⟩)]) ∧ Kp B E w w' := by
  obtain ⟨v, hv, hown⟩ := hE
  have hElt := (Array.getElem?_eq_some_iff.1 hv).1
  have hvo : ∀ o, (w.alloc o).heap[E]? = some (.cells #[v] 30 (0, 0)) := fun o => (Below.heap_alloc _ _ _ hElt).trans hv
  have hc0 : ∀ o, (w.alloc o).cell? ⟨E, 0, none⟩ = some v := fun o => cell_at (hvo o) 0
  go_enter Try.func8, Try.ntmps8
  go_wp2_with (at_builtin; refine wpList_append_env _ rfl _ _ rfl B v L.length (rowOf L) rfl ((hown.alloc _).alloc _) ⟨w.heap.size + 1, 0, none⟩ (cellsB (⟨#[]⟩, z0)) rfl rfl ?qc (oneCells _ _ _ _) hL ?qb ?_; rotate_right; intro g cap w2 hown2 hgrow2; have F2 := after_append hv hown hgrow2; have e0 := cell_at F2.1 0; have ez := frozen_at F2.1 0)
  · clear hc0 hvo e0 ez
    have F3 := after_store hv hown hB hown2 hgrow2 F2
    generalize w2.setCell ⟨E, 0, none⟩ (Value.slice (some ⟨g, 0, none⟩) (L.length + 1) cap) = W3 at F3 ⊢
    obtain ⟨hE3, hown3, hbox3, hgE, hgb, hkp⟩ := F3
    clear hown2 hgrow2 F2 hv hown
    have e3 := cell_at hE3 0
    have hi := idx46 (g := g) (cap := cap) (Nat.lt_succ_self L.length)
    have HH : Hid (W3.heap[E]? = some (.cells #[.slice (some ⟨g, 0, none⟩) (L.length + 1) cap] 30 (0, 0)) ∧ W3.ownsRow B 46 4 (.slice (some ⟨g, 0, none⟩) (L.length + 1) cap) (L.length + 1) (rowOf L ++ cellsB (⟨#[]⟩, z0)) ∧ W3.heap[w.heap.size]? = some (.cells #[.int .i64 k, .int .i64 n, .string s] 25 (0, 0)) ∧ Kp B E w W3) := ⟨hE3, hown3, hbox3, hkp⟩
    clear hE3 hown3 hbox3 hkp
    have e3' : W3.cell? ⟨E, 0, none⟩ = some (.slice (some ⟨g, 0, none⟩) (L.length + 1) cap) := e3
    clear e3
    go_quiet (fail)
    go_wp2
    generalize hW : W3.drewN nq = W4
    have H4 : W4.heap = W3.heap := by rw [← hW]; rfl
    have HW : Hid (W3.drewN nq = W4) := hW
    clear hW e3' hi
    have b4 : W4.heap[w.heap.size]? = some (.cells #[.int .i64 k, .int .i64 n, .string s] 25 (0, 0)) := by rw [H4]; exact HH.out.2.2.1
    have b0 : W4.cell? ⟨w.heap.size, 0, none⟩ = some (.int .i64 k) := cell_at b4 0
    have b1 : W4.cell? ⟨w.heap.size, 1, none⟩ = some (.int .i64 n) := cell_at b4 1
    have b2 : W4.cell? ⟨w.heap.size, 2, none⟩ = some (.string s) := cell_at b4 2
    have G4 := row_last HH.out.2.1
    obtain ⟨cur, hcur, gz0, gz1, gz2, gz3⟩ := G4
    have g4 : W4.heap[g]? = some (.cells cur 46 (0, 0)) := by rw [H4]; exact hcur
    have g0 : W4.cell? ⟨g, L.length * 4, none⟩ = some (.string ⟨#[]⟩) := (cell_at g4 _).trans gz0
    have g1 : W4.cell? ⟨g, L.length * 4 + 1, none⟩ = some (.int .i64 0) := (cell_at g4 _).trans gz1
    have g2 : W4.cell? ⟨g, L.length * 4 + 1 + 1, none⟩ = some (.int .i64 0) := (cell_at g4 _).trans gz2
    have g3 : W4.cell? ⟨g, L.length * 4 + 1 + 1 + 1, none⟩ = some (.string ⟨#[]⟩) := (cell_at g4 _).trans gz3
    have gf : ∀ j, W4.frozen? ⟨g, j, none⟩ = false := frozen_at g4
    have HG : Hid (W4.heap = W3.heap ∧ W4.heap[g]? = some (.cells cur 46 (0, 0))) := ⟨H4, g4⟩
    clear H4 b4 g4 hcur gz0 gz1 gz2 gz3
    go_region
    go_wp2
    go_end0
    exact ⟨rfl, after_four HH.out.1 HH.out.2.1 HH.out.2.2.2 hgE HW.out x k n s⟩
  · have h := new_cells (w.alloc (Obj.cells #[Value.int IntKind.i64 k, Value.int IntKind.i64 n, Value.string s] 25)) (cellsB (⟨#[]⟩, z0)) 46
    simp only [World.size_alloc] at h
    exact h
  · simp
    omega

end Go.Proofs.Qxb6630528a
