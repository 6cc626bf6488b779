/-
  Seat b6629240a. Plain: last places ('lastOf', 'lcount', 'countL'), and the count of what the second list adds ('ncount').
-/
import Derived.Test.Qxb6629240aLay
namespace Go.Proofs.Qxb6629240a

/-- The last place below k that holds s. -/
def lastOf (P : Nat → ByteArray) : Nat → ByteArray → Option Nat
  | 0, _ => none
  | k + 1, s => if s = P k then some k else lastOf P k s

theorem lastOf_none {P : Nat → ByteArray} {s : ByteArray} : ∀ {k : Nat}, (∀ j, j < k → P j ≠ s) → lastOf P k s = none
  | 0, _ => rfl
  | k + 1, h => by
    show (if s = P k then some k else lastOf P k s) = none
    rw [if_neg (fun e => h k (by omega) e.symm)]
    exact lastOf_none (fun j hj => h j (by omega))

theorem lastOf_some {P : Nat → ByteArray} {s : ByteArray} {l : Nat} (hs : P l = s) : ∀ {k : Nat}, l < k → (∀ j, l < j → j < k → P j ≠ s) → lastOf P k s = some l
  | 0, h, _ => absurd h (Nat.not_lt_zero _)
  | k + 1, h, hm => by
    show (if s = P k then some k else lastOf P k s) = some l
    by_cases e : l = k
    · subst e
      rw [if_pos hs.symm]
    · rw [if_neg (fun e' => hm k (by omega) (by omega) e'.symm)]
      exact lastOf_some hs (by omega) (fun j h1 h2 => hm j h1 (by omega))

theorem lastOf_spec {P : Nat → ByteArray} {s : ByteArray} {l : Nat} : ∀ {k : Nat}, lastOf P k s = some l → l < k ∧ P l = s ∧ ∀ j, l < j → j < k → P j ≠ s
  | 0, h => by cases h
  | k + 1, h => by
    have h' : (if s = P k then some k else lastOf P k s) = some l := h
    by_cases e : s = P k
    · rw [if_pos e] at h'
      cases h'
      exact ⟨by omega, e.symm, fun j h1 h2 => by omega⟩
    · rw [if_neg e] at h'
      obtain ⟨h1, h2, h3⟩ := lastOf_spec h'
      refine ⟨by omega, h2, fun j hj hk => ?_⟩
      by_cases e2 : j = k
      · subst e2; exact fun e3 => e e3.symm
      · exact h3 j hj (by omega)

theorem lastOf_not {P : Nat → ByteArray} {s : ByteArray} : ∀ {k : Nat}, lastOf P k s = none → ∀ j, j < k → P j ≠ s
  | 0, _, _, hj => absurd hj (Nat.not_lt_zero _)
  | k + 1, h, j, hj => by
    have h' : (if s = P k then some k else lastOf P k s) = none := h
    by_cases e : s = P k
    · rw [if_pos e] at h'; cases h'
    · rw [if_neg e] at h'
      by_cases e2 : j = k
      · subst e2; exact fun e3 => e e3.symm
      · exact lastOf_not h' j (by omega)

theorem IsLast.of {P : Nat → ByteArray} {n i l : Nat} (h : IsLast P n i l) : lastOf P n (P i) = some l := lastOf_some h.same h.lt h.most

theorem hasB_last {P : Nat → ByteArray} {n : Nat} {s : ByteArray} : hasB P n s = (lastOf P n s).isSome := by
  cases h : lastOf P n s with
  | none => exact hasB_false (lastOf_not h)
  | some l => exact hasB_true (lastOf_spec h).1 (lastOf_spec h).2.1

/-- How many places below k hold what no place before them holds (told by 'lastOf'). -/
def lcount (P : Nat → ByteArray) : Nat → Nat
  | 0 => 0
  | k + 1 => if (lastOf P k (P k)).isSome then lcount P k else lcount P k + 1

/-- How many places below k hold what no place behind them, below n, holds. -/
def countL (P : Nat → ByteArray) (n : Nat) : Nat → Nat
  | 0 => 0
  | k + 1 => countL P n k + if lastOf P n (P k) = some k then 1 else 0

theorem IsLast.count_same {P : Nat → ByteArray} {n i : Nat} (h : IsLast P n i i) : countL P n (i + 1) = countL P n i + 1 := by
  show countL P n i + (if lastOf P n (P i) = some i then 1 else 0) = _
  rw [h.of, if_pos rfl]

theorem IsLast.count_other {P : Nat → ByteArray} {n i l : Nat} (h : IsLast P n i l) (hne : l ≠ i) : countL P n (i + 1) = countL P n i := by
  show countL P n i + (if lastOf P n (P i) = some i then 1 else 0) = _
  rw [h.of, if_neg (fun e => hne (by cases e; rfl))]
  rfl

theorem countL_le (P : Nat → ByteArray) (n : Nat) : ∀ k, countL P n k ≤ k
  | 0 => Nat.le_refl _
  | k + 1 => by
    have := countL_le P n k
    unfold countL
    split <;> omega

theorem lcount_le (P : Nat → ByteArray) : ∀ k, lcount P k ≤ k
  | 0 => Nat.le_refl _
  | k + 1 => by
    have := lcount_le P k
    unfold lcount
    split <;> omega

theorem countL_new {P : Nat → ByteArray} {n : Nat} (h : ∀ j, j < n → P j ≠ P n) : ∀ k, k ≤ n → countL P (n + 1) k = countL P n k
  | 0, _ => rfl
  | k + 1, hk => by
    show countL P (n + 1) k + (if lastOf P (n + 1) (P k) = some k then 1 else 0) = countL P n k + (if lastOf P n (P k) = some k then 1 else 0)
    have e : lastOf P (n + 1) (P k) = lastOf P n (P k) := by
      show (if P k = P n then some n else lastOf P n (P k)) = _
      rw [if_neg (h k (by omega))]
    rw [e, countL_new h k (by omega)]

theorem countL_old {P : Nat → ByteArray} {n l : Nat} (hl : l < n) (hs : P l = P n) (hm : ∀ j, l < j → j < n → P j ≠ P n) : ∀ k, k ≤ n → countL P n k = countL P (n + 1) k + if l < k then 1 else 0
  | 0, _ => by simp [countL]
  | k + 1, hk => by
    have ih := countL_old hl hs hm k (by omega)
    show countL P n k + (if lastOf P n (P k) = some k then 1 else 0) = countL P (n + 1) k + (if lastOf P (n + 1) (P k) = some k then 1 else 0) + (if l < k + 1 then 1 else 0)
    have e1 : lastOf P (n + 1) (P k) = if P k = P n then some n else lastOf P n (P k) := rfl
    by_cases e : k = l
    · subst e
      have e2 : lastOf P n (P k) = some k := lastOf_some rfl hl (fun j h1 h2 => by rw [hs]; exact hm j h1 h2)
      rw [e1, if_pos hs, e2, if_pos rfl, if_neg (fun e => by cases e; omega), if_pos (by omega), ih, if_neg (by omega)]
    · have e3 : (if l < k + 1 then 1 else 0) = (if l < k then 1 else 0) := by
        by_cases h : l < k
        · rw [if_pos h, if_pos (by omega)]
        · rw [if_neg h, if_neg (by omega)]
      have e4 : (if lastOf P (n + 1) (P k) = some k then 1 else 0) = (if lastOf P n (P k) = some k then 1 else 0) := by
        rw [e1]
        by_cases h : P k = P n
        · rw [if_pos h]
          have : lastOf P n (P k) = some l := lastOf_some (by rw [hs, h]) hl (fun j h1 h2 => by rw [h]; exact hm j h1 h2)
          rw [this, if_neg (fun e => by cases e; omega), if_neg (fun e' => e (by cases e'; rfl))]
        · rw [if_neg h]
      rw [e3, e4, ih]
      omega

/-- LAST PLACES AND FIRST PLACES ARE AS MANY. -/
theorem countL_all (P : Nat → ByteArray) : ∀ n, countL P n n = lcount P n
  | 0 => rfl
  | n + 1 => by
    have ih := countL_all P n
    have e1 : lastOf P (n + 1) (P n) = some n := by
      show (if P n = P n then some n else lastOf P n (P n)) = _
      rw [if_pos rfl]
    show countL P (n + 1) n + (if lastOf P (n + 1) (P n) = some n then 1 else 0) = if (lastOf P n (P n)).isSome then lcount P n else lcount P n + 1
    rw [e1, if_pos rfl]
    cases h : lastOf P n (P n) with
    | none =>
      rw [countL_new (fun j hj => lastOf_not h j hj) n (Nat.le_refl _), ih]
      rfl
    | some l =>
      obtain ⟨h1, h2, h3⟩ := lastOf_spec h
      have := countL_old h1 h2 h3 n (Nat.le_refl _)
      rw [if_pos h1] at this
      simp only [Option.isSome_some, if_true]
      omega

/-- What the map holds at s once k of the second list were added to it. -/
def after (P : Nat → ByteArray) (n b1 : Nat) (S : Nat → ByteArray) (b2 k : Nat) (s : ByteArray) : Option Nat :=
  match lastOf P n s with
  | some l => some (b1 + l)
  | none => (firstOf S k s).map (b2 + ·)

/-- How many keys the first k of the second list added. -/
def ncount (P : Nat → ByteArray) (n : Nat) (S : Nat → ByteArray) : Nat → Nat
  | 0 => 0
  | k + 1 => if (lastOf P n (S k)).isSome then ncount P n S k else if (firstOf S k (S k)).isSome then ncount P n S k else ncount P n S k + 1

theorem ncount_le (P : Nat → ByteArray) (n : Nat) (S : Nat → ByteArray) : ∀ k, ncount P n S k ≤ k
  | 0 => Nat.le_refl _
  | k + 1 => by
    have := ncount_le P n S k
    unfold ncount
    split
    · omega
    · split <;> omega

theorem after_old {P : Nat → ByteArray} {n b1 : Nat} {S : Nat → ByteArray} {b2 k : Nat} {s : ByteArray} {l : Nat} (h : lastOf P n s = some l) : after P n b1 S b2 k s = some (b1 + l) := by
  unfold after
  rw [h]

theorem after_first {P : Nat → ByteArray} {n b1 : Nat} {S : Nat → ByteArray} {b2 k i f : Nat} (h : lastOf P n (S i) = none) (hf : IsFirst S i f) (hk : i < k) : after P n b1 S b2 k (S i) = some (b2 + f) := by
  unfold after
  rw [h, hf.of hk]
  rfl

/-- The key was there: nothing is added. -/
theorem after_hit {P : Nat → ByteArray} {n b1 : Nat} {S : Nat → ByteArray} {b2 k q : Nat} (h : after P n b1 S b2 k (S k) = some q) (s : ByteArray) : after P n b1 S b2 (k + 1) s = after P n b1 S b2 k s := by
  unfold after at h ⊢
  cases hs : lastOf P n s with
  | some l => rfl
  | none =>
    by_cases e : s = S k
    · subst e
      rw [hs] at h
      obtain ⟨f, hf, _⟩ := Option.map_eq_some_iff.1 h
      show Option.map _ (firstOf S (k + 1) (S k)) = Option.map _ (firstOf S k (S k))
      rw [firstOf_hit hf]
    · show Option.map _ (firstOf S (k + 1) s) = Option.map _ (firstOf S k s)
      have : firstOf S (k + 1) s = firstOf S k s := by
        show (match firstOf S k s with | some f => some f | none => if S k = s then some k else none) = _
        have e' : ¬ S k = s := fun h => e h.symm
        cases hx : firstOf S k s with
        | some g => rfl
        | none => simp [e']
      rw [this]

theorem ncount_hit {P : Nat → ByteArray} {n b1 : Nat} {S : Nat → ByteArray} {b2 k q : Nat} (h : after P n b1 S b2 k (S k) = some q) : ncount P n S (k + 1) = ncount P n S k := by
  unfold after at h
  show (if (lastOf P n (S k)).isSome then ncount P n S k else if (firstOf S k (S k)).isSome then ncount P n S k else ncount P n S k + 1) = _
  cases hs : lastOf P n (S k) with
  | some l => rfl
  | none =>
    rw [hs] at h
    obtain ⟨f, hf, _⟩ := Option.map_eq_some_iff.1 h
    rw [hf]
    rfl

theorem after_none {P : Nat → ByteArray} {n b1 : Nat} {S : Nat → ByteArray} {b2 k : Nat} (h : after P n b1 S b2 k (S k) = none) : lastOf P n (S k) = none ∧ firstOf S k (S k) = none := by
  unfold after at h
  cases hs : lastOf P n (S k) with
  | some l => rw [hs] at h; cases h
  | none =>
    rw [hs] at h
    exact ⟨rfl, by simpa using h⟩

/-- The key was not there: it is added. -/
theorem after_miss {P : Nat → ByteArray} {n b1 : Nat} {S : Nat → ByteArray} {b2 k : Nat} (h : after P n b1 S b2 k (S k) = none) (s : ByteArray) : after P n b1 S b2 (k + 1) s = if s = S k then some (b2 + k) else after P n b1 S b2 k s := by
  obtain ⟨h1, h2⟩ := after_none h
  by_cases e : s = S k
  · subst e
    rw [if_pos rfl]
    unfold after
    rw [h1, firstOf_miss h2, if_pos rfl]
    rfl
  · rw [if_neg e]
    unfold after
    cases hs : lastOf P n s with
    | some l => rfl
    | none =>
      show Option.map _ (firstOf S (k + 1) s) = Option.map _ (firstOf S k s)
      rw [firstOf_miss h2, if_neg e]

theorem ncount_miss {P : Nat → ByteArray} {n b1 : Nat} {S : Nat → ByteArray} {b2 k : Nat} (h : after P n b1 S b2 k (S k) = none) : ncount P n S (k + 1) = ncount P n S k + 1 := by
  obtain ⟨h1, h2⟩ := after_none h
  show (if (lastOf P n (S k)).isSome then ncount P n S k else if (firstOf S k (S k)).isSome then ncount P n S k else ncount P n S k + 1) = _
  rw [h1, h2]
  rfl

theorem ncount_old {P : Nat → ByteArray} {n : Nat} {S : Nat → ByteArray} {k : Nat} (h : (lastOf P n (S k)).isSome = true) : ncount P n S (k + 1) = ncount P n S k := by
  show (if (lastOf P n (S k)).isSome then ncount P n S k else if (firstOf S k (S k)).isSome then ncount P n S k else ncount P n S k + 1) = _
  rw [if_pos h]

theorem IsFirst.ncount_same {P : Nat → ByteArray} {n : Nat} {S : Nat → ByteArray} {i : Nat} (h : IsFirst S i i) (hn : lastOf P n (S i) = none) : ncount P n S (i + 1) = ncount P n S i + 1 := by
  show (if (lastOf P n (S i)).isSome then ncount P n S i else if (firstOf S i (S i)).isSome then ncount P n S i else ncount P n S i + 1) = _
  rw [hn, firstOf_none h.least]
  rfl

theorem IsFirst.ncount_other {P : Nat → ByteArray} {n : Nat} {S : Nat → ByteArray} {i f : Nat} (h : IsFirst S i f) (hne : f ≠ i) (hn : lastOf P n (S i) = none) : ncount P n S (i + 1) = ncount P n S i := by
  show (if (lastOf P n (S i)).isSome then ncount P n S i else if (firstOf S i (S i)).isSome then ncount P n S i else ncount P n S i + 1) = _
  rw [hn, firstOf_some h.same h.least (by have := h.le; omega)]
  rfl

theorem IsFirst.ex (S : Nat → ByteArray) (i : Nat) : ∃ f, IsFirst S i f := by
  have h : ∀ k, k ≤ i → (∃ f, IsFirst S i f) ∨ ∀ j, j < k → S j ≠ S i := by
    intro k
    induction k with
    | zero => exact fun _ => Or.inr (fun j hj => absurd hj (Nat.not_lt_zero _))
    | succ k ih =>
      intro hk
      rcases ih (by omega) with h | h
      · exact Or.inl h
      · by_cases e : S k = S i
        · exact Or.inl ⟨k, by omega, e, h⟩
        · exact Or.inr (no_more h e)
  rcases h i (Nat.le_refl _) with h | h
  · exact h
  · exact ⟨i, Nat.le_refl _, rfl, h⟩

theorem IsFirst.uniq {S : Nat → ByteArray} {i f g : Nat} (hf : IsFirst S i f) (hg : IsFirst S i g) : f = g := by
  rcases Nat.lt_trichotomy f g with h | h | h
  · exact absurd hf.same (hg.least f h)
  · exact h
  · exact absurd hg.same (hf.least g h)

end Go.Proofs.Qxb6629240a
