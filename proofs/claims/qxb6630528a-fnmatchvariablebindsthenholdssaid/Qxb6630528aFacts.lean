/-
  Seat b6630528a. Plain: what two matches in a row make of the bindings.
-/
import Derived.Test.Qxb6630528aMatch
namespace Go.Proofs.Qxb6630528a
open Go.RowKit

/-- What Match answers, and what it makes of the bindings. -/
def matchF (x : ByteArray) (u v : Vl) (L : List Bd) : Bool × List Bd :=
  if x = ⟨#[]⟩ then (veq u v, L) else if x = ⟨#[95]⟩ then (true, L) else match getF L x with
    | some b => (veq b v, L)
    | none => (true, L ++ [(x, v)])

theorem matchF_value (u v : Vl) (L : List Bd) : matchF ⟨#[]⟩ u v L = (veq u v, L) := by
  unfold matchF
  rw [if_pos rfl]
theorem matchF_anon (u v : Vl) (L : List Bd) : matchF ⟨#[95]⟩ u v L = (true, L) := by
  unfold matchF
  rw [if_neg (by decide), if_pos rfl]
theorem matchF_bound {x : ByteArray} (h0 : x ≠ ⟨#[]⟩) (h1 : x ≠ ⟨#[95]⟩) {L : List Bd} {b : Vl} (hg : getF L x = some b) (u v : Vl) : matchF x u v L = (veq b v, L) := by
  unfold matchF
  rw [if_neg h0, if_neg h1, hg]
theorem matchF_fresh {x : ByteArray} (h0 : x ≠ ⟨#[]⟩) (h1 : x ≠ ⟨#[95]⟩) {L : List Bd} (hg : getF L x = none) (u v : Vl) : matchF x u v L = (true, L ++ [(x, v)]) := by
  unfold matchF
  rw [if_neg h0, if_neg h1, hg]

theorem matchF_len (x : ByteArray) (u v : Vl) (L : List Bd) : (matchF x u v L).2.length ≤ L.length + 1 := by
  unfold matchF
  split
  · simp
  · split
    · simp
    · split
      · simp
      · simp

theorem getF_cons (b : Bd) (L : List Bd) (x : ByteArray) : getF (b :: L) x = if b.1 = x then some b.2 else getF L x := rfl

/-- The bindings ahead of the first match. -/
def start (z : ByteArray) (W : Vl) : List Bd := if prop z then [(z, W)] else []

theorem prop_of {z : ByteArray} (h : prop z = true) : z ≠ ⟨#[]⟩ ∧ z ≠ ⟨#[95]⟩ := by simpa [prop] using h
theorem prop_not {z : ByteArray} (h : prop z = false) : z = ⟨#[]⟩ ∨ z = ⟨#[95]⟩ := by
  by_cases h0 : z = ⟨#[]⟩
  · exact Or.inl h0
  · by_cases h1 : z = ⟨#[95]⟩
    · exact Or.inr h1
    · simp [prop, h0, h1] at h

theorem start_len (z : ByteArray) (W : Vl) : (start z W).length ≤ 1 := by
  unfold start
  split <;> simp

theorem start_nil (z : ByteArray) (W : Vl) {x : ByteArray} (h : x = ⟨#[]⟩ ∨ x = ⟨#[95]⟩) : getF (start z W) x = none := by
  unfold start
  split
  · rename_i hp
    have hz := prop_of hp
    rw [getF_cons, if_neg]
    · rfl
    · show ¬ z = x
      rcases h with rfl | rfl
      · exact hz.1
      · exact hz.2
  · rfl

theorem start_z (z : ByteArray) (W : Vl) : getF (start z W) z = if prop z then some W else none := by
  unfold start
  cases prop z
  · rfl
  · simp [getF]

theorem start_other {x z : ByteArray} (h : x ≠ z) (W : Vl) : getF (start z W) x = none := by
  unfold start
  split
  · rw [getF_cons, if_neg (show ¬ z = x from fun e => h e.symm)]; rfl
  · rfl

theorem getF_append_none {L : List Bd} {x : ByteArray} (h : getF L x = none) (M : List Bd) : getF (L ++ M) x = getF M x := by
  induction L with
  | nil => rfl
  | cons b L ih =>
    rw [getF_cons] at h
    by_cases e : b.1 = x
    · rw [if_pos e] at h; cases h
    · rw [if_neg e] at h
      rw [List.cons_append, getF_cons, if_neg e, ih h]

theorem getF_append_some {L : List Bd} {x : ByteArray} {b : Vl} (h : getF L x = some b) (M : List Bd) : getF (L ++ M) x = some b := by
  induction L with
  | nil => cases h
  | cons c L ih =>
    rw [getF_cons] at h
    by_cases e : c.1 = x
    · rw [if_pos e] at h
      rw [List.cons_append, getF_cons, if_pos e, h]
    · rw [if_neg e] at h
      rw [List.cons_append, getF_cons, if_neg e, ih h]

/-- WHAT THE LAW ASKS OF TWO MATCHES IN A ROW. -/
structure Out (x z : ByteArray) (U V W : Vl) (r1 r2 : Bool) (o1 o2 oz : Option Vl) : Prop where
  value : x = ⟨#[]⟩ → r1 = veq U V ∧ r2 = veq U W ∧ o1 = none ∧ o2 = none
  anon : x = ⟨#[95]⟩ → r1 = true ∧ r2 = true ∧ o1 = none ∧ o2 = none
  same : x ≠ ⟨#[]⟩ → x ≠ ⟨#[95]⟩ → x = z → r1 = veq W V ∧ r2 = true ∧ o1 = some W ∧ o2 = some W
  other : x ≠ ⟨#[]⟩ → x ≠ ⟨#[95]⟩ → x ≠ z → r1 = true ∧ r2 = veq V W ∧ o1 = some V ∧ o2 = some V
  kept : oz = if prop z then some W else none

theorem out_of (x z : ByteArray) (U V W : Vl) :
    Out x z U V W (matchF x U V (start z W)).1 (matchF x U W (matchF x U V (start z W)).2).1 (getF (matchF x U V (start z W)).2 x) (getF (matchF x U W (matchF x U V (start z W)).2).2 x) (getF (matchF x U W (matchF x U V (start z W)).2).2 z) := by
  by_cases h0 : x = ⟨#[]⟩
  · have hn := start_nil z W (x := ⟨#[]⟩) (Or.inl rfl)
    subst h0
    simp only [matchF_value]
    exact ⟨fun _ => ⟨rfl, rfl, hn, hn⟩, fun h => absurd h (by decide), fun h => absurd rfl h, fun h => absurd rfl h, start_z z W⟩
  · by_cases h1 : x = ⟨#[95]⟩
    · have hn := start_nil z W (x := ⟨#[95]⟩) (Or.inr rfl)
      subst h1
      simp only [matchF_anon]
      exact ⟨fun h => absurd h (by decide), fun _ => ⟨rfl, rfl, hn, hn⟩, fun _ h => absurd rfl h, fun _ h => absurd rfl h, start_z z W⟩
    · by_cases hz : x = z
      · subst hz
        have hp : prop x = true := by simp [prop, h0, h1]
        have hs := start_z x W
        rw [hp] at hs
        simp only [if_true] at hs
        have e1 := matchF_bound h0 h1 hs U V
        have e2 := matchF_bound h0 h1 hs U W
        rw [e1]
        simp only [e2]
        refine ⟨fun h => absurd h h0, fun h => absurd h h1, fun _ _ _ => ⟨rfl, veq_refl W, hs, hs⟩, fun _ _ h => absurd rfl h, by rw [hs, hp]; rfl⟩
      · have hs := start_other hz W
        have e1 := matchF_fresh h0 h1 hs U V
        have hg : getF (start z W ++ [(x, V)]) x = some V := by rw [getF_append_none hs]; simp [getF]
        have e2 := matchF_bound h0 h1 hg U W
        rw [e1]
        simp only [e2]
        refine ⟨fun h => absurd h h0, fun h => absurd h h1, fun _ _ h => absurd h hz, fun _ _ _ => ⟨rfl, rfl, hg, hg⟩, ?_⟩
        cases hp : prop z with
        | true =>
          have hs' := start_z z W
          rw [hp] at hs'
          exact getF_append_some hs' _
        | false =>
          have hs' := start_z z W
          rw [hp] at hs'
          simp only [Bool.false_eq_true, if_false] at hs'
          rw [getF_append_none hs']
          simp [getF, hz]

end Go.Proofs.Qxb6630528a
