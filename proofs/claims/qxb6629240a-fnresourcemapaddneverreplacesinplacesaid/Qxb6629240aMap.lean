/-
  Seat b6629240a. The call's own map[string]*Message ('MapIs': what the block holds, key by key, as block numbers of messages), and the contract of Add (7).
-/
import Derived.Test.Qxb6629240aIx
import Derived.Maps.OwnSet
namespace Go.Proofs.Qxb6629240a
open Go.RowKit Go.Maps Go.WideMaps

theorem law : Keyed Try.prog 9 := string_keyed Try.underlying9
theorem zero26 (w : World) : (zeroValue 26).run Try.prog w = .ok (.pointer none) w := by kernel_rfl

/-- HOW A POINTER TO A MESSAGE READS HERE: nil, or the number of the block at whose head it lies. (A ghost of the proof: no row speaks of it.) -/
def ptrElem : Value → Option (DataW Unit × List MemPlace)
  | .pointer none => some (.nil, [])
  | .pointer (some ⟨b, 0, none⟩) => some (.lit (.int .i64 (b : Int)), [])
  | _ => none

theorem ptrElem_lit {v : Value} {q : Nat} {ps : List MemPlace} (h : ptrElem v = some (.lit (.int .i64 (q : Int)), ps)) : v = .pointer (some ⟨q, 0, none⟩) := by
  unfold ptrElem at h
  split at h
  · simp at h
  · rename_i b
    simp at h
    obtain rfl : b = q := by omega
    rfl
  · simp at h

theorem ptrElem_nil {v : Value} {ps : List MemPlace} (h : ptrElem v = some (.nil, ps)) : v = .pointer none := by
  unfold ptrElem at h
  split at h
  · rfl
  · simp at h
  · simp at h

def keyL (s : ByteArray) : Lit := .string s.data.toList
theorem keyL_inj {s t : ByteArray} (h : keyL s = keyL t) : s = t := by
  unfold keyL at h
  cases s
  cases t
  simpa using h
theorem keyL_key (s : ByteArray) : WideAt.IsKeyLit (keyL s) := trivial
theorem keyL_mk {s : ByteArray} (hs : s.size ≤ maxLen) : keyOf Try.prog 9 (.string s) = some (keyL s) := keyOf_string_mk Try.underlying9 hs

/-- BLOCK b IS A MAP OF cnt ENTRIES: at key s the message of block q just where 'M s = some q'; n: a bound on how often it was written. -/
def MapIs (w : World) (b n cnt : Nat) (M : ByteArray → Option Nat) : Prop :=
  ∃ D : DataW Unit, w.ownsMap Try.prog 9 ptrElem b n D ∧ Maps.size D = cnt ∧ ∀ s, (M s = none → Maps.has D (keyL s) = false) ∧ ∀ q, M s = some q → Maps.has D (keyL s) = true ∧ D.atKey (keyL s) .nil = .lit (.int .i64 (q : Int))

theorem MapIs.made (w : World) : MapIs (w.alloc (.map #[] 0)) w.heap.size 0 0 (fun _ => none) :=
  ⟨.map [], World.ownsMap_made _ _ _ _, rfl, fun _ => ⟨fun _ => rfl, fun _ h => by cases h⟩⟩

theorem MapIs.lt {w : World} {b n cnt : Nat} {M : ByteArray → Option Nat} (h : MapIs w b n cnt M) : b < w.heap.size := by
  obtain ⟨D, hown, _⟩ := h
  exact hown.lt

theorem MapIs.of_block {w w' : World} {b n cnt : Nat} {M : ByteArray → Option Nat} (h : MapIs w b n cnt M) (e : w'.heap[b]? = w.heap[b]?) : MapIs w' b n cnt M := by
  obtain ⟨D, ⟨es, clock, hb, r⟩, h2⟩ := h
  exact ⟨D, ⟨es, clock, e.trans hb, r⟩, h2⟩

theorem MapIs.congr {w : World} {b n cnt cnt' : Nat} {M M' : ByteArray → Option Nat} (h : MapIs w b n cnt M) (hc : cnt = cnt') (e : ∀ s, M s = M' s) : MapIs w b n cnt' M' := by
  obtain rfl : M = M' := funext e
  exact hc ▸ h

theorem MapIs.mono {w : World} {b n n' cnt : Nat} {M : ByteArray → Option Nat} (h : MapIs w b n cnt M) (hn : n ≤ n') : MapIs w b n' cnt M := by
  obtain ⟨D, hown, r⟩ := h
  exact ⟨D, hown.mono hn, r⟩

/-- 'v, ok := m[s]', the key there. -/
theorem MapIs.hit {w : World} {b n cnt : Nat} {M : ByteArray → Option Nat} (h : MapIs w b n cnt M) {s : ByteArray} (hs : s.size ≤ maxLen) {q : Nat} (hq : M s = some q) (k : Nat) :
    (Instr.lookup 32 (.map (some b)) (.string s) true).run Try.prog (w.drewN k) = .ok (.tuple #[.pointer (some ⟨q, 0, none⟩), .bool true]) (w.drewN k) := by
  obtain ⟨D, hown, _, hM⟩ := h
  have hown' : (w.drewN k).ownsMap Try.prog 9 ptrElem b n D := hown
  obtain ⟨v, ps, hrun, hv⟩ := hown'.look_ok law Try.underlying32 (zero26 _) (zd := .nil) (zp := []) rfl (keyL_mk hs)
  obtain ⟨h1, h2⟩ := (hM s).2 q hq
  rw [h2] at hv
  rw [hrun, h1, ptrElem_lit hv]

/-- .. the key not there. -/
theorem MapIs.miss {w : World} {b n cnt : Nat} {M : ByteArray → Option Nat} (h : MapIs w b n cnt M) {s : ByteArray} (hs : s.size ≤ maxLen) (hq : M s = none) (k : Nat) :
    (Instr.lookup 32 (.map (some b)) (.string s) true).run Try.prog (w.drewN k) = .ok (.tuple #[.pointer none, .bool false]) (w.drewN k) := by
  obtain ⟨D, hown, _, hM⟩ := h
  have hown' : (w.drewN k).ownsMap Try.prog 9 ptrElem b n D := hown
  obtain ⟨v, ps, hrun, hv⟩ := hown'.look_ok law Try.underlying32 (zero26 _) (zd := .nil) (zp := []) rfl (keyL_mk hs)
  rw [Maps.atKey_of_not_has ((hM s).1 hq)] at hv
  rw [hrun, (hM s).1 hq, ptrElem_nil hv]

/-- .. in a nil map. -/
theorem look_none {s : ByteArray} (hs : s.size ≤ maxLen) (w : World) :
    (Instr.lookup 32 (.map none) (.string s) true).run Try.prog w = .ok (.tuple #[.pointer none, .bool false]) w :=
  Maps.look_nil true law Try.underlying32 (zero26 _) (keyL_mk hs)

theorem MapIs.len {w : World} {b n cnt : Nat} {M : ByteArray → Option Nat} (h : MapIs w b n cnt M) (ty : TypeId) :
    (Builtin.len_ #[32] ty #[.map (some b)]).run Try.prog w = .ok (.int .i64 cnt) w := by
  obtain ⟨D, hown, hs, _⟩ := h
  rw [hown.len Try.underlying32 ty, hs]

/-- 'm[s] = the message of block q'. -/
theorem MapIs.store {w : World} {b n cnt : Nat} {M : ByteArray → Option Nat} (h : MapIs w b n cnt M) (hn : n < maxLen) {s : ByteArray} (hs : s.size ≤ maxLen) (q : Nat) :
    ∃ w', (Instr.mapUpdate 32 (.map (some b)) (.string s) (.pointer (some ⟨q, 0, none⟩))).run Try.prog w = .ok () w' ∧ w.grownBy w' (some b) ∧ w'.heap.size = w.heap.size ∧
      MapIs w' b (n + 1) (if (M s).isSome then cnt else cnt + 1) (fun t => if t = s then some q else M t) := by
  obtain ⟨D, hown, hsz, hM⟩ := h
  obtain ⟨w', hrun, hown', hturn⟩ := hown.store (R := ptrElem) (d := .lit (.int .i64 (q : Int))) (ps := []) law Try.underlying32 hn (keyL_mk hs) (val := .pointer (some ⟨q, 0, none⟩)) rfl
  have hsize : w'.heap.size = w.heap.size := by
    obtain ⟨es, clock, es', clock', hb, rfl⟩ := hturn
    simp [ChangeMaps.setBlock]
  refine ⟨w', hrun, hturn.grown, hsize, _, hown', ?_, fun t => ?_⟩
  · rw [Maps.size_put (hown.tidy law), hsz]
    cases hm : M s with
    | none => rw [(hM s).1 hm]; simp
    | some q' => rw [((hM s).2 q' hm).1]; simp
  · by_cases e : t = s
    · subst e
      refine ⟨fun h => by simp at h, fun q' h => ?_⟩
      simp at h
      subst h
      exact ⟨Maps.has_put_same hown.isMap (keyL_key _) _, Maps.atKey_put_same hown.isMap (keyL_key _) _ _⟩
    · have hne : keyL t ≠ keyL s := fun h => e (keyL_inj h)
      simp only [if_neg e]
      rw [Maps.has_put_other hne, Maps.atKey_put_other hne]
      exact hM t

end Go.Proofs.Qxb6629240a
