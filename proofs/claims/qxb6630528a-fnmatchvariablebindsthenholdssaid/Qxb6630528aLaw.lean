/-
  Seat b6630528a. FnMatchVariableBindsThenHolds (3): the walk.
-/
import Derived.Test.Qxb6630528aFacts
namespace Go.Proofs.Qxb6630528a
open Go.RowKit

theorem match_any (B E : Nat) (x : ByteArray) (u v : Vl) (L : List Bd) (w : World) (hE : EnvIs w B E L) (hL : L.length ≤ 100) (hB : B ≤ E) :
    Calls Try.prog 9 #[termV x u, valV v, .pointer (some ⟨E, 0, none⟩)] w fun e w' => e = .returned (.bool (matchF x u v L).1) ∧ EnvIs w' B E (matchF x u v L).2 ∧ Kp B E w w' := by
  have hlt := hE.lt
  unfold matchF
  by_cases h0 : x = ⟨#[]⟩
  · subst h0
    rw [if_pos rfl]
    exact (match_value E u v w).mono fun e w' ⟨h1, h2⟩ => ⟨h1, hE.later h2, Kp.of_below h2 (by omega)⟩
  · rw [if_neg h0]
    by_cases h1 : x = ⟨#[95]⟩
    · subst h1
      rw [if_pos rfl]
      exact (match_anon E u v w).mono fun e w' ⟨h1, h2⟩ => ⟨h1, hE.later h2, Kp.of_below h2 (by omega)⟩
    · rw [if_neg h1]
      cases hg : getF L x with
      | some b => exact (match_bound B E x u v b L w hE hL h0 h1 hg).mono fun e w' ⟨h1, h2⟩ => ⟨h1, hE.later h2, Kp.of_below h2 (by omega)⟩
      | none => exact match_fresh B E x u v L w hE hL hB h0 h1 hg

/-- Block b is a variable that holds the Value V. -/
def Has (w : World) (b : Nat) (V : Vl) : Prop := w.heap[b]? = some (.cells #[.int .i64 V.k, .int .i64 V.n, .string V.s] 25 (0, 0))
/-- Block b is a variable that holds the term of variable x and value U. -/
def HasT (w : World) (b : Nat) (x : ByteArray) (U : Vl) : Prop := w.heap[b]? = some (.cells #[.string ⟨#[]⟩, .int .i64 0, .int .i64 0, .string x, .string ⟨#[]⟩, .int .i64 U.k, .int .i64 U.n, .string U.s, .pointer none] 37 (0, 0))

theorem Has.lt {w : World} {b : Nat} {V : Vl} (h : Has w b V) : b < w.heap.size := (Array.getElem?_eq_some_iff.1 h).1
theorem HasT.lt {w : World} {b : Nat} {x : ByteArray} {V : Vl} (h : HasT w b x V) : b < w.heap.size := (Array.getElem?_eq_some_iff.1 h).1
theorem Has.later {w w' : World} {b : Nat} {V : Vl} (h : Has w b V) (hb : Below w.heap.size w w') : Has w' b V := (hb.block b h.lt).trans h
theorem HasT.later {w w' : World} {b : Nat} {x : ByteArray} {V : Vl} (h : HasT w b x V) (hb : Below w.heap.size w w') : HasT w' b x V := (hb.block b h.lt).trans h
theorem Has.kp {w w' : World} {B E b : Nat} {V : Vl} (h : Has w b V) (hk : Kp B E w w') (hne : b ≠ E) : Has w' b V := (hk.kept b _ _ _ h (by decide) hne).trans h
theorem HasT.kp {w w' : World} {B E b : Nat} {x : ByteArray} {V : Vl} (h : HasT w b x V) (hk : Kp B E w w') (hne : b ≠ E) : HasT w' b x V := (hk.kept b _ _ _ h (by decide) hne).trans h
theorem Has.new (w : World) (V : Vl) : Has (w.alloc (.cells #[.int .i64 V.k, .int .i64 V.n, .string V.s] 25)) w.heap.size V := (MapKept.heap_alloc w _).1
theorem HasT.new (w : World) (x : ByteArray) (U : Vl) : HasT (w.alloc (.cells #[.string ⟨#[]⟩, .int .i64 0, .int .i64 0, .string x, .string ⟨#[]⟩, .int .i64 U.k, .int .i64 U.n, .string U.s, .pointer none] 37)) w.heap.size x U := (MapKept.heap_alloc w _).1

theorem Has.cells {w : World} {b : Nat} {V : Vl} (h : Has w b V) : w.cell? ⟨b, 0, none⟩ = some (.int .i64 V.k) ∧ w.cell? ⟨b, 1, none⟩ = some (.int .i64 V.n) ∧ w.cell? ⟨b, 2, none⟩ = some (.string V.s) :=
  ⟨cell_at h 0, cell_at h 1, cell_at h 2⟩
theorem Has.past {w : World} {b : Nat} {V : Vl} (h : Has w b V) : (∀ o, (w.alloc o).cell? ⟨b, 0, none⟩ = some (.int .i64 V.k)) ∧ (∀ o, (w.alloc o).cell? ⟨b, 1, none⟩ = some (.int .i64 V.n)) ∧ ∀ o, (w.alloc o).cell? ⟨b, 2, none⟩ = some (.string V.s) :=
  ⟨fun o => (Has.cells (h.later ((Below.refl _ _).alloc (Nat.le_refl _) o))).1, fun o => (Has.cells (h.later ((Below.refl _ _).alloc (Nat.le_refl _) o))).2.1, fun o => (Has.cells (h.later ((Below.refl _ _).alloc (Nat.le_refl _) o))).2.2⟩
theorem HasT.cells {w : World} {b : Nat} {x : ByteArray} {U : Vl} (h : HasT w b x U) : w.cell? ⟨b, 0, none⟩ = some (.string ⟨#[]⟩) ∧ w.cell? ⟨b, 1, none⟩ = some (.int .i64 0) ∧ w.cell? ⟨b, 2, none⟩ = some (.int .i64 0) ∧ w.cell? ⟨b, 3, none⟩ = some (.string x) ∧
    w.cell? ⟨b, 4, none⟩ = some (.string ⟨#[]⟩) ∧ w.cell? ⟨b, 5, none⟩ = some (.int .i64 U.k) ∧ w.cell? ⟨b, 6, none⟩ = some (.int .i64 U.n) ∧ w.cell? ⟨b, 7, none⟩ = some (.string U.s) ∧ w.cell? ⟨b, 8, none⟩ = some (.pointer none) :=
  ⟨cell_at h 0, cell_at h 1, cell_at h 2, cell_at h 3, cell_at h 4, cell_at h 5, cell_at h 6, cell_at h 7, cell_at h 8⟩

theorem HasT.past {w : World} {b : Nat} {x : ByteArray} {U : Vl} (h : HasT w b x U) : (∀ o, (w.alloc o).cell? ⟨b, 0, none⟩ = some (.string ⟨#[]⟩)) ∧ (∀ o, (w.alloc o).cell? ⟨b, 1, none⟩ = some (.int .i64 0)) ∧ (∀ o, (w.alloc o).cell? ⟨b, 2, none⟩ = some (.int .i64 0)) ∧ (∀ o, (w.alloc o).cell? ⟨b, 3, none⟩ = some (.string x)) ∧
    (∀ o, (w.alloc o).cell? ⟨b, 4, none⟩ = some (.string ⟨#[]⟩)) ∧ (∀ o, (w.alloc o).cell? ⟨b, 5, none⟩ = some (.int .i64 U.k)) ∧ (∀ o, (w.alloc o).cell? ⟨b, 6, none⟩ = some (.int .i64 U.n)) ∧ (∀ o, (w.alloc o).cell? ⟨b, 7, none⟩ = some (.string U.s)) ∧ ∀ o, (w.alloc o).cell? ⟨b, 8, none⟩ = some (.pointer none) := by
  have c := fun o => HasT.cells (h.later ((Below.refl _ _).alloc (Nat.le_refl _) o))
  exact ⟨fun o => (c o).1, fun o => (c o).2.1, fun o => (c o).2.2.1, fun o => (c o).2.2.2.1, fun o => (c o).2.2.2.2.1, fun o => (c o).2.2.2.2.2.1, fun o => (c o).2.2.2.2.2.2.1, fun o => (c o).2.2.2.2.2.2.2.1, fun o => (c o).2.2.2.2.2.2.2.2⟩

theorem env_new (w : World) (B : Nat) : EnvIs (w.alloc (.cells #[.slice none 0 0] 30)) B w.heap.size [] :=
  ⟨_, (MapKept.heap_alloc w _).1, World.ownsRow_nil _ _ _ _⟩

theorem vne_run (a b : Vl) (w : World) : (binOp .neq 25 (valV a) (valV b)).run Try.prog w = .ok (.bool (!veq a b)) w := by
  by_cases h1 : a.k = b.k
  · by_cases h2 : a.n = b.n
    · by_cases h3 : a.s.toList = b.s.toList
      · have h4 : a.s = b.s := str_eq (by rw [h3]; simp)
        simp [go_sem, h1, h2, veq, h4]
      · have h4 : ¬ a.s = b.s := fun e => h3 (by rw [e])
        simp [go_sem, h1, h2, h3, veq, h4]
    · simp [go_sem, h1, h2, veq]
  · simp [go_sem, h1, veq]

theorem vne_same (a : Vl) (w : World) : (binOp .neq 25 (valV a) (valV a)).run Try.prog w = .ok (.bool false) w := by
  rw [vne_run, veq_refl]; rfl
theorem veq_same (a : Vl) (w : World) : (binOp .eql 25 (valV a) (valV a)).run Try.prog w = .ok (.bool true) w := by
  rw [veq_run, veq_refl]

theorem one_below (w : World) (o : Obj) : Below w.heap.size w (w.alloc o) := (Below.refl _ _).alloc (Nat.le_refl _) _

set_option maxRecDepth 100000 in
set_option maxHeartbeats 2000000 in
theorem law_walk (x z us vs ws : ByteArray) (uk un vk vn wk wn : Int) (w : World) :
    Calls Try.prog 3 #[.string x, .string z, .int .i64 uk, .int .i64 un, .string us, .int .i64 vk, .int .i64 vn, .string vs, .int .i64 wk, .int .i64 wn, .string ws] w fun e w' => e = .returned (.bool true) ∧ Below w.heap.size w w' := by
  go_enter Try.func3, Try.ntmps3
  go_wp2_with fail
  refine (bytes_any x z us vs ws uk un vk vn wk wn w).mono ?_
  rintro e _ ⟨⟨r, rfl⟩, rfl⟩
  cases r
  · go_wp2_with fail
    go_ret
    exact ⟨rfl, Below.refl _ _⟩
  · go_wp2_with fail
    all_goals first
      | (go_ret; exact ⟨rfl, Below.refl _ _⟩)
      | skip
    refine (mk_any uk un us w (by omega)).mono ?_
    rintro e w1 ⟨⟨U, okU, rfl, hU⟩, hb1⟩
    go_wp2_with fail
    have HU : Hid (okU = true → U = valOf uk un us ∧ 0 ≤ uk ∧ uk ≤ 3) := hU
    have nU := Has.new w1 U
    have lU := hb1.size
    have bU := hb1.alloc hb1.size (.cells #[.int .i64 U.k, .int .i64 U.n, .string U.s] 25)
    generalize w1.alloc (.cells #[.int .i64 U.k, .int .i64 U.n, .string U.s] 25) = W1 at nU bU ⊢
    generalize w1.heap.size = bu at nU lU ⊢
    clear hU hb1
    refine (mk_any vk vn vs W1 (by omega)).mono ?_
    rintro e w2 ⟨⟨V, okV, rfl, hV⟩, hb2⟩
    go_wp2_with fail
    have HV : Hid (okV = true → V = valOf vk vn vs ∧ 0 ≤ vk ∧ vk ≤ 3) := hV
    have nV := Has.new w2 V
    have lV : bu < w2.heap.size := Nat.lt_of_lt_of_le nU.lt hb2.size
    have nU2 := (nU.later hb2).later (one_below w2 (.cells #[.int .i64 V.k, .int .i64 V.n, .string V.s] 25))
    have bV := (bU.trans (hb2.mono bU.size)).alloc (Nat.le_trans bU.size hb2.size) (.cells #[.int .i64 V.k, .int .i64 V.n, .string V.s] 25)
    generalize w2.alloc (.cells #[.int .i64 V.k, .int .i64 V.n, .string V.s] 25) = W2 at nV nU2 bV ⊢
    generalize w2.heap.size = bv at nV lV ⊢
    clear hV hb2 nU bU
    refine (mk_any wk wn ws W2 (by omega)).mono ?_
    rintro e w3 ⟨⟨W, okW, rfl, hW⟩, hb3⟩
    have HW : Hid (okW = true → W = valOf wk wn ws ∧ 0 ≤ wk ∧ wk ≤ 3) := hW
    have nW := Has.new w3 W
    have lW : bv < w3.heap.size := Nat.lt_of_lt_of_le nV.lt hb3.size
    have nU3 := (nU2.later hb3).later (one_below w3 (.cells #[.int .i64 W.k, .int .i64 W.n, .string W.s] 25))
    have nV3 := (nV.later hb3).later (one_below w3 (.cells #[.int .i64 W.k, .int .i64 W.n, .string W.s] 25))
    have bW := (bV.trans (hb3.mono bV.size)).alloc (Nat.le_trans bV.size hb3.size) (.cells #[.int .i64 W.k, .int .i64 W.n, .string W.s] 25)
    clear hW hb3 nU2 nV bV
    cases okU
    · cases okV <;> cases okW
      all_goals
        go_wp2_with fail
        go_ret
        exact ⟨rfl, bW⟩
    · cases okV
      · cases okW
        all_goals
          go_wp2_with fail
          go_ret
          exact ⟨rfl, bW⟩
      · cases okW
        · go_wp2_with fail
          go_ret
          exact ⟨rfl, bW⟩
        · go_wp2_with fail
          have nE := env_new (w3.alloc (.cells #[.int .i64 W.k, .int .i64 W.n, .string W.s] 25)) w.heap.size
          have sE : (w3.alloc (.cells #[.int .i64 W.k, .int .i64 W.n, .string W.s] 25)).heap.size = w3.heap.size + 1 := by simp
          rw [sE] at nE
          have nU := nU3.later (one_below _ (.cells #[.slice none 0 0] 30))
          have nV := nV3.later (one_below _ (.cells #[.slice none 0 0] 30))
          have nW := nW.later (one_below _ (.cells #[.slice none 0 0] 30))
          have bl := bW.alloc bW.size (.cells #[.slice none 0 0] 30)
          generalize (w3.alloc (.cells #[.int .i64 W.k, .int .i64 W.n, .string W.s] 25)).alloc (.cells #[.slice none 0 0] 30) = W3 at nE nU nV nW bl ⊢
          generalize w3.heap.size = bw at nE nW lW ⊢
          clear nU3 nV3 bW sE
          refine (prop_any z W3).mono ?_
          rintro e _ ⟨rfl, rfl⟩
          cases hp : prop z
          · have HP : Hid (prop z = false) := hp
            clear hp
            have hst : start z W = [] := by unfold start; rw [HP.out]; rfl
            have hE : EnvIs W3 w.heap.size (bw + 1) (start z W) := by rw [hst]; exact nE
            clear hst nE
            have cU := nU.cells
            have cV := nV.past
            go_wp2_with fail
            clear cU cV nU
            have nT := HasT.new W3 x U
            have lT : bw + 1 < W3.heap.size := hE.lt
            have nV := nV.later (one_below W3 (.cells #[.string ⟨#[]⟩, .int .i64 0, .int .i64 0, .string x, .string ⟨#[]⟩, .int .i64 U.k, .int .i64 U.n, .string U.s, .pointer none] 37))
            have nW := nW.later (one_below W3 (.cells #[.string ⟨#[]⟩, .int .i64 0, .int .i64 0, .string x, .string ⟨#[]⟩, .int .i64 U.k, .int .i64 U.n, .string U.s, .pointer none] 37))
            have hE := hE.later (one_below W3 (.cells #[.string ⟨#[]⟩, .int .i64 0, .int .i64 0, .string x, .string ⟨#[]⟩, .int .i64 U.k, .int .i64 U.n, .string U.s, .pointer none] 37))
            have bl := bl.alloc bl.size (.cells #[.string ⟨#[]⟩, .int .i64 0, .int .i64 0, .string x, .string ⟨#[]⟩, .int .i64 U.k, .int .i64 U.n, .string U.s, .pointer none] 37)
            generalize W3.alloc (.cells #[.string ⟨#[]⟩, .int .i64 0, .int .i64 0, .string x, .string ⟨#[]⟩, .int .i64 U.k, .int .i64 U.n, .string U.s, .pointer none] 37) = WB at nT nV nW hE bl ⊢
            generalize W3.heap.size = bt at nT lT ⊢
            refine Calls.mono (match_any w.heap.size (bw + 1) x U V (start z W) WB hE (by have := start_len z W; omega) (by omega)) ?_
            rintro e WC ⟨rfl, hE, hK⟩
            have nV := nV.kp hK (by omega)
            have nW := nW.kp hK (by omega)
            have nT := nT.kp hK (by omega)
            have bl := bl.trans hK.below
            have hlen2 : (matchF x U V (start z W)).2.length ≤ 2 := by have := start_len z W; have := matchF_len x U V (start z W); omega
            have O := out_of x z U V W
            generalize (matchF x U V (start z W)).1 = r1 at O ⊢
            generalize (matchF x U V (start z W)).2 = L2 at O hE hlen2
            have HO : Hid (Out x z U V W r1 (matchF x U W L2).1 (getF L2 x) (getF (matchF x U W L2).2 x) (getF (matchF x U W L2).2 z)) := O
            clear hK O
            go_wp2_with fail
            refine Calls.mono (get_any w.heap.size (bw + 1) x L2 WC hE (by omega)) ?_
            rintro e WD ⟨rfl, hb⟩
            have nV := nV.later hb
            have nW := nW.later hb
            have nT := nT.later hb
            have hE := hE.later hb
            have bl := bl.trans (hb.mono bl.size)
            clear hb
            generalize hG1 : (getF L2 x).getD z0 = G1
            generalize hB1 : (getF L2 x).isSome = b1
            have HG1 : Hid ((getF L2 x).getD z0 = G1 ∧ (getF L2 x).isSome = b1) := ⟨hG1, hB1⟩
            clear hG1 hB1
            have cT := nT.past
            have cW := nW.past
            go_wp2_with fail
            clear cT cW
            have nG1 := Has.new WD G1
            have lG1 : bw + 1 < WD.heap.size := hE.lt
            have nV := nV.later (one_below WD (.cells #[.int .i64 G1.k, .int .i64 G1.n, .string G1.s] 25))
            have nW := nW.later (one_below WD (.cells #[.int .i64 G1.k, .int .i64 G1.n, .string G1.s] 25))
            have hE := hE.later (one_below WD (.cells #[.int .i64 G1.k, .int .i64 G1.n, .string G1.s] 25))
            have bl := bl.alloc bl.size (.cells #[.int .i64 G1.k, .int .i64 G1.n, .string G1.s] 25)
            generalize WD.alloc (.cells #[.int .i64 G1.k, .int .i64 G1.n, .string G1.s] 25) = WE at nG1 nV nW hE bl ⊢
            generalize WD.heap.size = bg1 at nG1 lG1 ⊢
            clear nT
            refine Calls.mono (match_any w.heap.size (bw + 1) x U W L2 WE hE (by omega) (by omega)) ?_
            rintro e WF ⟨rfl, hE, hK⟩
            have nV := nV.kp hK (by omega)
            have nW := nW.kp hK (by omega)
            have nG1 := nG1.kp hK (by omega)
            have bl := bl.trans hK.below
            have hlen3 : (matchF x U W L2).2.length ≤ 3 := by have := matchF_len x U W L2; omega
            have O := HO.out
            generalize (matchF x U W L2).1 = r2 at O ⊢
            generalize (matchF x U W L2).2 = L3 at O hE hlen3
            have HO2 : Hid (Out x z U V W r1 r2 (getF L2 x) (getF L3 x) (getF L3 z)) := O
            clear hK O HO
            go_wp2_with fail
            refine Calls.mono (get_any w.heap.size (bw + 1) x L3 WF hE (by omega)) ?_
            rintro e WG ⟨rfl, hb⟩
            have nV := nV.later hb
            have nW := nW.later hb
            have nG1 := nG1.later hb
            have hE := hE.later hb
            have bl := bl.trans (hb.mono bl.size)
            clear hb
            generalize hG2 : (getF L3 x).getD z0 = G2
            generalize hB2 : (getF L3 x).isSome = b2
            have HG2 : Hid ((getF L3 x).getD z0 = G2 ∧ (getF L3 x).isSome = b2) := ⟨hG2, hB2⟩
            clear hG2 hB2
            go_wp2_with fail
            have nG2 := Has.new WG G2
            have nV := nV.later (one_below WG (.cells #[.int .i64 G2.k, .int .i64 G2.n, .string G2.s] 25))
            have nW := nW.later (one_below WG (.cells #[.int .i64 G2.k, .int .i64 G2.n, .string G2.s] 25))
            have nG1 := nG1.later (one_below WG (.cells #[.int .i64 G2.k, .int .i64 G2.n, .string G2.s] 25))
            have hE := hE.later (one_below WG (.cells #[.int .i64 G2.k, .int .i64 G2.n, .string G2.s] 25))
            have bl := bl.alloc bl.size (.cells #[.int .i64 G2.k, .int .i64 G2.n, .string G2.s] 25)
            generalize WG.alloc (.cells #[.int .i64 G2.k, .int .i64 G2.n, .string G2.s] 25) = WH at nG2 nG1 nV nW hE bl ⊢
            generalize WG.heap.size = bg2 at nG2 ⊢
            have hgz : getF L3 z = none := by rw [HO2.out.kept, HP.out]; rfl
            refine Calls.mono (get_none w.heap.size (bw + 1) z L3 WH hE (by omega) hgz) ?_
            rintro e WI ⟨rfl, hb⟩
            have nV := nV.later hb
            have nW := nW.later hb
            have nG1 := nG1.later hb
            have nG2 := nG2.later hb
            have bl := bl.trans (hb.mono bl.size)
            clear hb hgz hE
            go_wp2_with fail
            have nGZ := Has.new WI z0
            have nV := nV.later (one_below WI (.cells #[.int .i64 0, .int .i64 0, .string ⟨#[]⟩] 25))
            have nW := nW.later (one_below WI (.cells #[.int .i64 0, .int .i64 0, .string ⟨#[]⟩] 25))
            have nG1 := nG1.later (one_below WI (.cells #[.int .i64 0, .int .i64 0, .string ⟨#[]⟩] 25))
            have nG2 := nG2.later (one_below WI (.cells #[.int .i64 0, .int .i64 0, .string ⟨#[]⟩] 25))
            have bl := bl.alloc bl.size (.cells #[.int .i64 0, .int .i64 0, .string ⟨#[]⟩] 25)
            unfold z0 at nGZ
            generalize WI.alloc (.cells #[.int .i64 0, .int .i64 0, .string ⟨#[]⟩] 25) = WJ at nGZ nG2 nG1 nV nW bl ⊢
            generalize WI.heap.size = bgz at nGZ ⊢
            refine (prop_any z WJ).mono ?_
            rintro e _ ⟨rfl, rfl⟩
            rw [HP.out]
            have cV := nV.cells
            have cW := nW.cells
            have cG1 := nG1.cells
            have cG2 := nG2.cells
            have cGZ := nGZ.cells
            have hneW := fun w' => vne_same W w'
            clear nV nW nG1 nG2 nGZ
            obtain ⟨hU, hu0, hu3⟩ := HU.out trivial
            obtain ⟨hV, hv0, hv3⟩ := HV.out trivial
            obtain ⟨hW, hw0, hw3⟩ := HW.out trivial
            by_cases h0 : x = ⟨#[]⟩
            · obtain ⟨e1, e2, e3, e4⟩ := HO2.out.value h0
              have q1 := HG1.out
              rw [e3] at q1
              have q2 := HG2.out
              rw [e4] at q2
              obtain ⟨-, rfl⟩ := q1
              obtain ⟨-, rfl⟩ := q2
              have f1 : r1 = eqF uk un us vk vn vs := by rw [e1, hU, hV, veq_val hu0 hu3 hv0 hv3]
              have f2 : r2 = eqF uk un us wk wn ws := by rw [e2, hU, hW, veq_val hu0 hu3 hw0 hw3]
              have n0 : x.toList.isEmpty = true := by rw [h0]; decide +kernel
              have HF : Hid (r1 = eqF uk un us vk vn vs ∧ r2 = eqF uk un us wk wn ws) := ⟨f1, f2⟩
              clear e1 e2 e3 e4 f1 f2 hU hV hW HO2 HG1 HG2 h0 hu0 hu3 hv0 hv3 hw0 hw3
              go_wp2_with fail
              refine (eq_any uk un us vk vn vs WJ).mono ?_
              rintro e _ ⟨rfl, rfl⟩
              rw [← HF.out.1]
              have hrr : (r1 == r1) = true := by simp
              go_wp2_with fail
              refine (eq_any uk un us wk wn ws WJ).mono ?_
              rintro e _ ⟨rfl, rfl⟩
              rw [← HF.out.2]
              have hrr2 : (r2 == r2) = true := by simp
              go_wp2_with fail
              go_ret
              exact ⟨rfl, bl⟩
            · have n0 := not_nil h0
              by_cases h1 : x = ⟨#[95]⟩
              · obtain ⟨e1, e2, e3, e4⟩ := HO2.out.anon h1
                have q1 := HG1.out
                rw [e3] at q1
                have q2 := HG2.out
                rw [e4] at q2
                obtain ⟨-, rfl⟩ := q1
                obtain ⟨-, rfl⟩ := q2
                subst e1
                subst e2
                have n1 : (x.toList == [95]) = true := by rw [is_under]; simp [h1]
                clear e3 e4 hU hV hW HO2 HG1 HG2 h0 h1 hu0 hu3 hv0 hv3 hw0 hw3
                go_wp2_with fail
                go_ret
                exact ⟨rfl, bl⟩
              · have n1 : (x.toList == [95]) = false := by rw [is_under]; simp [h1]
                by_cases hz : x = z
                · obtain ⟨e1, e2, e3, e4⟩ := HO2.out.same h0 h1 hz
                  have q1 := HG1.out
                  rw [e3] at q1
                  have q2 := HG2.out
                  rw [e4] at q2
                  obtain ⟨g1, rfl⟩ := q1
                  obtain ⟨g2, rfl⟩ := q2
                  have g1' : W = G1 := g1
                  have g2' : W = G2 := g2
                  subst g1'
                  subst g2'
                  subst e2
                  have f1 : r1 = eqF wk wn ws vk vn vs := by rw [e1, hW, hV, veq_val hw0 hw3 hv0 hv3]
                  have n2 : (x.toList == z.toList) = true := by rw [hz]; simp
                  have HF : Hid (r1 = eqF wk wn ws vk vn vs) := f1
                  have heW := fun w' => veq_same W w'
                  clear e1 e3 e4 f1 hU hV hW HO2 HG1 HG2 h0 h1 hz g1 g2 hu0 hu3 hv0 hv3 hw0 hw3
                  go_wp2_with fail
                  refine (eq_any wk wn ws vk vn vs WJ).mono ?_
                  rintro e _ ⟨rfl, rfl⟩
                  rw [← HF.out]
                  have hrr : (r1 == r1) = true := by simp
                  go_wp2_with fail
                  go_ret
                  exact ⟨rfl, bl⟩
                · obtain ⟨e1, e2, e3, e4⟩ := HO2.out.other h0 h1 hz
                  have q1 := HG1.out
                  rw [e3] at q1
                  have q2 := HG2.out
                  rw [e4] at q2
                  obtain ⟨g1, rfl⟩ := q1
                  obtain ⟨g2, rfl⟩ := q2
                  have g1' : V = G1 := g1
                  have g2' : V = G2 := g2
                  subst g1'
                  subst g2'
                  subst e1
                  have f2 : r2 = eqF vk vn vs wk wn ws := by rw [e2, hV, hW, veq_val hv0 hv3 hw0 hw3]
                  have n2 : (x.toList == z.toList) = false := by
                    cases hb : (x.toList == z.toList) with
                    | false => rfl
                    | true => exact absurd (str_eq hb) hz
                  have HF : Hid (r2 = eqF vk vn vs wk wn ws) := f2
                  have heV := fun w' => veq_same V w'
                  clear e2 e3 e4 f2 hU hV hW HO2 HG1 HG2 h0 h1 hz g1 g2 hu0 hu3 hv0 hv3 hw0 hw3
                  go_wp2_with fail
                  refine (eq_any vk vn vs wk wn ws WJ).mono ?_
                  rintro e _ ⟨rfl, rfl⟩
                  rw [← HF.out]
                  have hrr : (r2 == r2) = true := by simp
                  go_wp2_with fail
                  go_ret
                  exact ⟨rfl, bl⟩
          · have HP : Hid (prop z = true) := hp
            clear hp
            have cW := nW.cells
            go_wp2_with fail
            refine Calls.mono (bind_any w.heap.size (bw + 1) z W.k W.n W.s [] W3 nE (by simp) (by omega)) ?_
            rintro e WA ⟨rfl, hE, hK⟩
            have nU := nU.kp hK (by omega)
            have nV := nV.kp hK (by omega)
            have nW := nW.kp hK (by omega)
            have bl := bl.trans hK.below
            have hst : start z W = [] ++ [(z, ⟨W.k, W.n, W.s⟩)] := by unfold start; rw [HP.out]; rfl
            rw [← hst] at hE
            clear hst nE hK cW
            have cU := nU.cells
            have cV := nV.past
            go_wp2_with fail
            clear cU cV nU
            have nT := HasT.new WA x U
            have lT : bw + 1 < WA.heap.size := hE.lt
            have nV := nV.later (one_below WA (.cells #[.string ⟨#[]⟩, .int .i64 0, .int .i64 0, .string x, .string ⟨#[]⟩, .int .i64 U.k, .int .i64 U.n, .string U.s, .pointer none] 37))
            have nW := nW.later (one_below WA (.cells #[.string ⟨#[]⟩, .int .i64 0, .int .i64 0, .string x, .string ⟨#[]⟩, .int .i64 U.k, .int .i64 U.n, .string U.s, .pointer none] 37))
            have hE := hE.later (one_below WA (.cells #[.string ⟨#[]⟩, .int .i64 0, .int .i64 0, .string x, .string ⟨#[]⟩, .int .i64 U.k, .int .i64 U.n, .string U.s, .pointer none] 37))
            have bl := bl.alloc bl.size (.cells #[.string ⟨#[]⟩, .int .i64 0, .int .i64 0, .string x, .string ⟨#[]⟩, .int .i64 U.k, .int .i64 U.n, .string U.s, .pointer none] 37)
            generalize WA.alloc (.cells #[.string ⟨#[]⟩, .int .i64 0, .int .i64 0, .string x, .string ⟨#[]⟩, .int .i64 U.k, .int .i64 U.n, .string U.s, .pointer none] 37) = WB at nT nV nW hE bl ⊢
            generalize WA.heap.size = bt at nT lT ⊢
            refine Calls.mono (match_any w.heap.size (bw + 1) x U V (start z W) WB hE (by have := start_len z W; omega) (by omega)) ?_
            rintro e WC ⟨rfl, hE, hK⟩
            have nV := nV.kp hK (by omega)
            have nW := nW.kp hK (by omega)
            have nT := nT.kp hK (by omega)
            have bl := bl.trans hK.below
            have hlen2 : (matchF x U V (start z W)).2.length ≤ 2 := by have := start_len z W; have := matchF_len x U V (start z W); omega
            have O := out_of x z U V W
            generalize (matchF x U V (start z W)).1 = r1 at O ⊢
            generalize (matchF x U V (start z W)).2 = L2 at O hE hlen2
            have HO : Hid (Out x z U V W r1 (matchF x U W L2).1 (getF L2 x) (getF (matchF x U W L2).2 x) (getF (matchF x U W L2).2 z)) := O
            clear hK O
            go_wp2_with fail
            refine Calls.mono (get_any w.heap.size (bw + 1) x L2 WC hE (by omega)) ?_
            rintro e WD ⟨rfl, hb⟩
            have nV := nV.later hb
            have nW := nW.later hb
            have nT := nT.later hb
            have hE := hE.later hb
            have bl := bl.trans (hb.mono bl.size)
            clear hb
            generalize hG1 : (getF L2 x).getD z0 = G1
            generalize hB1 : (getF L2 x).isSome = b1
            have HG1 : Hid ((getF L2 x).getD z0 = G1 ∧ (getF L2 x).isSome = b1) := ⟨hG1, hB1⟩
            clear hG1 hB1
            have cT := nT.past
            have cW := nW.past
            go_wp2_with fail
            clear cT cW
            have nG1 := Has.new WD G1
            have lG1 : bw + 1 < WD.heap.size := hE.lt
            have nV := nV.later (one_below WD (.cells #[.int .i64 G1.k, .int .i64 G1.n, .string G1.s] 25))
            have nW := nW.later (one_below WD (.cells #[.int .i64 G1.k, .int .i64 G1.n, .string G1.s] 25))
            have hE := hE.later (one_below WD (.cells #[.int .i64 G1.k, .int .i64 G1.n, .string G1.s] 25))
            have bl := bl.alloc bl.size (.cells #[.int .i64 G1.k, .int .i64 G1.n, .string G1.s] 25)
            generalize WD.alloc (.cells #[.int .i64 G1.k, .int .i64 G1.n, .string G1.s] 25) = WE at nG1 nV nW hE bl ⊢
            generalize WD.heap.size = bg1 at nG1 lG1 ⊢
            clear nT
            refine Calls.mono (match_any w.heap.size (bw + 1) x U W L2 WE hE (by omega) (by omega)) ?_
            rintro e WF ⟨rfl, hE, hK⟩
            have nV := nV.kp hK (by omega)
            have nW := nW.kp hK (by omega)
            have nG1 := nG1.kp hK (by omega)
            have bl := bl.trans hK.below
            have hlen3 : (matchF x U W L2).2.length ≤ 3 := by have := matchF_len x U W L2; omega
            have O := HO.out
            generalize (matchF x U W L2).1 = r2 at O ⊢
            generalize (matchF x U W L2).2 = L3 at O hE hlen3
            have HO2 : Hid (Out x z U V W r1 r2 (getF L2 x) (getF L3 x) (getF L3 z)) := O
            clear hK O HO
            go_wp2_with fail
            refine Calls.mono (get_any w.heap.size (bw + 1) x L3 WF hE (by omega)) ?_
            rintro e WG ⟨rfl, hb⟩
            have nV := nV.later hb
            have nW := nW.later hb
            have nG1 := nG1.later hb
            have hE := hE.later hb
            have bl := bl.trans (hb.mono bl.size)
            clear hb
            generalize hG2 : (getF L3 x).getD z0 = G2
            generalize hB2 : (getF L3 x).isSome = b2
            have HG2 : Hid ((getF L3 x).getD z0 = G2 ∧ (getF L3 x).isSome = b2) := ⟨hG2, hB2⟩
            clear hG2 hB2
            go_wp2_with fail
            have nG2 := Has.new WG G2
            have nV := nV.later (one_below WG (.cells #[.int .i64 G2.k, .int .i64 G2.n, .string G2.s] 25))
            have nW := nW.later (one_below WG (.cells #[.int .i64 G2.k, .int .i64 G2.n, .string G2.s] 25))
            have nG1 := nG1.later (one_below WG (.cells #[.int .i64 G2.k, .int .i64 G2.n, .string G2.s] 25))
            have hE := hE.later (one_below WG (.cells #[.int .i64 G2.k, .int .i64 G2.n, .string G2.s] 25))
            have bl := bl.alloc bl.size (.cells #[.int .i64 G2.k, .int .i64 G2.n, .string G2.s] 25)
            generalize WG.alloc (.cells #[.int .i64 G2.k, .int .i64 G2.n, .string G2.s] 25) = WH at nG2 nG1 nV nW hE bl ⊢
            generalize WG.heap.size = bg2 at nG2 ⊢
            have hgz : getF L3 z = some W := by rw [HO2.out.kept, HP.out]; rfl
            refine Calls.mono (get_some w.heap.size (bw + 1) z W L3 WH hE (by omega) hgz) ?_
            rintro e WI ⟨rfl, hb⟩
            have nV := nV.later hb
            have nW := nW.later hb
            have nG1 := nG1.later hb
            have nG2 := nG2.later hb
            have bl := bl.trans (hb.mono bl.size)
            clear hb hgz hE
            go_wp2_with fail
            have nGZ := Has.new WI W
            have nV := nV.later (one_below WI (.cells #[.int .i64 W.k, .int .i64 W.n, .string W.s] 25))
            have nW := nW.later (one_below WI (.cells #[.int .i64 W.k, .int .i64 W.n, .string W.s] 25))
            have nG1 := nG1.later (one_below WI (.cells #[.int .i64 W.k, .int .i64 W.n, .string W.s] 25))
            have nG2 := nG2.later (one_below WI (.cells #[.int .i64 W.k, .int .i64 W.n, .string W.s] 25))
            have bl := bl.alloc bl.size (.cells #[.int .i64 W.k, .int .i64 W.n, .string W.s] 25)
            generalize WI.alloc (.cells #[.int .i64 W.k, .int .i64 W.n, .string W.s] 25) = WJ at nGZ nG2 nG1 nV nW bl ⊢
            generalize WI.heap.size = bgz at nGZ ⊢
            refine (prop_any z WJ).mono ?_
            rintro e _ ⟨rfl, rfl⟩
            rw [HP.out]
            have cV := nV.cells
            have cW := nW.cells
            have cG1 := nG1.cells
            have cG2 := nG2.cells
            have cGZ := nGZ.cells
            have hneW := fun w' => vne_same W w'
            clear nV nW nG1 nG2 nGZ
            obtain ⟨hU, hu0, hu3⟩ := HU.out trivial
            obtain ⟨hV, hv0, hv3⟩ := HV.out trivial
            obtain ⟨hW, hw0, hw3⟩ := HW.out trivial
            by_cases h0 : x = ⟨#[]⟩
            · obtain ⟨e1, e2, e3, e4⟩ := HO2.out.value h0
              have q1 := HG1.out
              rw [e3] at q1
              have q2 := HG2.out
              rw [e4] at q2
              obtain ⟨-, rfl⟩ := q1
              obtain ⟨-, rfl⟩ := q2
              have f1 : r1 = eqF uk un us vk vn vs := by rw [e1, hU, hV, veq_val hu0 hu3 hv0 hv3]
              have f2 : r2 = eqF uk un us wk wn ws := by rw [e2, hU, hW, veq_val hu0 hu3 hw0 hw3]
              have n0 : x.toList.isEmpty = true := by rw [h0]; decide +kernel
              have HF : Hid (r1 = eqF uk un us vk vn vs ∧ r2 = eqF uk un us wk wn ws) := ⟨f1, f2⟩
              clear e1 e2 e3 e4 f1 f2 hU hV hW HO2 HG1 HG2 h0 hu0 hu3 hv0 hv3 hw0 hw3
              go_wp2_with fail
              refine (eq_any uk un us vk vn vs WJ).mono ?_
              rintro e _ ⟨rfl, rfl⟩
              rw [← HF.out.1]
              have hrr : (r1 == r1) = true := by simp
              go_wp2_with fail
              refine (eq_any uk un us wk wn ws WJ).mono ?_
              rintro e _ ⟨rfl, rfl⟩
              rw [← HF.out.2]
              have hrr2 : (r2 == r2) = true := by simp
              go_wp2_with fail
              go_ret
              exact ⟨rfl, bl⟩
            · have n0 := not_nil h0
              by_cases h1 : x = ⟨#[95]⟩
              · obtain ⟨e1, e2, e3, e4⟩ := HO2.out.anon h1
                have q1 := HG1.out
                rw [e3] at q1
                have q2 := HG2.out
                rw [e4] at q2
                obtain ⟨-, rfl⟩ := q1
                obtain ⟨-, rfl⟩ := q2
                subst e1
                subst e2
                have n1 : (x.toList == [95]) = true := by rw [is_under]; simp [h1]
                clear e3 e4 hU hV hW HO2 HG1 HG2 h0 h1 hu0 hu3 hv0 hv3 hw0 hw3
                go_wp2_with fail
                go_ret
                exact ⟨rfl, bl⟩
              · have n1 : (x.toList == [95]) = false := by rw [is_under]; simp [h1]
                by_cases hz : x = z
                · obtain ⟨e1, e2, e3, e4⟩ := HO2.out.same h0 h1 hz
                  have q1 := HG1.out
                  rw [e3] at q1
                  have q2 := HG2.out
                  rw [e4] at q2
                  obtain ⟨g1, rfl⟩ := q1
                  obtain ⟨g2, rfl⟩ := q2
                  have g1' : W = G1 := g1
                  have g2' : W = G2 := g2
                  subst g1'
                  subst g2'
                  subst e2
                  have f1 : r1 = eqF wk wn ws vk vn vs := by rw [e1, hW, hV, veq_val hw0 hw3 hv0 hv3]
                  have n2 : (x.toList == z.toList) = true := by rw [hz]; simp
                  have HF : Hid (r1 = eqF wk wn ws vk vn vs) := f1
                  have heW := fun w' => veq_same W w'
                  clear e1 e3 e4 f1 hU hV hW HO2 HG1 HG2 h0 h1 hz g1 g2 hu0 hu3 hv0 hv3 hw0 hw3
                  go_wp2_with fail
                  refine (eq_any wk wn ws vk vn vs WJ).mono ?_
                  rintro e _ ⟨rfl, rfl⟩
                  rw [← HF.out]
                  have hrr : (r1 == r1) = true := by simp
                  go_wp2_with fail
                  go_ret
                  exact ⟨rfl, bl⟩
                · obtain ⟨e1, e2, e3, e4⟩ := HO2.out.other h0 h1 hz
                  have q1 := HG1.out
                  rw [e3] at q1
                  have q2 := HG2.out
                  rw [e4] at q2
                  obtain ⟨g1, rfl⟩ := q1
                  obtain ⟨g2, rfl⟩ := q2
                  have g1' : V = G1 := g1
                  have g2' : V = G2 := g2
                  subst g1'
                  subst g2'
                  subst e1
                  have f2 : r2 = eqF vk vn vs wk wn ws := by rw [e2, hV, hW, veq_val hv0 hv3 hw0 hw3]
                  have n2 : (x.toList == z.toList) = false := by
                    cases hb : (x.toList == z.toList) with
                    | false => rfl
                    | true => exact absurd (str_eq hb) hz
                  have HF : Hid (r2 = eqF vk vn vs wk wn ws) := f2
                  have heV := fun w' => veq_same V w'
                  clear e2 e3 e4 f2 hU hV hW HO2 HG1 HG2 h0 h1 hz g1 g2 hu0 hu3 hv0 hv3 hw0 hw3
                  go_wp2_with fail
                  refine (eq_any vk vn vs wk wn ws WJ).mono ?_
                  rintro e _ ⟨rfl, rfl⟩
                  rw [← HF.out]
                  have hrr : (r2 == r2) = true := by simp
                  go_wp2_with fail
                  go_ret
                  exact ⟨rfl, bl⟩

end Go.Proofs.Qxb6630528a
