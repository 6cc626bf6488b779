/-
  Seat b6629240a. FnResourceMapAddFirstWinsFromNil (3): the walk.
-/
import Derived.Test.Qxb6629240aLay
import Derived.Lib.Builder
namespace Go.Proofs.Qxb6629240a
open Go.RowKit Go.Maps

theorem Try.info26 : (Try.prog.info? 26).map (fun i => (i.zero, i.size, i.bytes)) = some (some (.pointer none), 1, 8) := by kernel_rfl

theorem info30 : (Try.prog.info? 30).isSome = true := by kernel_rfl
theorem neq_same (a : Addr) (w : World) : (binOp .neq 26 (.pointer (some a)) (.pointer (some a))).run Try.prog w = .ok (.bool false) w := by
  obtain ⟨j, hj⟩ := Option.isSome_iff_exists.1 info30
  exact Lib.run_neq_ptr_same w a Try.underlying26 hj

/-- The messages' loop, k rounds done. -/
structure Inv1 (w wr : World) (n k : Nat) (S : Nat → ByteArray) : Prop where
  made : Made wr w.heap.size (w.heap.size + 1) n k S
  size : wr.heap.size = w.heap.size + 1 + k
  below : Below w.heap.size w wr

theorem Inv1.start (w : World) (n : Nat) (S : Nat → ByteArray) : Inv1 w (w.alloc (.cells (madeCells #[.pointer none] n) 26)) n 0 S :=
  ⟨Made.start _ _ _ _, by simp, (Below.refl _ _).alloc (Nat.le_refl _) _⟩

theorem Inv1.step {w wr : World} {n k : Nat} {S : Nat → ByteArray} (h : Inv1 w wr n k S) (hk : k < n) (nm : ByteArray) :
    Inv1 w ((wr.alloc (.cells (msgCells nm (S k) ((k : Int) + 1)) 30)).setCell ⟨w.heap.size, k, none⟩ (.pointer (some ⟨wr.heap.size, 0, none⟩))) n (k + 1) S :=
  ⟨h.made.step hk h.size (by omega) nm, by simp [World.setCell, h.size]; omega, (h.below.alloc (by rw [h.size]; omega) _).setCell (Nat.le_refl _) _⟩

/-- The adding loop, k rounds done: B the row, B + 1 .. the messages, B + 1 + n the variable m. -/
structure Inv2 (w wr : World) (B n k : Nat) (S : Nat → ByteArray) : Prop where
  made : Made wr B (B + 1) n n S
  below : Below B w wr
  big : B + 1 + n < wr.heap.size
  mp : (k = 0 ∧ wr.cell? ⟨B + 1 + n, 0, none⟩ = some (.map none) ∧ wr.frozen? ⟨B + 1 + n, 0, none⟩ = false) ∨
    (0 < k ∧ ∃ mb, B + 1 + n < mb ∧ wr.cell? ⟨B + 1 + n, 0, none⟩ = some (.map (some mb)) ∧ MapIs wr mb k (dcount S k) (fun s => (firstOf S k s).map (B + 1 + ·)))

theorem Inv2.start {w wr : World} {n : Nat} {S : Nat → ByteArray} (h : Inv1 w wr n n S) : Inv2 w (wr.alloc (.cells #[.map none] 32)) w.heap.size n 0 S := by
  have hb : (wr.alloc (.cells #[.map none] 32)).heap[w.heap.size + 1 + n]? = some (.cells #[.map none] 32) := by rw [← h.size]; exact (MapKept.heap_alloc wr _).1
  refine ⟨⟨h.made.row.alloc _, fun j hj => (h.made.msg j hj).of_block (by simp) (Below.heap_alloc _ _ _ (h.made.msg j hj).lt)⟩, h.below.alloc (by rw [h.size]; omega) _, by simp [h.size], Or.inl ⟨rfl, (cell_at hb).trans rfl, ?_⟩⟩
  simp [World.frozen?, hb]

theorem add_step {w wr : World} {B n k : Nat} {S : Nat → ByteArray} (h : Inv2 w wr B n k S) (hk : k < n) (hn : n ≤ 4096) (hs : (S k).size ≤ maxLen) :
    Calls Try.prog 7 #[.pointer (some ⟨B + 1 + n, 0, none⟩), .pointer (some ⟨B + 1 + k, 0, none⟩)] wr fun e w' => e = .returned (.tuple #[]) ∧ Inv2 w w' B n (k + 1) S := by
  have hmsg := h.made.msg k hk
  rcases h.mp with ⟨rfl, hc, hf⟩ | ⟨hk0, mb, hmb, hc, hm⟩
  · refine (add_nil hs (B + 1 + n) (B + 1 + 0) wr h.big hmsg.lt (by omega) hc hf hmsg.res).mono ?_
    rintro e w' ⟨rfl, hg, hz, hc', hm'⟩
    refine ⟨rfl, h.made.kept hg (by omega) (Or.inr (Nat.le_refl _)), h.below.grown hg (by have := h.big; omega) (fun j hj => by cases hj; omega), by have := h.big; omega, Or.inr ⟨by omega, wr.heap.size, h.big, hc', hm'.congr ?_ ?_⟩⟩
    · rfl
    · intro s
      rw [firstOf_miss rfl]
      by_cases e : s = S 0
      · simp [e]
      · simp [e, firstOf]
  · cases hfo : firstOf S k (S k) with
    | some f =>
      refine (add_hit (q' := B + 1 + f) hs (B + 1 + n) (B + 1 + k) wr hm (by rw [hfo]; rfl) hc hmsg.res).mono ?_
      rintro e w' ⟨rfl, j, rfl⟩
      exact ⟨rfl, h.made.drewN j, ⟨h.below.os, h.below.tape, h.below.output, h.below.size, h.below.block⟩, h.big, Or.inr ⟨by omega, mb, hmb, hc, (hm.mono (Nat.le_succ _)).congr (dcount_hit hfo).symm (fun s => by rw [firstOf_hit hfo])⟩⟩
    | none =>
      refine (add_miss hs (by unfold maxLen; omega) (B + 1 + n) (B + 1 + k) wr hm (by rw [hfo]; rfl) hc hmsg.res).mono ?_
      rintro e w' ⟨rfl, hg, hz, hm'⟩
      refine ⟨rfl, h.made.kept hg (by omega) (Or.inr (by omega)), h.below.grown hg (by have := h.big; omega) (fun j hj => by cases hj; omega), by have := h.big; omega, Or.inr ⟨by omega, mb, hmb, ?_, hm'.congr (dcount_miss hfo).symm ?_⟩⟩
      · exact (World.cell?_of_block (w := wr) (a := ⟨B + 1 + n, 0, none⟩) (hg.block _ h.big (fun e => by simp at e; omega))).trans hc
      · intro s
        rw [firstOf_miss hfo]
        by_cases e : s = S k
        · simp [e]
        · simp [e]

set_option maxRecDepth 100000 in
set_option maxHeartbeats 1000000 in
theorem first_walk {a : Option Addr} {len cap b off : Nat} {S : Nat → ByteArray} (w : World) (h : Sl w a len cap b off S) :
    Calls Try.prog 3 #[.slice a len cap] w fun e w' => e = .returned (.bool true) ∧ Below w.heap.size w w' := by
  have hsm := h.small
  by_cases hbig : len ≤ 4096
  · have hmk := run_make_row' (P := Try.prog) 25 26 (.pointer none) 8 Try.underlying25 Try.info26 rfl .i64 .i64 len (by omega) (by omega)
    go_enter Try.func3, Try.ntmps3
    go_wp2_with fail
    refine (bytes1_any w h).mono ?_
    rintro e _ ⟨⟨r, rfl⟩, rfl⟩
    cases r
    · go_wp2_with fail
      go_ret
      exact ⟨rfl, Below.refl _ _⟩
    · go_wp2_with fail
      refine (over_any _ _ h (Sl.nil _ none 0)).mono ?_
      rintro e _ ⟨⟨r2, rfl⟩, rfl⟩
      cases r2
      case true =>
        go_wp2_with fail
        go_ret
        exact ⟨rfl, Below.refl _ _⟩
      case false =>
        go_wp2_with fail
        go_loopw [4] (fun i wr => ∃ k : Nat, k ≤ len ∧ i = .int .i64 k ∧ Inv1 w wr len k S) (fun i _ => len - (intOf i).toNat)
        case atStart => exact ⟨0, Nat.zero_le _, rfl, Inv1.start _ _ _⟩
        case round =>
          obtain ⟨k, hk, rfl, hinv⟩ := hrel
          by_cases hlt : k < len
          · have hs1 := h.later (Nat.le_refl _) hinv.below
            have hi := hs1.idx k hlt
            have hc := hs1.cell k hlt
            have hst : ∀ o, (wr.alloc o).cell? ⟨w.heap.size, k, none⟩ = some (.pointer none) := fun o => by rw [(hinv.made.row.alloc o).cell hlt]; simp
            have hfz : ∀ o, (wr.alloc o).frozen? ⟨w.heap.size, k, none⟩ = false := fun o => (hinv.made.row.alloc o).frozen k
            have HI : Hid (Inv1 w wr len k S) := hinv
            clear hinv hs1
            go_wp2
            go_roundw
            case rel => exact ⟨k + 1, by omega, by go_num, HI.out.step hlt _⟩
            case measure => simp [intOf]; omega
          · have : len = k := by omega
            subst this
            have hs2 := (Inv2.start hinv)
            have hz := hinv.size
            clear hinv hmk
            go_wp2
            generalize wr.alloc (Obj.cells #[Value.map none] 32) = wv at hs2 ⊢
            clear hz
            go_loopw [6] (fun i wq => ∃ k : Nat, k ≤ len ∧ i = .int .i64 k ∧ Inv2 w wq w.heap.size len k S) (fun i _ => len - (intOf i).toNat)
            case atStart => exact ⟨0, Nat.zero_le _, rfl, hs2⟩
            case round =>
              obtain ⟨k, hk, rfl, hinv⟩ := hrel
              by_cases hlt : k < len
              · have hst := hinv.made.ptr hlt (Nat.le_refl _)
                have HI : Hid (Inv2 w wr w.heap.size len k S) := hinv
                clear hinv
                go_wp2_with fail
                refine (add_step HI.out hlt hbig (h.sz k hlt)).mono ?_
                rintro e w' ⟨rfl, hinv'⟩
                go_wp2
                go_roundw
                case rel => exact ⟨k + 1, by omega, by go_num, hinv'⟩
                case measure => simp [intOf]; omega
              · have : len = k := by omega
                subst this
                rcases hinv.mp with ⟨h0, hc, _⟩ | ⟨h0, mb, hmb, hc, hm⟩
                · have hme := fun w' : World => run_eql_map_nil (P := Try.prog) w' 32 9 26 none Try.underlying32
                  have hln := fun (w' : World) (ty : TypeId) => Maps.len_nil (P := Try.prog) (w := w') Try.underlying32 ty
                  subst h0
                  go_wp2
                  refine wp_loop_rounds 1 ?_
                  rw [rounds_succ]
                  go_wp2
                  go_ret
                  exact ⟨rfl, hinv.below⟩
                · have hme := fun w' : World => run_eql_map_nil (P := Try.prog) w' 32 9 26 (some mb) Try.underlying32
                  have hl0 : ((len : Int) == 0) = false := by rw [beq_eq_false_iff_ne]; omega
                  go_wp2
                  go_loopw [7, 8] (fun d i wq => ∃ k : Nat, k ≤ len ∧ i = .int .i64 k ∧ d = .int .i64 (dcount S k) ∧ ∃ m, wq = wr.drewN m) (fun _ i _ => len - (intOf i).toNat)
                  case atStart => exact ⟨0, Nat.zero_le _, rfl, rfl, 0, rfl⟩
                  case round =>
                    obtain ⟨k, hk, rfl, rfl, m, rfl⟩ := hrel
                    have hdl := dcount_le S k
                    by_cases hlt : k < len
                    · have hs3 := h.later (Nat.le_refl _) hinv.below
                      have hi := hs3.idx k hlt
                      have hcx := hs3.cell k hlt
                      have hp := hinv.made.ptr hlt (Nat.le_refl _)
                      have h4 := (hinv.made.msg k hlt).res
                      have h2 := (hinv.made.msg k hlt).line
                      go_wp2
                      go_quiet (fail)
                      go_wp2_with fail
                      refine (first_any (wr.drewN (m + nq)) (hs3.same rfl) k hlt).mono ?_
                      rintro e _ ⟨f, hf, rfl, m2, rfl⟩
                      have hl := fun j => hm.hit (h.sz k hlt) (q := w.heap.size + 1 + f) (by rw [hf.of hlt]; rfl) j
                      have hle := hf.le
                      have hpf := hinv.made.ptr (j := f) (by omega) (Nat.le_refl _)
                      have hns := neq_same ⟨w.heap.size + 1 + f, 0, none⟩
                      by_cases hfk : f = k
                      · subst hfk
                        have hdc := hf.dcount_same
                        have HD : Hid (dcount S (f + 1) = dcount S f + 1) := hdc
                        clear hdc
                        go_wp2
                        go_quiet (fail)
                        go_wp2
                        go_roundw
                        case rel => exact ⟨f + 1, by omega, by go_num, by rw [HD.out]; go_num, _, rfl⟩
                        case measure => simp [intOf]; omega
                      · have hne : ((f : Int) == (k : Int)) = false := by rw [beq_eq_false_iff_ne]; omega
                        have hdc := hf.dcount_other hfk
                        have HD : Hid (dcount S (k + 1) = dcount S k) := hdc
                        clear hdc
                        go_wp2
                        go_quiet (fail)
                        go_wp2
                        go_roundw
                        case rel => exact ⟨k + 1, by omega, by go_num, by rw [HD.out], _, rfl⟩
                        case measure => simp [intOf]; omega
                    · have : len = k := by omega
                      subst this
                      have hln := fun (j : Nat) (ty : TypeId) => MapIs.len (w := wr.drewN j) (hm.of_block rfl) ty
                      go_wp2
                      go_ret
                      exact ⟨rfl, ⟨hinv.below.os, hinv.below.tape, hinv.below.output, hinv.below.size, hinv.below.block⟩⟩
  · go_enter Try.func3, Try.ntmps3
    go_wp2_with fail
    refine (bytes1_any w h).mono ?_
    rintro e _ ⟨⟨r, rfl⟩, rfl⟩
    cases r
    all_goals
      go_wp2_with fail
      go_ret
      exact ⟨rfl, Below.refl _ _⟩

end Go.Proofs.Qxb6629240a
