/-
  Seat b6629240a. FnResourceMapAddNeverReplacesInPlace (4): the walk.
-/
import Derived.Test.Qxb6629240aPre
import Derived.Test.Qxb6629240aFirst
namespace Go.Proofs.Qxb6629240a
open Go.RowKit Go.Maps

/-- The first loop, k rounds done: B the row, B + 1 the map, B + 2 the variable m, B + 3 .. the messages. -/
structure InvP (w wr : World) (B n k : Nat) (P : Nat → ByteArray) : Prop where
  made : Made wr B (B + 3) n k P
  size : wr.heap.size = B + 3 + k
  below : Below B w wr
  var : wr.cell? ⟨B + 1 + 1, 0, none⟩ = some (.map (some (B + 1)))
  map : MapIs wr (B + 1) k (lcount P k) (fun s => (lastOf P k s).map (B + 3 + ·))

/-- .. in the middle of round k: the message is made, the map not yet written. -/
structure InvM (w wr : World) (B n k : Nat) (P : Nat → ByteArray) : Prop where
  made : Made wr B (B + 3) n (k + 1) P
  size : wr.heap.size = B + 3 + (k + 1)
  below : Below B w wr
  var : wr.cell? ⟨B + 1 + 1, 0, none⟩ = some (.map (some (B + 1)))
  map : MapIs wr (B + 1) k (lcount P k) (fun s => (lastOf P k s).map (B + 3 + ·))

theorem InvP.start (w : World) (n : Nat) (P : Nat → ByteArray) :
    InvP w (((w.alloc (Obj.cells (madeCells #[Value.pointer none] n) 26)).alloc (Obj.map #[] 0)).alloc (Obj.cells #[Value.map (some (w.heap.size + 1))] 32)) w.heap.size n 0 P := by
  have s1 : (w.alloc (Obj.cells (madeCells #[Value.pointer none] n) 26)).heap.size = w.heap.size + 1 := by simp
  have s2 : ((w.alloc (Obj.cells (madeCells #[Value.pointer none] n) 26)).alloc (Obj.map #[] 0)).heap.size = w.heap.size + 1 + 1 := by simp
  have hv : (((w.alloc (Obj.cells (madeCells #[Value.pointer none] n) 26)).alloc (Obj.map #[] 0)).alloc (Obj.cells #[Value.map (some (w.heap.size + 1))] 32)).heap[w.heap.size + 1 + 1]? = some (Obj.cells #[Value.map (some (w.heap.size + 1))] 32) := by
    rw [← s2]; exact (MapKept.heap_alloc _ _).1
  have hm := MapIs.made (w.alloc (Obj.cells (madeCells #[Value.pointer none] n) 26))
  rw [s1] at hm
  have hm2 : MapIs (((w.alloc (Obj.cells (madeCells #[Value.pointer none] n) 26)).alloc (Obj.map #[] 0)).alloc (Obj.cells #[Value.map (some (w.heap.size + 1))] 32)) (w.heap.size + 1) 0 0 (fun _ => none) :=
    hm.of_block (Below.heap_alloc _ _ _ (by rw [s2]; omega))
  refine ⟨⟨((World.rowIs_made w _ n 26).congr (fun i _ => by simp) |>.alloc _).alloc _, fun _ h => absurd h (Nat.not_lt_zero _)⟩, by simp, (((Below.refl _ _).alloc (Nat.le_refl _) _).alloc (by simp) _).alloc (by simp; omega) _, (cell_at hv).trans rfl, hm2.congr rfl (fun s => rfl)⟩

theorem InvP.mid {w wr : World} {B n k : Nat} {P : Nat → ByteArray} (h : InvP w wr B n k P) (hk : k < n) (nm : ByteArray) :
    InvM w ((wr.alloc (.cells (msgCells nm (P k) ((k : Int) + 1)) 30)).setCell ⟨B, k, none⟩ (.pointer (some ⟨wr.heap.size, 0, none⟩))) B n k P := by
  have old : ∀ i, i < wr.heap.size → i ≠ B → ((wr.alloc (.cells (msgCells nm (P k) ((k : Int) + 1)) 30)).setCell ⟨B, k, none⟩ (.pointer (some ⟨wr.heap.size, 0, none⟩))).heap[i]? = wr.heap[i]? := fun i hi hne => by
    rw [Below.heap_setCell _ _ _ _ hne]
    exact Below.heap_alloc _ _ _ hi
  have hz := h.size
  refine ⟨h.made.step hk h.size (by omega) nm, by simp [World.setCell, h.size]; omega, (h.below.alloc (by omega) _).setCell (Nat.le_refl _) _, ?_, h.map.of_block (old _ (by omega) (by omega))⟩
  exact (World.cell?_of_block (w := wr) (a := ⟨B + 1 + 1, 0, none⟩) (old (B + 1 + 1) (by omega) (by omega))).trans h.var

theorem InvM.done {w wr w1 : World} {B n k : Nat} {P : Nat → ByteArray} (h : InvM w wr B n k P) (hg : wr.grownBy w1 (some (B + 1))) (hz : w1.heap.size = wr.heap.size)
    (hm : MapIs w1 (B + 1) (k + 1) (if ((lastOf P k (P k)).map (B + 3 + ·)).isSome then lcount P k else lcount P k + 1) (fun t => if t = P k then some (B + 3 + k) else (lastOf P k t).map (B + 3 + ·))) : InvP w w1 B n (k + 1) P := by
  have hs := h.size
  refine ⟨h.made.kept hg (by omega) (Or.inl (by omega)), hz.trans h.size, h.below.grown hg (by omega) (fun j hj => by cases hj; omega), ?_, hm.congr ?_ ?_⟩
  · exact (World.cell?_of_block (w := wr) (a := ⟨B + 1 + 1, 0, none⟩) (hg.block (B + 1 + 1) (by omega) (fun e => by simp at e))).trans h.var
  · rw [Option.isSome_map]; rfl
  · intro s
    show (if s = P k then some (B + 3 + k) else (lastOf P k s).map (B + 3 + ·)) = (if s = P k then some k else lastOf P k s).map (B + 3 + ·)
    by_cases e : s = P k
    · rw [if_pos e, if_pos e]; rfl
    · rw [if_neg e, if_neg e]

/-- Behind the first loop: the old messages, the map, and (ks of q) new messages. -/
structure St (w wr : World) (B n q ks km cnt : Nat) (P S : Nat → ByteArray) (M : ByteArray → Option Nat) : Prop where
  old : Made wr B (B + 3) n n P
  new : Made wr (B + 3 + n) (B + 3 + n + 1) q ks S
  size : wr.heap.size = B + 3 + n + 1 + ks
  below : Below B w wr
  var : wr.cell? ⟨B + 1 + 1, 0, none⟩ = some (.map (some (B + 1)))
  map : MapIs wr (B + 1) km cnt M

theorem St.start {w wr : World} {B n : Nat} {P : Nat → ByteArray} (h : InvP w wr B n n P) (q : Nat) (S : Nat → ByteArray) :
    St w (wr.alloc (.cells (madeCells #[.pointer none] q) 26)) B n q 0 n (lcount P n) P S (after P n (B + 3) S (B + 3 + n + 1) 0) := by
  have hz := h.size
  have old : ∀ i, i < wr.heap.size → (wr.alloc (.cells (madeCells #[.pointer none] q) 26)).heap[i]? = wr.heap[i]? := fun i hi => Below.heap_alloc _ _ _ hi
  have hm := Made.start wr q (B + 3 + n + 1) S
  rw [hz] at hm
  refine ⟨⟨h.made.row.alloc _, fun j hj => (h.made.msg j hj).of_block (by simp) (old _ (h.made.msg j hj).lt)⟩, hm, by simp [hz], h.below.alloc (by omega) _,
    (World.cell?_of_block (w := wr) (a := ⟨B + 1 + 1, 0, none⟩) (old _ (show B + 1 + 1 < wr.heap.size by omega))).trans h.var, (h.map.of_block (old _ (by omega))).congr rfl (fun s => ?_)⟩
  unfold after
  cases hs : lastOf P n s <;> rfl

theorem St.step {w wr : World} {B n q k km cnt : Nat} {P S : Nat → ByteArray} {M : ByteArray → Option Nat} (h : St w wr B n q k km cnt P S M) (hk : k < q) (nm : ByteArray) :
    St w ((wr.alloc (.cells (msgCells nm (S k) ((k : Int) + 1)) 30)).setCell ⟨B + 3 + n, k, none⟩ (.pointer (some ⟨wr.heap.size, 0, none⟩))) B n q (k + 1) km cnt P S M := by
  have old : ∀ i, i < wr.heap.size → i ≠ B + 3 + n → ((wr.alloc (.cells (msgCells nm (S k) ((k : Int) + 1)) 30)).setCell ⟨B + 3 + n, k, none⟩ (.pointer (some ⟨wr.heap.size, 0, none⟩))).heap[i]? = wr.heap[i]? := fun i hi hne => by
    rw [Below.heap_setCell _ _ _ _ hne]
    exact Below.heap_alloc _ _ _ hi
  have hz := h.size
  have hz' : ((wr.alloc (.cells (msgCells nm (S k) ((k : Int) + 1)) 30)).setCell ⟨B + 3 + n, k, none⟩ (.pointer (some ⟨wr.heap.size, 0, none⟩))).heap.size = wr.heap.size + 1 := by simp [World.setCell]
  refine ⟨⟨h.old.row.of_block (old _ h.old.row.lt (by omega)), fun j hj => (h.old.msg j hj).of_block (by omega) (old _ (h.old.msg j hj).lt (by omega))⟩, h.new.step hk h.size (by omega) nm, by omega, (h.below.alloc (by omega) _).setCell (by show B ≤ B + 3 + n; omega) _, ?_, h.map.of_block (old _ (by omega) (by omega))⟩
  exact (World.cell?_of_block (w := wr) (a := ⟨B + 1 + 1, 0, none⟩) (old (B + 1 + 1) (by omega) (by omega))).trans h.var

theorem add_step' {w wr : World} {B n q k : Nat} {P S : Nat → ByteArray} (h : St w wr B n q q (n + k) (lcount P n + ncount P n S k) P S (after P n (B + 3) S (B + 3 + n + 1) k)) (hk : k < q) (hn : n ≤ 4096) (hq : q ≤ 4096) (hs : (S k).size ≤ maxLen) :
    Calls Try.prog 7 #[.pointer (some ⟨B + 1 + 1, 0, none⟩), .pointer (some ⟨B + 3 + n + 1 + k, 0, none⟩)] wr fun e w' => e = .returned (.tuple #[]) ∧
      St w w' B n q q (n + (k + 1)) (lcount P n + ncount P n S (k + 1)) P S (after P n (B + 3) S (B + 3 + n + 1) (k + 1)) := by
  have hmsg := h.new.msg k hk
  cases hfo : after P n (B + 3) S (B + 3 + n + 1) k (S k) with
  | some x =>
    refine (add_hit hs (B + 1 + 1) (B + 3 + n + 1 + k) x wr h.map hfo h.var hmsg.res).mono ?_
    rintro e w' ⟨rfl, j, rfl⟩
    exact ⟨rfl, h.old.drewN j, h.new.drewN j, h.size, ⟨h.below.os, h.below.tape, h.below.output, h.below.size, h.below.block⟩, h.var, (h.map.mono (by omega)).congr (by rw [ncount_hit hfo]) (fun s => (after_hit hfo s).symm)⟩
  | none =>
    have hz := h.size
    refine (add_miss hs (by unfold maxLen; omega) (B + 1 + 1) (B + 3 + n + 1 + k) wr h.map hfo h.var hmsg.res).mono ?_
    rintro e w' ⟨rfl, hg, hz', hm'⟩
    refine ⟨rfl, h.old.kept hg (by omega) (Or.inl (by omega)), h.new.kept hg (by omega) (Or.inl (by omega)), by omega, h.below.grown hg (by omega) (fun j hj => by cases hj; omega), ?_, hm'.congr (by rw [ncount_miss hfo]; omega) (fun s => (after_miss hfo s).symm)⟩
    exact (World.cell?_of_block (w := wr) (a := ⟨B + 1 + 1, 0, none⟩) (hg.block (B + 1 + 1) (by omega) (fun e => by simp at e))).trans h.var

set_option maxRecDepth 100000 in
set_option maxHeartbeats 1000000 in
theorem never_walk {a a' : Option Addr} {len cap b off len' cap' b' off' : Nat} {P S : Nat → ByteArray} (w : World) (h : Sl w a len cap b off P) (h' : Sl w a' len' cap' b' off' S) :
    Calls Try.prog 4 #[.slice a len cap, .slice a' len' cap'] w fun e w' => e = .returned (.bool true) ∧ Below w.heap.size w w' := by
  have hsm := h.small
  have hsm' := h'.small
  by_cases hbig : len ≤ 4096 ∧ len' ≤ 4096
  · obtain ⟨hb1, hb2⟩ := hbig
    have hmk := run_make_row' (P := Try.prog) 25 26 (.pointer none) 8 Try.underlying25 Try.info26 rfl .i64 .i64 len (by omega) (by omega)
    have hmk' := run_make_row' (P := Try.prog) 25 26 (.pointer none) 8 Try.underlying25 Try.info26 rfl .i64 .i64 len' (by omega) (by omega)
    have hmm := @run_makeMap Try.prog
    go_enter Try.func4, Try.ntmps4
    go_wp2_with fail
    refine (bytes2_any w h h').mono ?_
    rintro e _ ⟨⟨r, rfl⟩, rfl⟩
    cases r
    · go_wp2_with fail
      go_ret
      exact ⟨rfl, Below.refl _ _⟩
    · go_wp2_with fail
      refine (over_any _ _ h h').mono ?_
      rintro e _ ⟨⟨r2, rfl⟩, rfl⟩
      cases r2
      case true =>
        go_wp2_with fail
        go_ret
        exact ⟨rfl, Below.refl _ _⟩
      case false =>
        go_wp2_with fail
        go_loopw [7] (fun i wr => ∃ k : Nat, k ≤ len ∧ i = .int .i64 k ∧ InvP w wr w.heap.size len k P) (fun i _ => len - (intOf i).toNat)
        case atStart => exact ⟨0, Nat.zero_le _, rfl, InvP.start _ _ _⟩
        case round =>
          obtain ⟨k, hk, rfl, hinv⟩ := hrel
          by_cases hlt : k < len
          · have hs1 := h.later (Nat.le_refl _) hinv.below
            have hi := hs1.idx k hlt
            have hc := hs1.cell k hlt
            have hst : ∀ o, (wr.alloc o).cell? ⟨w.heap.size, k, none⟩ = some (.pointer none) := fun o => by rw [(hinv.made.row.alloc o).cell hlt]; simp
            have hfz : ∀ o, (wr.alloc o).frozen? ⟨w.heap.size, k, none⟩ = false := fun o => (hinv.made.row.alloc o).frozen k
            have HI : Hid (InvP w wr w.heap.size len k P) := hinv
            clear hinv hs1 hmk hmk'
            go_wp2_with fail
            have hM := HI.out.mid hlt ⟨#[111, 108, 100]⟩
            unfold msgCells at hM
            generalize (wr.alloc (Obj.cells #[Value.string ⟨#[111, 108, 100]⟩, Value.string ⟨#[]⟩, Value.int IntKind.i64 (↑k + 1), Value.int IntKind.i64 0, Value.string (P k), Value.bool false, Value.slice none 0 0, Value.slice none 0 0, Value.pointer none] 30)).setCell ⟨w.heap.size, k, none⟩ (Value.pointer (some ⟨wr.heap.size, 0, none⟩)) = W2 at hM ⊢
            clear hc hst hfz
            have hs2 := h.later (Nat.le_refl _) hM.below
            have hc2 := hs2.cell k hlt
            have hp2 := hM.made.ptr (j := k) (by omega) (by omega)
            have hv2 := hM.var
            have hmd : MapIs W2.drew (w.heap.size + 1) k (lcount P k) (fun s => (lastOf P k s).map (w.heap.size + 3 + ·)) := hM.map
            obtain ⟨w1, hrun, hg, hsz, hm1⟩ := hmd.store (by unfold maxLen; omega) (h.sz k hlt) (w.heap.size + 3 + k)
            have HD : Hid (InvP w w1 w.heap.size len (k + 1) P) := hM.done ⟨hg.os, hg.tape, hg.output, hg.size, hg.block⟩ hsz hm1
            clear hM hs2 hmd hg hsz hm1
            go_region
            go_wp2
            go_roundw
            case rel => exact ⟨k + 1, by omega, by go_num, HD.out⟩
            case measure => simp [intOf]; omega
          · have : len = k := by omega
            subst this
            have hs2 := St.start hinv len' S
            have hz := hinv.size
            have hv := hinv.var
            clear hinv hmk
            go_wp2
            generalize wr.alloc (Obj.cells (madeCells #[Value.pointer none] len') 26) = wv at hs2 ⊢
            clear hz hv hmk'
            go_loopw [10] (fun i wq => ∃ k : Nat, k ≤ len' ∧ i = .int .i64 k ∧ St w wq w.heap.size len len' k len (lcount P len) P S (after P len (w.heap.size + 3) S (w.heap.size + 3 + len + 1) 0)) (fun i _ => len' - (intOf i).toNat)
            case atStart => exact ⟨0, Nat.zero_le _, rfl, hs2⟩
            case round =>
              obtain ⟨k, hk, rfl, hinv⟩ := hrel
              by_cases hlt : k < len'
              · have hs1 := h'.later (Nat.le_refl _) hinv.below
                have hi := hs1.idx k hlt
                have hc := hs1.cell k hlt
                have hst : ∀ o, (wr.alloc o).cell? ⟨w.heap.size + 3 + len, k, none⟩ = some (.pointer none) := fun o => by rw [(hinv.new.row.alloc o).cell hlt]; simp
                have hfz : ∀ o, (wr.alloc o).frozen? ⟨w.heap.size + 3 + len, k, none⟩ = false := fun o => (hinv.new.row.alloc o).frozen k
                have HI : Hid (St w wr w.heap.size len len' k len (lcount P len) P S (after P len (w.heap.size + 3) S (w.heap.size + 3 + len + 1) 0)) := hinv
                clear hinv hs1
                go_wp2
                go_roundw
                case rel => exact ⟨k + 1, by omega, by go_num, HI.out.step hlt _⟩
                case measure => simp [intOf]; omega
              · have : len' = k := by omega
                subst this
                go_wp2
                go_loopw [11] (fun i wq => ∃ k : Nat, k ≤ len' ∧ i = .int .i64 k ∧ St w wq w.heap.size len len' len' (len + k) (lcount P len + ncount P len S k) P S (after P len (w.heap.size + 3) S (w.heap.size + 3 + len + 1) k)) (fun i _ => len' - (intOf i).toNat)
                case atStart => exact ⟨0, Nat.zero_le _, rfl, hinv⟩
                case round =>
                  obtain ⟨k, hk, rfl, hinv⟩ := hrel
                  by_cases hlt : k < len'
                  · have hst := hinv.new.ptr hlt (Nat.le_refl _)
                    have HI : Hid (St w wr w.heap.size len len' len' (len + k) (lcount P len + ncount P len S k) P S (after P len (w.heap.size + 3) S (w.heap.size + 3 + len + 1) k)) := hinv
                    clear hinv
                    go_wp2_with fail
                    refine (add_step' HI.out hlt hb1 hb2 (h'.sz k hlt)).mono ?_
                    rintro e w' ⟨rfl, hinv'⟩
                    go_wp2
                    go_roundw
                    case rel => exact ⟨k + 1, by omega, by go_num, hinv'⟩
                    case measure => simp [intOf]; omega
                  · have : len' = k := by omega
                    subst this
                    have hv := hinv.var
                    have hme := fun w' : World => run_eql_map_nil (P := Try.prog) w' 32 9 26 (some (w.heap.size + 1)) Try.underlying32
                    go_wp2
                    go_loopw [12, 13] (fun c i wq => ∃ k : Nat, k ≤ len ∧ i = .int .i64 k ∧ c = .int .i64 (countL P len k) ∧ ∃ m, wq = wr.drewN m) (fun _ i _ => len - (intOf i).toNat)
                    case atStart => exact ⟨0, Nat.zero_le _, rfl, rfl, 0, rfl⟩
                    case round =>
                      obtain ⟨k, hk, rfl, rfl, m, rfl⟩ := hrel
                      have hcl := countL_le P len k
                      by_cases hlt : k < len
                      · have hs3 := h.later (Nat.le_refl _) hinv.below
                        have hi := hs3.idx k hlt
                        have hcx := hs3.cell k hlt
                        go_wp2_with fail
                        refine (last_any (wr.drewN m) (hs3.same rfl) k hlt).mono ?_
                        rintro e _ ⟨l, hl, rfl, m2, rfl⟩
                        have hlk := fun j => hinv.map.hit (h.sz k hlt) (after_old hl.of) j
                        have hll := hl.lt
                        have hpf := hinv.old.ptr (j := l) (by omega) (Nat.le_refl _)
                        have hns := neq_same ⟨w.heap.size + 3 + l, 0, none⟩
                        by_cases hfk : l = k
                        · subst hfk
                          have HD : Hid (countL P len (l + 1) = countL P len l + 1) := hl.count_same
                          go_wp2
                          go_quiet (fail)
                          go_wp2
                          go_roundw
                          case rel => exact ⟨l + 1, by omega, by go_num, by rw [HD.out]; go_num, _, rfl⟩
                          case measure => simp [intOf]; omega
                        · have hne : ((l : Int) == (k : Int)) = false := by rw [beq_eq_false_iff_ne]; omega
                          have HD : Hid (countL P len (k + 1) = countL P len k) := hl.count_other hfk
                          go_wp2
                          go_quiet (fail)
                          go_wp2
                          go_roundw
                          case rel => exact ⟨k + 1, by omega, by go_num, by rw [HD.out], _, rfl⟩
                          case measure => simp [intOf]; omega
                      · have : len = k := by omega
                        subst this
                        go_wp2
                        have hcw : countL P len len = lcount P len := countL_all P len
                        rw [hcw]
                        clear hcw
                        go_loopw [12, 17] (fun c i wq => ∃ k : Nat, k ≤ len' ∧ i = .int .i64 k ∧ c = .int .i64 ((lcount P len + ncount P len S k : Nat) : Int) ∧ ∃ m, wq = wr.drewN m) (fun _ i _ => len' - (intOf i).toNat)
                        case atStart => exact ⟨0, Nat.zero_le _, rfl, rfl, _, rfl⟩
                        case round =>
                          obtain ⟨k, hk, rfl, rfl, m, rfl⟩ := hrel
                          have hn1 := lcount_le P len
                          have hn2 := ncount_le P len S k
                          by_cases hlt : k < len'
                          · have hs3 := h.later (Nat.le_refl _) hinv.below
                            have hs4 := h'.later (Nat.le_refl _) hinv.below
                            have hi := hs4.idx k hlt
                            have hcx := hs4.cell k hlt
                            have hp := hinv.new.ptr hlt (Nat.le_refl _)
                            have h4 := (hinv.new.msg k hlt).res
                            have h2 := (hinv.new.msg k hlt).line
                            cases hla : lastOf P len (S k) with
                            | some l =>
                              have hlk := fun j => hinv.map.hit (h'.sz k hlt) (after_old hla) j
                              have hns := neq_same ⟨w.heap.size + 3 + l, 0, none⟩
                              have HD : Hid (ncount P len S (k + 1) = ncount P len S k) := ncount_old (by rw [hla]; rfl)
                              have hhb : hasB P len (S k) = true := by rw [hasB_last, hla]; rfl
                              clear hla
                              go_wp2
                              go_quiet (fail)
                              go_wp2
                              go_quiet (fail)
                              go_wp2_with fail
                              refine Calls.mono (has_any (S := P) (b := b) (off := off) (S k) _ ?_) ?_
                              · exact hs3.same rfl
                              rintro e _ ⟨rfl, rfl⟩
                              rw [hhb]
                              go_wp2_with fail
                              go_roundw
                              case rel => exact ⟨k + 1, by omega, by go_num, by first | (rw [HD.out]; done) | (rw [HD.out]; go_num), _, rfl⟩
                              case measure => simp [intOf]; omega
                            | none =>
                              obtain ⟨f, hf⟩ := IsFirst.ex S k
                              have hlk := fun j => hinv.map.hit (h'.sz k hlt) (after_first hla hf hlt) j
                              have hns := neq_same ⟨w.heap.size + 3 + len + 1 + f, 0, none⟩
                              have hhb : hasB P len (S k) = false := by rw [hasB_last, hla]; rfl
                              have HL : Hid (lastOf P len (S k) = none) := hla
                              have hle := hf.le
                              have hpf := hinv.new.ptr (j := f) (by omega) (Nat.le_refl _)
                              clear hla
                              go_wp2
                              go_quiet (fail)
                              go_wp2
                              go_quiet (fail)
                              go_wp2_with fail
                              refine Calls.mono (has_any (S := P) (b := b) (off := off) (S k) _ ?_) ?_
                              · exact hs3.same rfl
                              rintro e _ ⟨rfl, rfl⟩
                              rw [hhb]
                              go_wp2_with fail
                              refine Calls.mono (first_any (S := S) (b := b') (off := off') _ ?_ k hlt) ?_
                              · exact hs4.same rfl
                              rintro e _ ⟨f', hf', rfl, m2, rfl⟩
                              obtain rfl : f = f' := hf.uniq hf'
                              by_cases hfk : f = k
                              · subst hfk
                                have HD : Hid (ncount P len S (f + 1) = ncount P len S f + 1) := hf.ncount_same HL.out
                                go_wp2
                                go_roundw
                                case rel => exact ⟨f + 1, by omega, by go_num, by rw [HD.out]; go_num, _, rfl⟩
                                case measure => simp [intOf]; omega
                              · have hne : ((f : Int) == (k : Int)) = false := by rw [beq_eq_false_iff_ne]; omega
                                have HD : Hid (ncount P len S (k + 1) = ncount P len S k) := hf.ncount_other hfk HL.out
                                go_wp2
                                go_roundw
                                case rel => exact ⟨k + 1, by omega, by go_num, by first | (rw [HD.out]; done) | (rw [HD.out]; go_num), _, rfl⟩
                                case measure => simp [intOf]; omega
                          · have : len' = k := by omega
                            subst this
                            have hln := fun (j : Nat) (ty : TypeId) => MapIs.len (w := wr.drewN j) (hinv.map.of_block rfl) ty
                            go_wp2
                            go_ret
                            exact ⟨rfl, ⟨hinv.below.os, hinv.below.tape, hinv.below.output, hinv.below.size, hinv.below.block⟩⟩
  · have hlz : 4096 < (len : Int) ∨ 4096 < (len' : Int) := by omega
    go_enter Try.func4, Try.ntmps4
    go_wp2_with fail
    refine (bytes2_any w h h').mono ?_
    rintro e _ ⟨⟨r, rfl⟩, rfl⟩
    cases r
    · go_wp2_with fail
      go_ret
      exact ⟨rfl, Below.refl _ _⟩
    · rcases hlz with hlz | hlz
      all_goals
        go_wp2_with fail
        all_goals
          go_ret
          exact ⟨rfl, Below.refl _ _⟩

end Go.Proofs.Qxb6629240a
