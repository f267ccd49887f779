/-
  Seat b6614303a. newPartition (23), walked.
-/
import Derived.Test.Qxb6614303aNew
import Derived.Handy
import Derived.Lib.OwnBridge
namespace Go.Proofs.Qxb6614303a
open Go.RowKit
set_option linter.unusedVariables false

theorem setCell_size (w : World) (a : Addr) (v : Value) : (w.setCell a v).heap.size = w.heap.size := by simp [World.setCell]
theorem Apart.symm {u v : Value} (h : Apart u v) : Apart v u := fun k hk e => h k e hk

theorem PB.grown {w w' : World} {b : Nat} {v0 v1 v2 v3 : Value} {base : Nat} {v : Value} {n : Nat} {xs : List Value} (h : PB w b v0 v1 v2 v3) (ho : w.ownsRow base 2 1 v n xs) (hg : w.grownBy w' v.ownBlock) : PB w' b v0 v1 v2 v3 := by
  refine (hg.block b h.cells.2.2.2.2.2 (fun e => ?_)).trans h
  obtain ⟨c, hc⟩ := owns_tag ho e.symm
  have h' : w.heap[b]? = _ := h
  rw [h'] at hc
  simp at hc
theorem PB.ne {w : World} {b : Nat} {v0 v1 v2 v3 : Value} {base : Nat} {v : Value} {n : Nat} {xs : List Value} {e : TypeId} {s : Nat} (h : PB w b v0 v1 v2 v3) (ho : w.ownsRow base e s v n xs) (he : e ≠ 72) : ∀ k, v.ownBlock = some k → k ≠ b := by
  intro k hk e'
  subst e'
  obtain ⟨c, hc⟩ := owns_tag ho hk
  have h' : w.heap[k]? = _ := h
  rw [h'] at hc
  simp at hc
  exact he hc.2.symm

/-- The first row grows by one. -/
theorem New1.app0 {w0 wr w' : World} {b : Nat} {lv bf : Value} {L M : List Int} {y : Int} {x' : Option Addr} {z' : Nat} {v2 v3 : Value} (hB : Below w0.heap.size w0 wr) (hb : w0.heap.size ≤ b) (hp : PB wr b lv bf v2 v3) (h1 : wr.ownsRow w0.heap.size 2 1 lv L.length (ints L)) (h2 : wr.ownsRow w0.heap.size 2 1 bf M.length (ints M)) (ha : Apart lv bf)
    (ho : w'.ownsRow w0.heap.size 2 1 (.slice x' (L.length + 1) z') (L ++ [y]).length (ints (L ++ [y]))) (hg : wr.grownBy w' lv.ownBlock) (hat : (Value.slice x' (L.length + 1) z').ownBlock = lv.ownBlock ∨ ∃ k, (Value.slice x' (L.length + 1) z').ownBlock = some k ∧ wr.heap.size ≤ k) :
    PB w' b lv bf v2 v3 ∧ Below w0.heap.size w0 (w'.setCell ⟨b, 0, none⟩ (.slice x' (L.length + 1) z')) ∧ PB (w'.setCell ⟨b, 0, none⟩ (.slice x' (L.length + 1) z')) b (.slice x' (L.length + 1) z') bf v2 v3 ∧
    (w'.setCell ⟨b, 0, none⟩ (.slice x' (L.length + 1) z')).ownsRow w0.heap.size 2 1 (.slice x' (L.length + 1) z') (L ++ [y]).length (ints (L ++ [y])) ∧ (w'.setCell ⟨b, 0, none⟩ (.slice x' (L.length + 1) z')).ownsRow w0.heap.size 2 1 bf M.length (ints M) ∧ Apart (.slice x' (L.length + 1) z') bf := by
  have hp' := hp.grown h1 hg
  have h2' : w'.ownsRow w0.heap.size 2 1 bf M.length (ints M) := owns_of_block h2 fun k hk => hg.block k (owns_lt h2 hk) (fun e => ha k e.symm hk)
  have hBw : Below w0.heap.size w0 w' := ⟨hg.os.trans hB.os, hg.tape.trans hB.tape, hg.output.trans hB.output, Nat.le_trans hB.size hg.size, fun k hk => (hg.block k (by have := hB.size; omega) (fun e => by have := (h1.lt k e.symm).1; omega)).trans (hB.block k hk)⟩
  refine ⟨hp', hBw.setCell (by show w0.heap.size ≤ b; omega) _, hp'.set0 _, owns_of_block ho fun k hk => Below.heap_setCell _ _ _ _ (hp'.ne ho (by decide) k hk), owns_of_block h2' fun k hk => Below.heap_setCell _ _ _ _ (hp'.ne h2' (by decide) k hk), ?_⟩
  intro k hk e
  rcases hat with q | ⟨k', q, hq⟩
  · exact ha k (q ▸ hk) e
  · have := owns_lt h2 e
    rw [hk] at q
    simp only [Option.some.injEq] at q
    omega
/-- The second row grows by one. -/
theorem New1.app1 {w0 wr w' : World} {b : Nat} {lv bf : Value} {L M : List Int} {y : Int} {x' : Option Addr} {z' : Nat} {v2 v3 : Value} (hB : Below w0.heap.size w0 wr) (hb : w0.heap.size ≤ b) (hp : PB wr b lv bf v2 v3) (h1 : wr.ownsRow w0.heap.size 2 1 lv L.length (ints L)) (h2 : wr.ownsRow w0.heap.size 2 1 bf M.length (ints M)) (ha : Apart lv bf)
    (ho : w'.ownsRow w0.heap.size 2 1 (.slice x' (M.length + 1) z') (M ++ [y]).length (ints (M ++ [y]))) (hg : wr.grownBy w' bf.ownBlock) (hat : (Value.slice x' (M.length + 1) z').ownBlock = bf.ownBlock ∨ ∃ k, (Value.slice x' (M.length + 1) z').ownBlock = some k ∧ wr.heap.size ≤ k) :
    PB w' b lv bf v2 v3 ∧ Below w0.heap.size w0 (w'.setCell ⟨b, 1, none⟩ (.slice x' (M.length + 1) z')) ∧ PB (w'.setCell ⟨b, 1, none⟩ (.slice x' (M.length + 1) z')) b lv (.slice x' (M.length + 1) z') v2 v3 ∧
    (w'.setCell ⟨b, 1, none⟩ (.slice x' (M.length + 1) z')).ownsRow w0.heap.size 2 1 lv L.length (ints L) ∧ (w'.setCell ⟨b, 1, none⟩ (.slice x' (M.length + 1) z')).ownsRow w0.heap.size 2 1 (.slice x' (M.length + 1) z') (M ++ [y]).length (ints (M ++ [y])) ∧ Apart lv (.slice x' (M.length + 1) z') := by
  have hp' := hp.grown h2 hg
  have h1' : w'.ownsRow w0.heap.size 2 1 lv L.length (ints L) := owns_of_block h1 fun k hk => hg.block k (owns_lt h1 hk) (fun e => ha k hk e.symm)
  have hBw : Below w0.heap.size w0 w' := ⟨hg.os.trans hB.os, hg.tape.trans hB.tape, hg.output.trans hB.output, Nat.le_trans hB.size hg.size, fun k hk => (hg.block k (by have := hB.size; omega) (fun e => by have := (h2.lt k e.symm).1; omega)).trans (hB.block k hk)⟩
  refine ⟨hp', hBw.setCell (by show w0.heap.size ≤ b; omega) _, hp'.set1 _, owns_of_block h1' fun k hk => Below.heap_setCell _ _ _ _ (hp'.ne h1' (by decide) k hk), owns_of_block ho fun k hk => Below.heap_setCell _ _ _ _ (hp'.ne ho (by decide) k hk), ?_⟩
  intro k hk e
  rcases hat with q | ⟨k', q, hq⟩
  · exact ha k hk (q ▸ e)
  · have := owns_lt h1 hk
    rw [e] at q
    simp only [Option.some.injEq] at q
    omega

theorem runs_len (zs : Nat → Int) : ∀ k, (runs zs k).1.length ≤ k ∧ (runs zs k).2.length = (runs zs k).1.length
  | 0 => by simp [runs]
  | k + 1 => by
    have := runs_len zs k
    unfold runs
    split
    · simp; omega
    · omega

theorem runs_pos (zs : Nat → Int) : ∀ k, 0 < k → 0 < (runs zs k).1.length
  | 0, h => absurd h (by omega)
  | k + 1, _ => by
    unfold runs
    split
    · simp
    · rename_i hn
      have : k ≠ 0 := fun e => hn (.inl e)
      exact runs_pos zs k (by omega)
theorem owns_setPB {w : World} {b : Nat} {v0 v1 v2 v3 : Value} {base : Nat} {e : TypeId} {s : Nat} {v : Value} {n : Nat} {xs : List Value} (ho : w.ownsRow base e s v n xs) (h : PB w b v0 v1 v2 v3) (he : e ≠ 72) (p : Nat) (u : Value) : (w.setCell ⟨b, p, none⟩ u).ownsRow base e s v n xs :=
  owns_of_block ho fun k hk => Below.heap_setCell _ _ _ _ (h.ne ho he k hk)
theorem put_block {w : World} {g q k : Nat} {d : Array Int} (h : k ≠ g) : (Sort.putRow (Value.int .i64) (Sort.ahead w q) g 0 d).heap[k]? = w.heap[k]? := by
  simp [Sort.putRow, Sort.mapBlock, Sort.ahead, Array.getElem?_modify, show g ≠ k from fun e => h e.symm]
theorem put_size {w : World} {g q : Nat} {d : Array Int} : (Sort.putRow (Value.int .i64) (Sort.ahead w q) g 0 d).heap.size = w.heap.size := by
  simp [Sort.putRow, Sort.mapBlock, Sort.ahead]
theorem grow_below (w : World) (os : Array Obj) : Below w.heap.size w (Sort.grow w os) :=
  ⟨rfl, rfl, rfl, by simp [Sort.grow], fun k hk => by simp only [Sort.grow]; rw [Array.getElem?_append_left hk]⟩
theorem owns_put {w : World} {g q : Nat} {d : Array Int} {base : Nat} {e : TypeId} {s : Nat} {v : Value} {n : Nat} {xs : List Value} (h : w.ownsRow base e s v n xs) (hne : v.ownBlock ≠ some g) : (Sort.putRow (Value.int .i64) (Sort.ahead w q) g 0 d).ownsRow base e s v n xs :=
  owns_of_block h fun k hk => put_block (fun e => hne (by rw [hk, e]))
theorem PB.put {w : World} {b : Nat} {v0 v1 v2 v3 : Value} {g q : Nat} {d : Array Int} (h : PB w b v0 v1 v2 v3) (hne : b ≠ g) : PB (Sort.putRow (Value.int .i64) (Sort.ahead w q) g 0 d) b v0 v1 v2 v3 := (put_block hne).trans h

theorem own_ne_row {w : World} {base : Nat} {e e' : TypeId} {s : Nat} {v : Value} {n n' : Nat} {xs : List Value} {ta : Nat} {f : Nat → Value} (h : w.ownsRow base e s v n xs) (hr : w.rowIs ta e' n' f) (hne : e ≠ e') : ∀ q, v.ownBlock = some q → q ≠ ta := by
  rintro q hq rfl
  obtain ⟨c, hc⟩ := owns_tag h hq
  obtain ⟨c', hc', _⟩ := hr
  rw [hc] at hc'
  simp only [Option.some.injEq, Obj.cells.injEq] at hc'
  exact hne hc'.2.1
/-- The distinct needs, in increasing order. -/
def dist (L : List Int) : List Int := Lib.compact (L.mergeSort fun x y => decide (x ≤ y))
theorem dist_sorted (L : List Int) : (dist L).Pairwise (· ≤ ·) := by
  have h1 : (L.mergeSort fun x y => decide (x ≤ y)).Pairwise (fun x y => decide (x ≤ y) = true) := List.pairwise_mergeSort (fun a b c h1 h2 => by simp at *; omega) (fun a b => by simp; omega) L
  have h2 : (L.mergeSort fun x y => decide (x ≤ y)).Pairwise (· ≤ ·) := h1.imp (fun h => by simpa using h)
  unfold dist
  generalize (L.mergeSort fun x y => decide (x ≤ y)) = S at h2
  unfold Lib.compact Lib.compactUpTo
  have h3 : (List.range S.length).map (S.toArray[·]!) = S := by
    apply List.ext_getElem
    · simp
    · intro i h1 h2
      simp at h1
      simp [h1]
  refine List.Pairwise.sublist (List.Sublist.map _ List.filter_sublist) ?_
  rw [h3]
  exact h2
/-- What newPartition leaves. -/
def NewEnd (n : Nat) (zs : Nat → Int) (w : World) (e : Ending) (w' : World) : Prop :=
  Below w.heap.size w w' ∧ ∃ pb la lz x2 z2 da dz ta, w.heap.size ≤ pb ∧ e = .returned (.pointer (some ⟨pb, 0, none⟩)) ∧
    PB w' pb (.slice (some ⟨la, 0, none⟩) (runs zs n).1.length lz) (.slice x2 ((runs zs n).2.length + 1) z2) (.slice (some ⟨da, 0, none⟩) (dist (runs zs n).1).length dz) (.slice (some ⟨ta, 0, none⟩) (runs zs n).1.length (runs zs n).1.length) ∧
    w'.ownsRow w.heap.size 2 1 (.slice (some ⟨la, 0, none⟩) (runs zs n).1.length lz) (runs zs n).1.length (ints (runs zs n).1) ∧ w'.ownsRow w.heap.size 2 1 (.slice x2 ((runs zs n).2.length + 1) z2) ((runs zs n).2 ++ [(n : Int)]).length (ints ((runs zs n).2 ++ [(n : Int)])) ∧
    (∃ base, w.heap.size ≤ base ∧ w'.ownsRow base 2 1 (.slice (some ⟨da, 0, none⟩) (dist (runs zs n).1).length dz) (dist (runs zs n).1).length (ints (dist (runs zs n).1))) ∧
    w.heap.size ≤ ta ∧ w'.rowIs ta 3 (runs zs n).1.length (fun q => .int .i64 (((dist (runs zs n).1).countP (· < (runs zs n).1.getD q 0) : Nat) : Int))

set_option maxRecDepth 100000 in
set_option maxHeartbeats 8000000 in
theorem new_any (na no n nz : Nat) (zs : Nat → Int) (w : World) (hx : Xs w na no n zs) (hn : n ≤ 1048576) (hn0 : 0 < n) :
    Calls Try.prog 23 #[.slice (some ⟨na, no, none⟩) n nz] w (NewEnd n zs w) := by
  have HX := hid hx
  clear hx
  go_enter Try.func23, Try.ntmps23
  go_wp2_with fail
  have hB0 : Below w.heap.size w (w.alloc (.cells #[.slice none 0 0, .slice none 0 0, .slice none 0 0, .slice none 0 0, .slice none 0 0, .slice none 0 0, .bool false, .slice none 0 0, .slice none 0 0, .slice none 0 0, .bool true, .slice none 0 0] 72)) := (Below.refl _ _).alloc (Nat.le_refl _) _
  have hp0 : PB (w.alloc (.cells #[.slice none 0 0, .slice none 0 0, .slice none 0 0, .slice none 0 0, .slice none 0 0, .slice none 0 0, .bool false, .slice none 0 0, .slice none 0 0, .slice none 0 0, .bool true, .slice none 0 0] 72)) w.heap.size (.slice none 0 0) (.slice none 0 0) (.slice none 0 0) (.slice none 0 0) := World.alloc_heap_new w _
  obtain ⟨W, hW⟩ : ∃ W, w.alloc (.cells #[.slice none 0 0, .slice none 0 0, .slice none 0 0, .slice none 0 0, .slice none 0 0, .slice none 0 0, .bool false, .slice none 0 0, .slice none 0 0, .slice none 0 0, .bool true, .slice none 0 0] 72) = W := ⟨_, rfl⟩
  rw [hW] at hB0 hp0 ⊢
  obtain ⟨pb, hpb⟩ : ∃ pb, w.heap.size = pb := ⟨_, rfl⟩
  have hpb1 : w.heap.size ≤ pb := by omega
  rw [hpb] at hp0 ⊢
  have H0 : Hid (New1 w pb zs 0 W) := ⟨hB0, hpb1, _, _, hp0, World.ownsRow_nil W _ _ _, World.ownsRow_nil W _ _ _, fun k hk => by simp [Value.ownBlock] at hk⟩
  clear hW hpb hp0 hB0
  go_loopw [13] (fun iv wr => ∃ k : Nat, k ≤ n ∧ iv = .int .i64 k ∧ Hid (New1 w pb zs k wr)) (fun iv _ => n - (intOf iv).toNat)
  case atStart => exact ⟨0, Nat.zero_le _, rfl, H0.out⟩
  case round =>
    obtain ⟨k, hk, rfl, HN⟩ := hrel
    by_cases hlt : k < n
    · obtain ⟨hB, hpb2, lv, bf, hp, hl, hbf, hap⟩ := HN.out
      obtain ⟨lx, lz, rfl⟩ := owns_shape hl
      obtain ⟨bx, bz, rfl⟩ := owns_shape hbf
      obtain ⟨c0, c1, c2, c3, cf, hplt⟩ := hp.cells
      have hkn : (k : Int) < (n : Int) := by omega
      have g0 := keepc (HX.out k hlt) hB
      have cf0 := cf 0
      have cf1 := cf 1
      have hr1 : (runs zs k).1.length ≤ k := (runs_len zs k).1
      have hr2 : (runs zs k).2.length ≤ k := by have := runs_len zs k; omega
      have hsz := hB.size
      have HBk := hid hB
      have HPk := hid hp
      have HLk := hid hl
      have HFk := hid hbf
      have HAk := hid hap
      clear hB hp hl hbf hap cf c2 c3
      by_cases hk0 : k = 0
      · have hkb : ((k : Int) == 0) = true := by simp [hk0]
        have HRU : Hid (runs zs (k + 1) = ((runs zs k).1 ++ [zs k], (runs zs k).2 ++ [(k : Int)])) := by unfold Hid; rw [runs, if_pos (.inl hk0)]
        clear hk0
        go_wp2_with (first
          | (refine wpList_app2 (base := w.heap.size) (v := .slice lx (runs zs k).1.length lz) (zs := (runs zs k).1) (y := zs k) (t := 2) (X := wr) rfl _ _ rfl rfl rfl HLk.out (by omega) (by omega) ?_; intro x1 z1 w1 ho1 hg1 hat1; obtain ⟨q1, q2, q3, q4, q5, q6⟩ := New1.app0 HBk.out hpb2 HPk.out HLk.out HFk.out HAk.out ho1.out hg1.out hat1.out; obtain ⟨d0, -, -, -, df, -⟩ := q1.cells; have df0 := df 0; obtain ⟨d0', d1', -, -, df', hlt1⟩ := q3.cells; have df1 := df' 1; have hs1 := q2.size; have Q2 := hid q2; have Q3 := hid q3; have Q4 := hid q4; have Q5 := hid q5; have Q6 := hid q6; clear q1 q2 q3 q4 q5 q6 df df' ho1 hg1 hat1)
          | (refine wpList_app2 (base := w.heap.size) (v := .slice bx (runs zs k).2.length bz) (zs := (runs zs k).2) (y := (k : Int)) (t := 2) (X := w1.setCell ⟨pb, 0, none⟩ (.slice x1 ((runs zs k).1.length + 1) z1)) rfl _ _ rfl rfl (by rw [setCell_size]; rfl) Q5.out (by omega) (by omega) ?_; intro x2 z2 w2 ho2 hg2 hat2; obtain ⟨r1, r2, r3, r4, r5, r6⟩ := New1.app1 Q2.out hpb2 Q3.out Q4.out Q5.out Q6.out ho2.out hg2.out hat2.out; obtain ⟨-, e1, -, -, ef, -⟩ := r1.cells; have ef1 := ef 1; have R2 := hid r2; have R3 := hid r3; have R4 := hid r4; have R5 := hid r5; have R6 := hid r6; clear r1 r2 r3 r4 r5 r6 ef ho2 hg2 hat2)
          | fail)
        go_roundw
        case rel =>
          refine ⟨k + 1, by omega, by first | rfl | go_num, R2.out, hpb2, _, _, R3.out, ?_, ?_, R6.out⟩
          · rw [HRU.out]; exact R4.out
          · rw [HRU.out]; exact R5.out
        case measure => simp [intOf]; omega
      · obtain ⟨k', rfl⟩ : ∃ k', k = k' + 1 := ⟨k - 1, by omega⟩
        have hk1 : (((k' + 1 : Nat) : Int) - 1) = (k' : Int) := by omega
        have hk1n : (k' : Int) < (n : Int) := by omega
        have g1 := keepc (HX.out k' (by omega)) HBk.out
        by_cases hne : zs (k' + 1) = zs k'
        · have hneb : (zs (k' + 1) != zs k') = false := by simp [hne]
          have HRU : Hid (runs zs (k' + 1 + 1) = runs zs (k' + 1)) := by
            unfold Hid
            rw [runs, if_neg]
            rintro (h | h)
            · omega
            · exact h hne
          have HNE := hid hne
          clear hne
          go_wp2_with fail
          go_roundw
          case rel =>
            refine ⟨k' + 1 + 1, by omega, by first | rfl | go_num, HBk.out, hpb2, _, _, HPk.out, ?_, ?_, HAk.out⟩
            · rw [HRU.out]; exact HLk.out
            · rw [HRU.out]; exact HFk.out
          case measure => simp [intOf]; omega
        · have hneb : (zs (k' + 1) != zs k') = true := by simp [hne]
          have HRU : Hid (runs zs (k' + 1 + 1) = ((runs zs (k' + 1)).1 ++ [zs (k' + 1)], (runs zs (k' + 1)).2 ++ [((k' + 1 : Nat) : Int)])) := by unfold Hid; rw [runs, if_pos (.inr hne)]
          clear hne
          go_wp2_with (first
            | (refine wpList_app2 (base := w.heap.size) (v := .slice lx (runs zs (k' + 1)).1.length lz) (zs := (runs zs (k' + 1)).1) (y := zs (k' + 1)) (t := 2) (X := wr) rfl _ _ rfl rfl rfl HLk.out (by omega) (by omega) ?_; intro x1 z1 w1 ho1 hg1 hat1; obtain ⟨q1, q2, q3, q4, q5, q6⟩ := New1.app0 HBk.out hpb2 HPk.out HLk.out HFk.out HAk.out ho1.out hg1.out hat1.out; obtain ⟨d0, -, -, -, df, -⟩ := q1.cells; have df0 := df 0; obtain ⟨d0', d1', -, -, df', hlt1⟩ := q3.cells; have df1 := df' 1; have hs1 := q2.size; have Q2 := hid q2; have Q3 := hid q3; have Q4 := hid q4; have Q5 := hid q5; have Q6 := hid q6; clear q1 q2 q3 q4 q5 q6 df df' ho1 hg1 hat1)
            | (refine wpList_app2 (base := w.heap.size) (v := .slice bx (runs zs (k' + 1)).2.length bz) (zs := (runs zs (k' + 1)).2) (y := (k' : Int) + 1) (t := 2) (X := w1.setCell ⟨pb, 0, none⟩ (.slice x1 ((runs zs (k' + 1)).1.length + 1) z1)) rfl _ _ rfl rfl (by rw [setCell_size]; rfl) Q5.out (by omega) (by omega) ?_; intro x2 z2 w2 ho2 hg2 hat2; obtain ⟨r1, r2, r3, r4, r5, r6⟩ := New1.app1 Q2.out hpb2 Q3.out Q4.out Q5.out Q6.out ho2.out hg2.out hat2.out; obtain ⟨-, e1, -, -, ef, -⟩ := r1.cells; have ef1 := ef 1; have R2 := hid r2; have R3 := hid r3; have R4 := hid r4; have R5 := hid r5; have R6 := hid r6; clear r1 r2 r3 r4 r5 r6 ef ho2 hg2 hat2)
            | fail)
          go_roundw
          case rel =>
            refine ⟨(k' + 1) + 1, by omega, by first | rfl | go_num, R2.out, hpb2, _, _, R3.out, ?_, ?_, R6.out⟩
            · rw [HRU.out]; exact R4.out
            · rw [HRU.out]; exact R5.out
          case measure => simp [intOf]; omega
    · obtain rfl : k = n := by omega
      obtain ⟨hB, hpb2, lv, bf, hp, hl, hbf, hap⟩ := HN.out
      obtain ⟨lx, lz, rfl⟩ := owns_shape hl
      obtain ⟨bx, bz, rfl⟩ := owns_shape hbf
      obtain ⟨c0, c1, c2, c3, cf, hplt⟩ := hp.cells
      have hr1 : (runs zs k).1.length ≤ k := (runs_len zs k).1
      have hr2 : (runs zs k).2.length ≤ k := by have := runs_len zs k; omega
      have cf1 := cf 1
      have hsz := hB.size
      have hkk : ¬ ((k : Int) < (k : Int)) := by omega
      have HBk := hid hB
      have HPk := hid hp
      have HLk := hid hl
      have HFk := hid hbf
      have HAk := hid hap
      clear hB hp hl hbf hap cf c2 c3
      go_wp2_with (first
        | (refine wpList_app2 (base := w.heap.size) (v := .slice bx (runs zs k).2.length bz) (zs := (runs zs k).2) (y := (k : Int)) (t := 2) (X := wr) rfl _ _ rfl rfl rfl HFk.out (by omega) (by omega) ?_; intro x2 z2 w2 ho2 hg2 hat2; obtain ⟨r1, r2, r3, r4, r5, r6⟩ := New1.app1 HBk.out hpb2 HPk.out HLk.out HFk.out HAk.out ho2.out hg2.out hat2.out; obtain ⟨-, e1, -, -, ef, -⟩ := r1.cells; have ef1 := ef 1; obtain ⟨d0, d1, d2, d3, df, dlt⟩ := r3.cells; have df2 := df 2; have R2 := hid r2; have R3 := hid r3; have R4 := hid r4; have R5 := hid r5; have R6 := hid r6; clear r1 r2 r3 r4 r5 r6 ef df ho2 hg2 hat2)
        | fail)
      obtain ⟨la, rfl⟩ : ∃ la, lx = some ⟨la, 0, none⟩ := by
        rcases R4.out.2 with ⟨h1, h2⟩ | ⟨g, cap, cur, h1, _⟩
        · have := runs_pos zs k hn0
          omega
        · injection h1 with h1
          exact ⟨g, h1⟩
      obtain ⟨L, hL⟩ : ∃ L, (runs zs k).1 = L := ⟨_, rfl⟩
      obtain ⟨M, hM⟩ : ∃ M, (runs zs k).2 = M := ⟨_, rfl⟩
      have hLpos : 0 < L.length := by rw [← hL]; exact runs_pos zs k hn0
      obtain ⟨W3, hW3⟩ : ∃ W3, w2.setCell ⟨pb, 1, none⟩ (.slice x2 ((runs zs k).2.length + 1) z2) = W3 := ⟨_, rfl⟩
      have r2 := R2.out
      have r3 := R3.out
      have r4 := R4.out
      have r5 := R5.out
      have r6 := R6.out
      rw [hW3] at r2 r3 r4 r5 d0 d1 d2 d3 df2 dlt ⊢
      rw [hL] at r3 r4 r6 d0 hr1 ⊢
      rw [hM] at r3 r5 r6 d1 hr2
      clear R2 R3 R4 R5 R6 hW3 e1 ef1 c0 c1 cf1 HBk HPk HLk HFk HAk HN
      have hc4 : ∀ j, j < L.length → W3.cell? ⟨la, 0 + j, none⟩ = some (.int .i64 (L.getD j 0)) := by
        intro j hj
        rw [Nat.zero_add, r4.cellAt j (by omega), ints, List.getElem?_map, List.getElem?_eq_getElem hj]
        simp [List.getD, List.getElem?_eq_getElem hj]
      refine (Try.slices_Clone_int la 0 L.length lz L W3 (Nat.le_refl _) (by omega) hc4).mono ?_
      rintro e w4 ⟨v4, rfl, o4, v4n, hB4⟩
      rw [List.take_length] at o4
      obtain ⟨da, dz, rfl, hda1, hda2, hdz1, hdz2, -, hH4⟩ := Lib.holds_of_ownsRow o4 v4n
      have p4 := PB.later r3 hB4
      have l4 := owns_later r4 hB4
      have b4 := owns_later r5 hB4
      have P4 := hid p4
      have L4 := hid l4
      have B4 := hid b4
      have O4 := hid o4
      have HB4 := hid (r2.trans (hB4.mono r2.size))
      obtain ⟨-, -, f2, -, ff, -⟩ := p4.cells
      have ff2 := ff 2
      clear p4 l4 b4 o4 hB4 v4n hH4 ff d0 d1 d2 d3 df2 hc4
      go_wp2_with fail
      have hdab : da ≠ pb := fun e => P4.out.ne O4.out (by decide) da (by simp [Value.ownBlock]) e
      have hlda : (Value.slice (some ⟨la, 0, none⟩) L.length lz).ownBlock ≠ some da := by
        have := owns_lt r4 (k := la) (by simp [Value.ownBlock])
        simp [Value.ownBlock]
        omega
      have hbda : (Value.slice x2 (M.length + 1) z2).ownBlock ≠ some da := by
        intro e
        have := owns_lt r5 e
        omega
      obtain ⟨W5, hW5⟩ : ∃ W5, w4.setCell ⟨pb, 2, none⟩ (.slice (some ⟨da, 0, none⟩) L.length dz) = W5 := ⟨_, rfl⟩
      have p5 : PB W5 pb (.slice (some ⟨la, 0, none⟩) L.length lz) (.slice x2 (M.length + 1) z2) (.slice (some ⟨da, 0, none⟩) L.length dz) (.slice none 0 0) := by rw [← hW5]; exact P4.out.set2 _
      have l5 := owns_setPB L4.out P4.out (by decide) 2 (.slice (some ⟨da, 0, none⟩) L.length dz)
      have b5 := owns_setPB B4.out P4.out (by decide) 2 (.slice (some ⟨da, 0, none⟩) L.length dz)
      have o5 := owns_setPB O4.out P4.out (by decide) 2 (.slice (some ⟨da, 0, none⟩) L.length dz)
      have hB5 : Below w.heap.size w W5 := by rw [← hW5]; exact HB4.out.setCell (by show w.heap.size ≤ pb; omega) _
      rw [hW5] at l5 b5 o5 ⊢
      clear hW5 P4 L4 B4 O4 HB4 f2 ff2
      obtain ⟨g5, z5, e5, -, hda3, -, -, -, hH5⟩ := Lib.holds_of_ownsRow o5 (by simp)
      cases e5
      refine (Try.slices_Sort_int da 0 dz L W5 hH5 hda3 (by omega)).mono ?_
      rintro e w6 ⟨rfl, q6, os6, rfl⟩
      obtain ⟨S, hS⟩ : ∃ S, L.mergeSort (fun x y => decide (x ≤ y)) = S := ⟨_, rfl⟩
      have hSl : S.length = L.length := by rw [← hS, List.length_mergeSort]
      rw [hS]
      have o6 := Lib.ownsRow_putRow (q := q6) (ys := S) (k := L.length) o5 hSl (Nat.le_refl _)
      rw [show S.take L.length = S from by rw [← hSl, List.take_length]] at o6
      have l6 := owns_put (q := q6) (d := S.toArray) l5 hlda
      have b6 := owns_put (q := q6) (d := S.toArray) b5 hbda
      have p6 := PB.put (q := q6) (d := S.toArray) p5 (fun e => hdab e.symm)
      have hB6 : Below w.heap.size w (Sort.putRow (Value.int .i64) (Sort.ahead W5 q6) da 0 S.toArray) := Lib.below_putRow hB5 (by omega)
      have hgr := grow_below (Sort.putRow (Value.int .i64) (Sort.ahead W5 q6) da 0 S.toArray) os6
      obtain ⟨W6, hW6⟩ : ∃ W6, Sort.grow (Sort.putRow (Value.int .i64) (Sort.ahead W5 q6) da 0 S.toArray) os6 = W6 := ⟨_, rfl⟩
      rw [hW6] at hgr ⊢
      replace o6 := owns_later o6 hgr
      replace l6 := owns_later l6 hgr
      replace b6 := owns_later b6 hgr
      replace p6 := p6.later hgr
      replace hB6 := hB6.trans (hgr.mono hB6.size)
      have O6 := hid o6
      have L6 := hid l6
      have B6 := hid b6
      have P6 := hid p6
      have HB6 := hid hB6
      obtain ⟨-, -, f2, -, ff, -⟩ := p6.cells
      have ff2 := ff 2
      obtain ⟨g6, z6, e6, -, hda6, -, -, -, hH6⟩ := Lib.holds_of_ownsRow o6 (by simp)
      cases e6
      have hC := Try.slices_Compact_int da 0 dz S W6 hH6 (by omega) (by omega)
      rw [hSl] at hC
      have HC := hid hC
      clear hW6 hgr o6 l6 b6 p6 hB6 o5 l5 b5 p5 hB5 hH5 hda3 hH6 hC ff
      go_wp2_with fail
      refine HC.out.mono ?_
      rintro e w7 ⟨rfl, q7, rfl⟩
      obtain ⟨C, hCe⟩ : ∃ C, Lib.compact S = C := ⟨_, rfl⟩
      have hCl : C.length ≤ L.length := by rw [← hCe, ← hSl]; exact Lib.compact_length_le S
      rw [hCe]
      have o7 := Lib.ownsRow_putRow (q := q7) (ys := C ++ List.replicate (L.length - C.length) 0) (k := C.length) O6.out (by simp; omega) hCl
      rw [List.take_left] at o7
      have l7 := owns_put (q := q7) (d := (C ++ List.replicate (L.length - C.length) 0).toArray) L6.out hlda
      have b7 := owns_put (q := q7) (d := (C ++ List.replicate (L.length - C.length) 0).toArray) B6.out hbda
      have p7 := PB.put (q := q7) (d := (C ++ List.replicate (L.length - C.length) 0).toArray) P6.out (fun e => hdab e.symm)
      have hB7 : Below w.heap.size w (Sort.putRow (Value.int .i64) (Sort.ahead W6 q7) da 0 (C ++ List.replicate (L.length - C.length) 0).toArray) := Lib.below_putRow HB6.out (by omega)
      obtain ⟨W7, hW7⟩ : ∃ W7, Sort.putRow (Value.int .i64) (Sort.ahead W6 q7) da 0 (C ++ List.replicate (L.length - C.length) 0).toArray = W7 := ⟨_, rfl⟩
      rw [hW7] at o7 l7 b7 p7 hB7 ⊢
      obtain ⟨-, -, f2, -, ff, -⟩ := p7.cells
      have ff2 := ff 2
      have O7 := hid o7
      have L7 := hid l7
      have B7 := hid b7
      have P7 := hid p7
      have HB7 := hid hB7
      obtain ⟨f0', -, -, f3', ff', -⟩ := (P7.out.set2 (.slice (some ⟨da, 0, none⟩) C.length dz)).cells
      have ff3' := ff' 3
      have hmk := fun X : World => run_make_row' (P := Try.prog) 38 3 (.int .i64 0) 8 Try.underlying38 info3 rfl .i64 .i64 L.length (by omega) (by omega) X
      have hpb7 := P7.out.cells.2.2.2.2.2
      obtain ⟨h70, -, -, h73, -, -⟩ := P7.out.cells
      clear hW7 o7 l7 b7 p7 hB7 O6 L6 B6 P6 HB6 HC ff ff' hda6
      go_wp2_with fail
      clear hmk f0' f3' ff3' h70 h73 f2 ff2
      have hta : (W7.heap.size : Nat) ≠ pb := by omega
      have p8a := P7.out.set2 (.slice (some ⟨da, 0, none⟩) C.length dz)
      have p8b := p8a.set3 (.slice (some ⟨W7.heap.size, 0, none⟩) L.length L.length)
      have l8 := owns_setPB (owns_setPB L7.out P7.out (by decide) 2 (.slice (some ⟨da, 0, none⟩) C.length dz)) p8a (by decide) 3 (.slice (some ⟨W7.heap.size, 0, none⟩) L.length L.length)
      have b8 := owns_setPB (owns_setPB B7.out P7.out (by decide) 2 (.slice (some ⟨da, 0, none⟩) C.length dz)) p8a (by decide) 3 (.slice (some ⟨W7.heap.size, 0, none⟩) L.length L.length)
      have o8 := owns_setPB (owns_setPB O7.out P7.out (by decide) 2 (.slice (some ⟨da, 0, none⟩) C.length dz)) p8a (by decide) 3 (.slice (some ⟨W7.heap.size, 0, none⟩) L.length L.length)
      have hB8 := (HB7.out.setCell (p := ⟨pb, 2, none⟩) (by show w.heap.size ≤ pb; omega) (.slice (some ⟨da, 0, none⟩) C.length dz)).setCell (p := ⟨pb, 3, none⟩) (by show w.heap.size ≤ pb; omega) (.slice (some ⟨W7.heap.size, 0, none⟩) L.length L.length)
      obtain ⟨V, hV⟩ : ∃ V, (W7.setCell ⟨pb, 2, none⟩ (.slice (some ⟨da, 0, none⟩) C.length dz)).setCell ⟨pb, 3, none⟩ (.slice (some ⟨W7.heap.size, 0, none⟩) L.length L.length) = V := ⟨_, rfl⟩
      have hVs : V.heap.size = W7.heap.size := by rw [← hV, setCell_size, setCell_size]
      rw [hV] at p8b l8 b8 o8 hB8 ⊢
      have hBa : Below V.heap.size V (V.alloc (.cells (madeCells #[.int .i64 0] L.length) 3)) := (Below.refl _ _).alloc (Nat.le_refl _) _
      have hrow := World.rowIs_made V (.int .i64 0) L.length 3
      obtain ⟨W8, hW8⟩ : ∃ W8, V.alloc (.cells (madeCells #[.int .i64 0] L.length) 3) = W8 := ⟨_, rfl⟩
      obtain ⟨ta, hta2⟩ : ∃ ta, W7.heap.size = ta := ⟨_, rfl⟩
      have htaw : w.heap.size ≤ W7.heap.size := HB7.out.size
      rw [hW8] at hBa hrow ⊢
      rw [hVs, hta2] at hrow
      rw [hta2] at p8b hta htaw ⊢
      have P8 := hid (p8b.later hBa)
      have L8 := hid (owns_later l8 hBa)
      have B8 := hid (owns_later b8 hBa)
      have O8 := hid (owns_later o8 hBa)
      have HB8 := hid (hB8.trans (hBa.mono hB8.size))
      have T8 := hid hrow
      have hdata : da ≠ ta := by
        have := owns_lt O7.out (k := da) (by simp [Value.ownBlock])
        omega
      have hlata : la ≠ ta := by
        have := owns_lt L7.out (k := la) (by simp [Value.ownBlock])
        omega
      clear hV hVs hBa hrow hW8 hta2 p8a p8b l8 b8 o8 hB8 P7 O7
      have hCs : (C.take C.length).Pairwise (· ≤ ·) := by
        rw [List.take_length, ← hCe, ← hS]
        exact dist_sorted L
      have HCS := hid hCs
      clear hCs
      go_loopw [96] (fun iv wr => ∃ r : Nat, r ≤ L.length ∧ iv = .int .i64 r ∧ Hid (Below w.heap.size w wr) ∧ Hid (PB wr pb (.slice (some ⟨la, 0, none⟩) L.length lz) (.slice x2 (M.length + 1) z2) (.slice (some ⟨da, 0, none⟩) C.length dz) (.slice (some ⟨ta, 0, none⟩) L.length L.length)) ∧ Hid (wr.ownsRow w.heap.size 2 1 (.slice (some ⟨la, 0, none⟩) L.length lz) L.length (ints L)) ∧ Hid (wr.ownsRow w.heap.size 2 1 (.slice x2 (M.length + 1) z2) (M ++ [(k : Int)]).length (ints (M ++ [(k : Int)]))) ∧ Hid (wr.ownsRow W3.heap.size 2 1 (.slice (some ⟨da, 0, none⟩) C.length dz) C.length (ints C)) ∧ Hid (wr.rowIs ta 3 L.length (fun q => if q < r then .int .i64 ((C.countP (· < L.getD q 0) : Nat) : Int) else .int .i64 0))) (fun iv _ => L.length - (intOf iv).toNat)
      case atStart => exact ⟨0, Nat.zero_le _, rfl, HB8.out, P8.out, L8.out, B8.out, O8.out, World.rowIs.congr T8.out (fun q hq => by rw [if_neg (by omega)])⟩
      case round =>
        obtain ⟨r, hr, rfl, HBr, HPr, HLr, HFr, HOr, HTr⟩ := hrel
        by_cases hrl : r < L.length
        · obtain ⟨c0, c1, c2, c3, cf, cplt⟩ := HPr.out.cells
          have hrL : (r : Int) < (L.length : Int) := by omega
          have g0 : wr.cell? ⟨la, r, none⟩ = some (.int .i64 (L.getD r 0)) := by
            rw [HLr.out.cellAt r (by omega), ints, List.getElem?_map, List.getElem?_eq_getElem hrl]
            simp [List.getD, List.getElem?_eq_getElem hrl]
          have hcC : ∀ j, j < C.length → wr.drew.cell? ⟨da, 0 + j, none⟩ = some (.int .i64 (C.getD j 0)) := by
            intro j hj
            show wr.cell? _ = _
            rw [Nat.zero_add, HOr.out.cellAt j (by omega), ints, List.getElem?_map, List.getElem?_eq_getElem hj]
            simp [List.getD, List.getElem?_eq_getElem hj]
          have hBS := Try.slices_BinarySearch_int da 0 C.length dz C (L.getD r 0) wr.drew (Nat.le_refl _) (by omega) hcC HCS.out
          rw [List.take_length] at hBS
          obtain ⟨lr, hlr⟩ : ∃ lr, L.getD r 0 = lr := ⟨_, rfl⟩
          rw [hlr] at g0 hBS
          have HLR := hid hlr
          have HBS := hid hBS
          have t0 := HTr.out.cell (i := r) hrl
          have t1 := HTr.out.frozen r
          rw [if_neg (by omega)] at t0
          clear hcC hBS cf c0 c1 hlr
          go_wp2_with fail
          go_region_law (first
            | (go_simp; go_at_call 40; go_must (refine Calls.mono HBS.out ?_; rintro e wq ⟨rfl, q2, rfl⟩)))
          all_goals
            go_wp2_with fail
            go_roundw
            case rel =>
              refine ⟨r + 1, by omega, by first | rfl | go_num, (bdrewQ HBr.out _).setCell (by show w.heap.size ≤ ta; exact htaw) _, (Below.heap_setCell _ _ _ _ (fun e => hta e.symm)).trans HPr.out, ?_, ?_, ?_, ?_⟩
              · exact owns_of_block HLr.out fun q hq => Below.heap_setCell _ _ _ _ (own_ne_row HLr.out HTr.out (by decide) q hq)
              · exact owns_of_block HFr.out fun q hq => Below.heap_setCell _ _ _ _ (own_ne_row HFr.out HTr.out (by decide) q hq)
              · exact owns_of_block HOr.out fun q hq => Below.heap_setCell _ _ _ _ (own_ne_row HOr.out HTr.out (by decide) q hq)
              · have h3 : (wr.drewN (1 + q2)).rowIs ta 3 L.length (fun q => if q < r then .int .i64 ((C.countP (· < L.getD q 0) : Nat) : Int) else .int .i64 0) := HTr.out
                refine World.rowIs.congr (h3.set r _) (fun q hq => ?_)
                by_cases e : q = r
                · rw [if_pos e, if_pos (by omega), e, HLR.out]
                · rw [if_neg e]
                  by_cases e2 : q < r
                  · rw [if_pos e2, if_pos (by omega)]
                  · rw [if_neg e2, if_neg (by omega)]
            case measure => simp [intOf]; omega
        · obtain rfl : r = L.length := by omega
          subst hCe hS hL hM
          go_wp2
          go_ret
          exact ⟨HBr.out, pb, la, lz, x2, z2, da, dz, ta, hpb1, rfl, HPr.out, HLr.out, HFr.out, ⟨_, r2.size, HOr.out⟩, htaw, World.rowIs.congr HTr.out (fun q hq => by rw [if_pos hq]; rfl)⟩

end Go.Proofs.Qxb6614303a
