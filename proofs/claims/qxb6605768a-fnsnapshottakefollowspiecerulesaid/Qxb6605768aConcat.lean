/-
  Seat b6605768a. zConcat (22).
-/
import Derived.Test.Qxb6605768aMsg
namespace Go.Proofs.Qxb6605768a
open Go.RowKit
set_option linter.unusedVariables false

theorem wpList_append_piece {ops : Array Oper} {rest : List Oper} {o : Oper} {a : Act} {w : World} {Q : Exit → Act → World → Prop} (hgd : o.guard = none) (s x : Operand)
    (ho : o.op = .call { callee := .builtin .append, args := #[s, x], argTypes := #[24, 24] })
    (base : Nat) (v : Value) (n : Nat) (xs : List Value) (hs : a.eval s = v) (hown : w.ownsRow base 5 1 v n xs)
    (pa : Option Addr) (pn pc : Nat) (ys : List Value) (hx : a.eval x = .slice pa pn pc) (hsrc : Piece w pa pn pc ys) (hb : n + pn ≤ 1048576) (hbase : base ≤ w.heap.size)
    (h : ∀ x' z' w', w'.ownsRow base 5 1 (.slice x' (n + pn) z') (n + pn) (xs ++ ys) → w.grownBy w' v.ownBlock → wpList Try.prog ops Q rest (a.put o.dst (.slice x' (n + pn) z')) w') :
    wpList Try.prog ops Q (o :: rest) a w :=
  wpList_plain hgd fun K hK => by
    have := step_append_piece (ops := ops) (K := K) (Q := Q) (E := True) hgd s x ho base v n xs hs hown pa pn pc ys hx hsrc hb hbase (fun x' z' w' h1 h2 => hK _ _ (h x' z' w' h1 h2))
    rwa [if_pos (by simp [Region.wanted, hgd])] at this

theorem below_grown {B : Nat} {w0 X Y : World} {row : Option Nat} (h : Below B w0 X) (hg : X.grownBy Y row) (hB : B ≤ X.heap.size) (hr : ∀ k, row = some k → B ≤ k) : Below B w0 Y :=
  ⟨hg.os.trans h.os, hg.tape.trans h.tape, hg.output.trans h.output, Nat.le_trans h.size hg.size, fun i hi => (hg.block i (by omega) (fun e => by have := hr i e.symm; omega)).trans (h.block i hi)⟩

/-- The bytes of one slice, then those of another. -/
def cat (bs : Nat → Int) (n : Nat) (bs2 : Nat → Int) (j : Nat) : Int := if j < n then bs j else bs2 (j - n)
theorem seg_snoc (bs : Nat → Int) (k : Nat) : seg bs 0 k ++ [.int .u8 (bs k)] = seg bs 0 (k + 1) := by
  rw [← seg_append bs k (k + 1) (by omega)]
  simp [seg]
theorem one_piece (X : World) (v : Int) (t : TypeId) : Piece (X.alloc (.cells #[.int .u8 v] t)) (some ⟨X.heap.size, 0, none⟩) 1 1 [.int .u8 v] := by
  refine .inr ⟨_, rfl, rfl, fun j u hu => ?_, fun u hu => ?_⟩
  · rcases j with _ | j
    · simp at hu; subst hu; simp [Addr.add]
    · simp at hu
  · simp at hu; subst hu; rfl

theorem wpList_push {ops : Array Oper} {rest : List Oper} {o : Oper} {a : Act} {X : World} {Q : Exit → Act → World → Prop} (hgd : o.guard = none) (s x : Operand)
    (ho : o.op = .call { callee := .builtin .append, args := #[s, x], argTypes := #[24, 24] })
    (w0 : World) (x0 : Option Addr) (k z : Nat) (bs : Nat → Int) (t : TypeId) (b : Int) (hs : a.eval s = .slice x0 k z) (hx : a.eval x = .slice (some ⟨X.heap.size, 0, none⟩) 1 1)
    (hown : X.ownsRow w0.heap.size 5 1 (.slice x0 k z) k (seg bs 0 k)) (hB : Below w0.heap.size w0 X) (hv : b = bs k) (hk : k + 1 ≤ 1048576)
    (h : ∀ x' z' w', Hid (w'.ownsRow w0.heap.size 5 1 (.slice x' (k + 1) z') (k + 1) (seg bs 0 (k + 1))) → Below w0.heap.size w0 w' → wpList Try.prog ops Q rest (a.put o.dst (.slice x' (k + 1) z')) w') :
    wpList Try.prog ops Q (o :: rest) a (X.alloc (.cells #[.int .u8 b] t)) := by
  have hsz := hB.size
  have ho' : (X.alloc (.cells #[.int .u8 b] t)).ownsRow w0.heap.size 5 1 (.slice x0 k z) k (seg bs 0 k) := World.ownsRow.alloc hown _
  refine wpList_append_piece hgd s x ho w0.heap.size (.slice x0 k z) k (seg bs 0 k) hs ho' _ 1 1 [.int .u8 b] hx (one_piece _ _ _) hk (by rw [World.size_alloc]; omega) ?_
  intro x' z' w' hown' hgr'
  refine h x' z' w' ?_ (below_grown (hB.alloc hsz _) hgr' (by rw [World.size_alloc]; omega) (fun i e => (ho'.lt i e).1))
  rw [hv, seg_snoc] at hown'
  exact hown'

def CatEnd (bs : Nat → Int) (n : Nat) (bs2 : Nat → Int) (n2 : Nat) (w : World) (e : Ending) (w' : World) : Prop :=
  Below w.heap.size w w' ∧ ∃ x z, e = .returned (.slice x (n + n2) z) ∧ Bytes w' x (n + n2) (cat bs n bs2)

set_option maxRecDepth 100000 in
set_option maxHeartbeats 4000000 in
theorem zconcat_any (a : Option Addr) (n c : Nat) (bs : Nat → Int) (a2 : Option Addr) (n2 c2 : Nat) (bs2 : Nat → Int) (w : World) (h1 : Bytes w a n bs) (h2 : Bytes w a2 n2 bs2) (hnn : n + n2 ≤ 1048576) :
    Calls Try.prog 22 #[.slice a n c, .slice a2 n2 c2] w (CatEnd bs n bs2 n2 w) := by
  obtain ⟨_, _, hc1⟩ := h1
  obtain ⟨_, _, hc2⟩ := h2
  have H1 : Hid _ := hc1
  have H2 : Hid _ := hc2
  clear hc1 hc2
  obtain ⟨i0, hi, hii⟩ := Option.map_eq_some_iff.1 info5
  simp only [Prod.mk.injEq] at hii
  have hmk := fun w => run_make (P := Try.prog) w 24 5 i0 _ Try.underlying24 hi hii.1 .i64 .i64 0 ((n : Int) + (n2 : Int)) (by omega) (by omega) (by rw [hii.2.2]; omega) (by omega)
  have ht : ((n : Int) + (n2 : Int)).toNat = n + n2 := by omega
  simp only [hii.2.1, Int.toNat_zero, Value.cells, Nat.mul_one, ht] at hmk
  clear ht
  clear hi hii
  go_enter Try.func22, Try.ntmps22
  go_wp2
  clear hmk
  have hown0 : (w.alloc (.cells (madeCells #[.int .u8 0] (n + n2)) 5)).ownsRow w.heap.size 5 1 (.slice (some ⟨w.heap.size, 0, none⟩) 0 (n + n2)) 0 [] :=
    World.ownsRow_made (base := w.heap.size) (e := 5) (size := 1) w _ _ (Nat.le_refl _) (by unfold maxLen; omega) (by rw [size_madeCells]; omega)
  have hB0 : Below w.heap.size w (w.alloc (.cells (madeCells #[.int .u8 0] (n + n2)) 5)) := (Below.refl _ _).alloc (Nat.le_refl _) _
  obtain ⟨W, hW⟩ : ∃ W, w.alloc (.cells (madeCells #[.int .u8 0] (n + n2)) 5) = W := ⟨_, rfl⟩
  rw [hW] at hown0 hB0 ⊢
  have HO0 : Hid _ := hown0
  clear hW hown0
  go_loopw [5, 6] (fun o i wr => ∃ (k : Nat) (x : Option Addr) (z : Nat), k ≤ n ∧ i = .int .i64 k ∧ o = .slice x k z ∧ Hid (wr.ownsRow w.heap.size 5 1 (.slice x k z) k (seg (cat bs n bs2) 0 k)) ∧ Below w.heap.size w wr) (fun _ i _ => n - (intOf i).toNat)
  case atStart => exact ⟨0, _, _, Nat.zero_le _, rfl, rfl, HO0.out, hB0⟩
  case round =>
    obtain ⟨k, x, z, hk, rfl, rfl, HO, hB⟩ := hrel
    have hsz := hB.size
    by_cases hlt : k < n
    · obtain ⟨b, o, rfl, hc⟩ := H1.out (by omega)
      have d1 := (hB.cell (p := ⟨b, o + k, none⟩) (World.block_lt_of_cell? _ _ (hc k hlt))).trans (hc k hlt)
      clear hc
      have hcat : bs k = cat bs n bs2 k := by unfold cat; rw [if_pos hlt]
      have HCAT : Hid _ := hcat
      clear hcat
      go_wp2_with (first
        | (refine wpList_push rfl _ _ rfl w x k z (cat bs n bs2) 5 (bs k) rfl rfl HO.out hB HCAT.out (by omega) ?_; intro x' z' w' HO' hB')
        | fail)
      go_roundw
      case rel => exact ⟨k + 1, _, _, by omega, by go_num, rfl, HO'.out, hB'⟩
      case measure => simp [intOf]; omega
    · obtain rfl : k = n := by omega
      go_wp2
      go_loopw [5, 7] (fun o i wr => ∃ (k2 : Nat) (x : Option Addr) (z : Nat), k2 ≤ n2 ∧ i = .int .i64 k2 ∧ o = .slice x (k + k2) z ∧ Hid (wr.ownsRow w.heap.size 5 1 (.slice x (k + k2) z) (k + k2) (seg (cat bs k bs2) 0 (k + k2))) ∧ Below w.heap.size w wr) (fun _ i _ => n2 - (intOf i).toNat)
      case atStart => exact ⟨0, x, z, Nat.zero_le _, rfl, rfl, HO.out, hB⟩
      case round =>
        obtain ⟨k2, x2, z2, hk2, rfl, rfl, HO2, hB2⟩ := hrel
        have hsz2 := hB2.size
        by_cases hlt2 : k2 < n2
        · obtain ⟨b, o, rfl, hc⟩ := H2.out (by omega)
          have d1 := (hB2.cell (p := ⟨b, o + k2, none⟩) (World.block_lt_of_cell? _ _ (hc k2 hlt2))).trans (hc k2 hlt2)
          clear hc
          have HCAT : Hid (bs2 k2 = cat bs k bs2 (k + k2)) := by unfold Hid cat; rw [if_neg (by omega), Nat.add_sub_cancel_left]
          go_wp2_with (first
            | (refine wpList_push rfl _ _ rfl w x2 (k + k2) z2 (cat bs k bs2) 5 (bs2 k2) rfl rfl HO2.out hB2 HCAT.out (by omega) ?_; intro x' z' w' HO' hB')
            | fail)
          go_roundw
          case rel => exact ⟨k2 + 1, _, _, by omega, by go_num, rfl, HO'.out, hB'⟩
          case measure => simp [intOf]; omega
        · obtain rfl : k2 = n2 := by omega
          go_wp2
          go_ret
          exact ⟨hB2, x2, z2, rfl, owns_bytes HO2.out hnn⟩

end Go.Proofs.Qxb6605768a
