/-
  Seat b6605768a. zEntries (30).
-/
import Derived.Test.Qxb6605768aEnts
namespace Go.Proofs.Qxb6605768a
open Go.RowKit
set_option linter.unusedVariables false

theorem info93 : (Try.prog.info? 93).map (fun i => (i.zero, i.size, i.bytes)) = some (some (.agg #[.int .u64 0, .string ByteArray.empty, .int .u64 0, .slice none 0 0]), 4, 56) := by kernel_rfl

/-- A row of entries in the making: the first k carry their terms. -/
def Old93 (w : World) (b n : Nat) (es : Nat → Ent) (k : Nat) : Prop := (∃ f, w.rowIs b 93 (n * 4) f) ∧ ∀ j, j < k → w.cell? ⟨b, j * 4, none⟩ = some (.int .u64 (es j).term) ∧ ∃ s o x y z, w.cell? ⟨b, j * 4 + 1, none⟩ = some (.string s) ∧ w.cell? ⟨b, j * 4 + 2, none⟩ = some (.int .u64 o) ∧ w.cell? ⟨b, j * 4 + 3, none⟩ = some (.slice x y z)
theorem Old93.later {w w' : World} {b n : Nat} {es : Nat → Ent} {k : Nat} (h : Old93 w b n es k) (hb : Below w.heap.size w w') : Old93 w' b n es k := by
  obtain ⟨⟨f, h1⟩, h2⟩ := h
  exact ⟨⟨f, h1.of_block (hb.block _ h1.lt)⟩, fun j hj => by obtain ⟨c, s, o, x, y, z, c1, c2, c3⟩ := h2 j hj; exact ⟨keepc c hb, s, o, x, y, z, keepc c1 hb, keepc c2 hb, keepc c3 hb⟩⟩
theorem Old93.set {w : World} {b n : Nat} {es : Nat → Ent} {k p : Nat} {v : Value} (h : Old93 w b n es k) (hp : k * 4 ≤ p) : Old93 (w.setCell ⟨b, p, none⟩ v) b n es k := by
  obtain ⟨⟨f, h1⟩, h2⟩ := h
  exact ⟨⟨_, h1.set _ _⟩, fun j hj => by obtain ⟨c, s, o, x, y, z, c1, c2, c3⟩ := h2 j hj; exact ⟨cell_apart c (by omega), s, o, x, y, z, cell_apart c1 (by omega), cell_apart c2 (by omega), cell_apart c3 (by omega)⟩⟩
theorem Old93.next {w : World} {b n : Nat} {es : Nat → Ent} {k : Nat} {s : ByteArray} {o : Int} {x : Option Addr} {y z : Nat} (h : Old93 w b n es k) (hk : k < n) :
    Old93 ((((w.setCell ⟨b, k * 4, none⟩ (.int .u64 (es k).term)).setCell ⟨b, k * 4 + 1, none⟩ (.string s)).setCell ⟨b, k * 4 + 2, none⟩ (.int .u64 o)).setCell ⟨b, k * 4 + 3, none⟩ (.slice x y z)) b n es (k + 1) := by
  have h' := (((h.set (v := .int .u64 (es k).term) (Nat.le_refl _)).set (p := k * 4 + 1) (v := .string s) (by omega)).set (p := k * 4 + 2) (v := .int .u64 o) (by omega)).set (p := k * 4 + 3) (v := .slice x y z) (by omega)
  obtain ⟨⟨f, h1⟩, _⟩ := h
  refine ⟨h'.1, fun j hj => ?_⟩
  by_cases e : j = k
  · subst e
    have hr := (((h1.set (j * 4) (.int .u64 (es j).term)).set (j * 4 + 1) (.string s)).set (j * 4 + 2) (.int .u64 o)).set (j * 4 + 3) (.slice x y z)
    refine ⟨(hr.cell (by omega)).trans ?_, s, o, x, y, z, (hr.cell (by omega)).trans ?_, (hr.cell (by omega)).trans ?_, (hr.cell (by omega)).trans ?_⟩ <;> simp
  · exact h'.2 j (by omega)

/-- What zEntries leaves: nil for nil; else a new row of its own with the same terms. -/
def CopyE (a : Option Addr) (n : Nat) (es : Nat → Ent) (B : Nat) (v : Value) (w' : World) : Prop :=
  (a = none ∧ v = .slice none 0 0) ∨ (a ≠ none ∧ ∃ b, B ≤ b ∧ v = .slice (some ⟨b, 0, none⟩) n n ∧ Old93 w' b n es n)
def CopyEEnd (a : Option Addr) (n : Nat) (es : Nat → Ent) (w : World) (e : Ending) (w' : World) : Prop :=
  Below w.heap.size w w' ∧ ∃ v, e = .returned v ∧ CopyE a n es w.heap.size v w'
theorem CopyE.later {a : Option Addr} {n : Nat} {es : Nat → Ent} {B : Nat} {v : Value} {w w' : World} (h : CopyE a n es B v w) (hb : Below w.heap.size w w') : CopyE a n es B v w' := by
  rcases h with h | ⟨h1, b, h2, h3, h4⟩
  · exact .inl h
  · exact .inr ⟨h1, b, h2, h3, h4.later hb⟩
theorem CopyE.shape {a : Option Addr} {n : Nat} {es : Nat → Ent} {B : Nat} {v : Value} {w : World} (h : CopyE a n es B v w) : ∃ x y z, v = .slice x y z := by
  rcases h with ⟨_, h⟩ | ⟨_, b, _, h, _⟩
  · exact ⟨_, _, _, h⟩
  · exact ⟨_, _, _, h⟩

set_option maxRecDepth 100000 in
set_option maxHeartbeats 4000000 in
theorem zentries_any (a : Option Addr) (n c : Nat) (es : Nat → Ent) (w : World) (hn : n ≤ 1048576) (hs : ∀ j, j < n → (es j).mn ≤ 1048576) (h : Ents w a n es) : Calls Try.prog 30 #[.slice a n c] w (CopyEEnd a n es w) := by
  have q : ∀ (w : World) (a : Option Addr) (n c : Nat), (binOp .eql 23 (.slice a n c) (.slice none 0 0)).run Try.prog w = .ok (.bool a.isNone) w := fun w a n c => Lib.run_eql_slice_nil w _ _ a n c 0 0 Try.underlying23
  have HSM : Hid _ := hs
  clear hs
  obtain ⟨_, h0, hc⟩ := h
  cases a with
  | none =>
    go_enter Try.func30, Try.ntmps30
    go_wp2
    go_ret
    exact ⟨Below.refl _ _, _, rfl, .inl ⟨rfl, rfl⟩⟩
  | some x =>
    have HC : Hid _ := hc
    clear hc h0
    obtain ⟨i0, hi, hii⟩ := Option.map_eq_some_iff.1 info93
    simp only [Prod.mk.injEq] at hii
    have hmk := fun w => run_make (P := Try.prog) w 57 93 i0 _ Try.underlying57 hi hii.1 .i64 .i64 n n (by omega) (by omega) (by rw [hii.2.2]; omega) (by omega)
    simp only [hii.2.1, Int.toNat_natCast, Value.cells] at hmk
    clear hi hii
    go_enter Try.func30, Try.ntmps30
    go_wp2
    have hrow0 : ∃ f, (w.alloc (.cells (madeCells #[.int .u64 0, .string ByteArray.empty, .int .u64 0, .slice none 0 0] (n * 4)) 93)).rowIs w.heap.size 93 (n * 4) f := by
      have h1 := World.rowIs_alloc w (madeCells #[.int .u64 0, .string ByteArray.empty, .int .u64 0, .slice none 0 0] (n * 4)) 93 (fun i => (madeCells #[.int .u64 0, .string ByteArray.empty, .int .u64 0, .slice none 0 0] (n * 4))[i]!) (fun i hi => by simp [hi])
      rw [size_madeCells] at h1
      exact ⟨_, h1⟩
    have hB0 : Below w.heap.size w (w.alloc (.cells (madeCells #[.int .u64 0, .string ByteArray.empty, .int .u64 0, .slice none 0 0] (n * 4)) 93)) := (Below.refl _ _).alloc (Nat.le_refl _) _
    clear hmk
    obtain ⟨W, hW⟩ : ∃ W, w.alloc (.cells (madeCells #[.int .u64 0, .string ByteArray.empty, .int .u64 0, .slice none 0 0] (n * 4)) 93) = W := ⟨_, rfl⟩
    rw [hW] at hrow0 hB0 ⊢
    clear hW
    go_loopw [4] (fun i wr => ∃ k : Nat, k ≤ n ∧ i = .int .i64 k ∧ Old93 wr w.heap.size n es k ∧ Below w.heap.size w wr) (fun i _ => n - (intOf i).toNat)
    case atStart => exact ⟨0, Nat.zero_le _, rfl, ⟨hrow0, fun j hj => absurd hj (by omega)⟩, hB0⟩
    case round =>
      obtain ⟨k, hk, rfl, hO, hB⟩ := hrel
      by_cases hlt : k < n
      · obtain ⟨b, o, hx, hc⟩ := HC.out (by omega)
        cases hx
        have he := hc k hlt
        have HM : Hid (Mems w (es k).ma (es k).mn (es k).ms) := he.2.2.2.2.2
        have hblt : b < w.heap.size := World.block_lt_of_cell? _ _ he.1
        obtain ⟨c1, c2, c3, c4, -, -⟩ := he.later hB
        clear hc he
        have hmn := HSM.out k hlt
        have HK : Hid (∀ X Y : World, (Below w.heap.size w X ∧ Old93 X w.heap.size n es k ∧ X.cell? ⟨b, o + k * 4, none⟩ = some (.int .u64 (es k).term) ∧ X.cell? ⟨b, o + k * 4 + 1, none⟩ = some (.string (es k).cmd) ∧ X.cell? ⟨b, o + k * 4 + 2, none⟩ = some (.int .u64 (es k).origin) ∧ X.cell? ⟨b, o + k * 4 + 3, none⟩ = some (.slice (es k).ma (es k).mn (es k).mc)) → Below X.heap.size X Y → (Below w.heap.size w Y ∧ Old93 Y w.heap.size n es k ∧ Y.cell? ⟨b, o + k * 4, none⟩ = some (.int .u64 (es k).term) ∧ Y.cell? ⟨b, o + k * 4 + 1, none⟩ = some (.string (es k).cmd) ∧ Y.cell? ⟨b, o + k * 4 + 2, none⟩ = some (.int .u64 (es k).origin) ∧ Y.cell? ⟨b, o + k * 4 + 3, none⟩ = some (.slice (es k).ma (es k).mn (es k).mc))) := by
          rintro X Y ⟨s0, s1, s2, s3, s4, s5⟩ hXY
          exact ⟨s0.trans (hXY.mono s0.size), s1.later hXY, keepc s2 hXY, keepc s3 hXY, keepc s4 hXY, keepc s5 hXY⟩
        have HK2 : Hid (∀ (X : World) (v0 v1 v2 v3 : Value), (Below w.heap.size w X ∧ Old93 X w.heap.size n es k ∧ X.cell? ⟨b, o + k * 4, none⟩ = some (.int .u64 (es k).term) ∧ X.cell? ⟨b, o + k * 4 + 1, none⟩ = some (.string (es k).cmd) ∧ X.cell? ⟨b, o + k * 4 + 2, none⟩ = some (.int .u64 (es k).origin) ∧ X.cell? ⟨b, o + k * 4 + 3, none⟩ = some (.slice (es k).ma (es k).mn (es k).mc)) → (Below w.heap.size w ((((X.setCell ⟨w.heap.size, k * 4, none⟩ v0).setCell ⟨w.heap.size, k * 4 + 1, none⟩ v1).setCell ⟨w.heap.size, k * 4 + 2, none⟩ v2).setCell ⟨w.heap.size, k * 4 + 3, none⟩ v3) ∧ Old93 ((((X.setCell ⟨w.heap.size, k * 4, none⟩ v0).setCell ⟨w.heap.size, k * 4 + 1, none⟩ v1).setCell ⟨w.heap.size, k * 4 + 2, none⟩ v2).setCell ⟨w.heap.size, k * 4 + 3, none⟩ v3) w.heap.size n es k ∧ ((((X.setCell ⟨w.heap.size, k * 4, none⟩ v0).setCell ⟨w.heap.size, k * 4 + 1, none⟩ v1).setCell ⟨w.heap.size, k * 4 + 2, none⟩ v2).setCell ⟨w.heap.size, k * 4 + 3, none⟩ v3).cell? ⟨b, o + k * 4, none⟩ = some (.int .u64 (es k).term) ∧ ((((X.setCell ⟨w.heap.size, k * 4, none⟩ v0).setCell ⟨w.heap.size, k * 4 + 1, none⟩ v1).setCell ⟨w.heap.size, k * 4 + 2, none⟩ v2).setCell ⟨w.heap.size, k * 4 + 3, none⟩ v3).cell? ⟨b, o + k * 4 + 1, none⟩ = some (.string (es k).cmd) ∧ ((((X.setCell ⟨w.heap.size, k * 4, none⟩ v0).setCell ⟨w.heap.size, k * 4 + 1, none⟩ v1).setCell ⟨w.heap.size, k * 4 + 2, none⟩ v2).setCell ⟨w.heap.size, k * 4 + 3, none⟩ v3).cell? ⟨b, o + k * 4 + 2, none⟩ = some (.int .u64 (es k).origin) ∧ ((((X.setCell ⟨w.heap.size, k * 4, none⟩ v0).setCell ⟨w.heap.size, k * 4 + 1, none⟩ v1).setCell ⟨w.heap.size, k * 4 + 2, none⟩ v2).setCell ⟨w.heap.size, k * 4 + 3, none⟩ v3).cell? ⟨b, o + k * 4 + 3, none⟩ = some (.slice (es k).ma (es k).mn (es k).mc))) := by
          rintro X v0 v1 v2 v3 ⟨s0, s1, s2, s3, s4, s5⟩
          refine ⟨(((s0.setCell (p := ⟨w.heap.size, k * 4, none⟩) (Nat.le_refl _) _).setCell (p := ⟨w.heap.size, k * 4 + 1, none⟩) (Nat.le_refl _) _).setCell (p := ⟨w.heap.size, k * 4 + 2, none⟩) (Nat.le_refl _) _).setCell (p := ⟨w.heap.size, k * 4 + 3, none⟩) (Nat.le_refl _) _, (((s1.set (by omega)).set (by omega)).set (by omega)).set (by omega), ?_, ?_, ?_, ?_⟩
          all_goals (repeat (refine cell_far ?_ (by omega))); assumption
        have HS0 : Hid (Below w.heap.size w wr.drew ∧ Old93 wr.drew w.heap.size n es k ∧ wr.drew.cell? ⟨b, o + k * 4, none⟩ = some (.int .u64 (es k).term) ∧ wr.drew.cell? ⟨b, o + k * 4 + 1, none⟩ = some (.string (es k).cmd) ∧ wr.drew.cell? ⟨b, o + k * 4 + 2, none⟩ = some (.int .u64 (es k).origin) ∧ wr.drew.cell? ⟨b, o + k * 4 + 3, none⟩ = some (.slice (es k).ma (es k).mn (es k).mc)) := ⟨hB.drew, hO, c1, c2, c3, c4⟩
        clear hO c1 c2 c3 c4
        go_wp2
        go_region_held3 (fun w' => (Below w.heap.size w w' ∧ Old93 w' w.heap.size n es k ∧ w'.cell? ⟨b, o + k * 4, none⟩ = some (.int .u64 (es k).term) ∧ w'.cell? ⟨b, o + k * 4 + 1, none⟩ = some (.string (es k).cmd) ∧ w'.cell? ⟨b, o + k * 4 + 2, none⟩ = some (.int .u64 (es k).origin) ∧ w'.cell? ⟨b, o + k * 4 + 3, none⟩ = some (.slice (es k).ma (es k).mn (es k).mc)))
          (first | (with_reducible assumption) | (with_reducible exact HS0.out) | (with_reducible exact HK2.out _ _ _ _ _ (by with_reducible assumption)) | (with_reducible exact HK.out _ _ (by with_reducible assumption) (by with_reducible assumption)))
          (first
            | (go_at_call 27; have hSold := ‹Below w.heap.size w _ ∧ _›; refine Calls.mono (zmembers_any _ _ _ (es k).ms _ hmn (by exact Mems.later HM.out hSold.1)) ?_; rintro e w1 ⟨hB1, v1, rfl, hv1⟩; obtain ⟨x1, y1, z1, rfl⟩ := hv1.shape; have hSn := HK.out _ _ hSold hB1; obtain ⟨f2, hf2⟩ := hSn.2.1.1;
                have r0 := hf2.cell (i := k * 4) (by omega); have r1 := hf2.cell (i := k * 4 + 1) (by omega); have r2 := hf2.cell (i := k * 4 + 2) (by omega); have r3 := hf2.cell (i := k * 4 + 3) (by omega);
                have q0 := hf2.frozen (k * 4); have q1 := hf2.frozen (k * 4 + 1); have q2 := hf2.frozen (k * 4 + 2); have q3 := hf2.frozen (k * 4 + 3); have HSN : Hid (Old93 w1 w.heap.size n es k) := hSn.2.1; clear hSn hSold hv1))
        go_wp2
        have hfin := ‹Below w.heap.size w _ ∧ _›
        go_roundw
        case rel => exact ⟨k + 1, by omega, by go_num, Old93.next HSN.out hlt, hfin.1⟩
        case measure => simp [intOf]; omega
      · obtain rfl : k = n := by omega
        go_wp2
        go_ret
        exact ⟨hB, _, rfl, .inr ⟨by simp, w.heap.size, Nat.le_refl _, rfl, hO⟩⟩

end Go.Proofs.Qxb6605768a
