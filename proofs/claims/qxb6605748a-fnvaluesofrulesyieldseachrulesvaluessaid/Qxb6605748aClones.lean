/-
  Seat b6605748a. The copies: cloneIntsB1 (8), cloneStringsB1 (12), cloneRowsB1 (7).
-/
import Derived.Maps.AppendAt
import Derived.Deep.OwnRows
import Derived.Test.Qxb6605748aReads
namespace Go.Proofs.Qxb6605748a
open Go.RowKit
set_option linter.unusedVariables false

theorem info3 : (Try.prog.info? 3).map (fun i => (i.zero, i.size, i.bytes)) = some (some (.int .i64 0), 1, 8) := by kernel_rfl
theorem info9 : (Try.prog.info? 9).map (fun i => (i.zero, i.size, i.bytes)) = some (some (.string ByteArray.empty), 1, 16) := by kernel_rfl
theorem info30' : (Try.prog.info? 30).map (fun i => (i.zero, i.size, i.bytes)) = some (some (.slice none 0 0), 1, 24) := by kernel_rfl

def IntsEnd (n : Nat) (zs : Nat → Int) (w : World) (e : Ending) (w' : World) : Prop :=
  Below w.heap.size w w' ∧ ∃ a' c', e = .returned (.slice a' n c') ∧ (0 < n → ∃ b, b < w'.heap.size ∧ a' = some ⟨b, 0, none⟩ ∧ ∀ j, j < n → w'.cell? ⟨b, j, none⟩ = some (.int .i64 (zs j)))

set_option maxHeartbeats 1000000 in
theorem ints_any (a : Option Addr) (n c : Nat) (zs : Nat → Int) (w : World) (hn : n ≤ 65536) (h0 : a = none → n = 0) (h : 0 < n → ∃ b o, a = some ⟨b, o, none⟩ ∧ ∀ j, j < n → w.cell? ⟨b, o + j, none⟩ = some (.int .i64 (zs j))) :
    Calls Try.prog 8 #[.slice a n c] w (IntsEnd n zs w) := by
  have q : ∀ (w : World) (a : Option Addr) (n c : Nat), (binOp .eql 23 (.slice a n c) (.slice none 0 0)).run Try.prog w = .ok (.bool a.isNone) w := fun w a n c => Lib.run_eql_slice_nil w _ _ a n c 0 0 Try.underlying23
  cases a with
  | none =>
    obtain rfl := h0 rfl
    go_enter Try.func8, Try.ntmps8
    go_wp2
    go_ret
    exact ⟨Below.refl _ _, none, 0, rfl, fun h => absurd h (by omega)⟩
  | some x =>
    have HC : Hid _ := h
    clear h h0
    have hmk := run_make_row' (P := Try.prog) 23 3 (.int .i64 0) 8 Try.underlying23 info3 rfl .i64 .i64 n (by omega) (by omega)
    go_enter Try.func8, Try.ntmps8
    go_wp2
    have hrow0 := World.rowIs_made w (.int .i64 0) n 3
    have hB0 : Below w.heap.size w (w.alloc (.cells (madeCells #[.int .i64 0] n) 3)) := (Below.refl _ _).alloc (Nat.le_refl _) _
    clear hmk
    go_loopw [4] (fun i wr => ∃ k : Nat, k ≤ n ∧ i = .int .i64 k ∧ wr.rowIs w.heap.size 3 n (fun j => if j < k then .int .i64 (zs j) else .int .i64 0) ∧ Below w.heap.size w wr) (fun i _ => n - (intOf i).toNat)
    case atStart => exact ⟨0, Nat.zero_le _, rfl, by simpa using hrow0, hB0⟩
    case round =>
      obtain ⟨k, hk, rfl, hrow, hB⟩ := hrel
      by_cases hlt : k < n
      · obtain ⟨b, o, hx, hc⟩ := HC.out (by omega)
        cases hx
        have hck := hc k hlt
        have hlb := World.block_lt_of_cell? _ _ hck
        have hcr := (hB.cell (p := ⟨b, o + k, none⟩) hlb).trans hck
        have hd : wr.cell? ⟨w.heap.size, k, none⟩ = some (.int .i64 0) := by rw [hrow.cell hlt, if_neg (by omega)]
        have hf := hrow.frozen k
        clear hc hck
        go_wp2
        go_roundw
        case rel =>
          refine ⟨k + 1, by omega, by go_num, (hrow.set k (.int .i64 (zs k))).congr fun i hi => ?_, hB.setCell (Nat.le_refl _) _⟩
          by_cases e : i = k
          · subst e; simp
          · rw [if_neg e]
            by_cases e2 : i < k
            · rw [if_pos e2, if_pos (by omega)]
            · rw [if_neg e2, if_neg (by omega)]
        case measure => simp [intOf]; omega
      · obtain rfl : k = n := by omega
        go_wp2
        go_ret
        exact ⟨hB, _, _, rfl, fun _ => ⟨w.heap.size, hrow.lt, rfl, fun j hj => by rw [hrow.cell hj, if_pos hj]⟩⟩

theorem StrRow.later {w w' : World} {v : Value} (h : StrRow w v) (hb : Below w.heap.size w w') : StrRow w' v := by
  obtain ⟨a, n, c, e, hn, hc⟩ := h
  refine ⟨a, n, c, e, hn, fun h0 => ?_⟩
  obtain ⟨b, o, ea, hs⟩ := hc h0
  refine ⟨b, o, ea, fun j hj => ?_⟩
  obtain ⟨s, hs⟩ := hs j hj
  exact ⟨s, (hb.cell (p := ⟨b, o + j, none⟩) (World.block_lt_of_cell? _ _ hs)).trans hs⟩

theorem StrRow.set {w : World} {v : Value} (h : StrRow w v) {p : Addr} {a : Option Addr} {n c : Nat} (hp : w.cell? p = some (.slice a n c)) (u : Value) : StrRow (w.setCell p u) v := by
  obtain ⟨a, n, c, e, hn, hc⟩ := h
  refine ⟨a, n, c, e, hn, fun h0 => ?_⟩
  obtain ⟨b, o, ea, hs⟩ := hc h0
  refine ⟨b, o, ea, fun j hj => ?_⟩
  obtain ⟨s, hs⟩ := hs j hj
  refine ⟨s, (World.cell?_setCell_other w p ⟨b, o + j, none⟩ u (fun e => ?_)).trans hs⟩
  subst e
  rw [hp] at hs
  cases hs

theorem StrRow.nil (w : World) : StrRow w (.slice none 0 0) := ⟨none, 0, 0, rfl, Nat.zero_le _, fun h => absurd h (by omega)⟩

def StrsEnd (w : World) (e : Ending) (w' : World) : Prop := Below w.heap.size w w' ∧ ∃ a' n' c', e = .returned (.slice a' n' c') ∧ StrRow w' (.slice a' n' c')

set_option maxHeartbeats 1000000 in
theorem strs_any (a : Option Addr) (n c : Nat) (w : World) (hn : n ≤ 65536) (h : StrRow w (.slice a n c)) :
    Calls Try.prog 12 #[.slice a n c] w (StrsEnd w) := by
  have q : ∀ (w : World) (a : Option Addr) (n c : Nat), (binOp .eql 30 (.slice a n c) (.slice none 0 0)).run Try.prog w = .ok (.bool a.isNone) w := fun w a n c => Lib.run_eql_slice_nil w _ _ a n c 0 0 Try.underlying30
  cases a with
  | none =>
    go_enter Try.func12, Try.ntmps12
    go_wp2
    go_ret
    exact ⟨Below.refl _ _, none, 0, 0, rfl, StrRow.nil w⟩
  | some x =>
    obtain ⟨a', n', c', e, _, hc⟩ := h
    cases e
    have HC : Hid _ := hc
    clear hc
    have hmk := run_make_row' (P := Try.prog) 30 9 (.string ByteArray.empty) 16 Try.underlying30 info9 rfl .i64 .i64 n (by omega) (by omega)
    go_enter Try.func12, Try.ntmps12
    go_wp2
    have hrow0 := World.rowIs_made w (.string ByteArray.empty) n 9
    have hB0 : Below w.heap.size w (w.alloc (.cells (madeCells #[.string ByteArray.empty] n) 9)) := (Below.refl _ _).alloc (Nat.le_refl _) _
    clear hmk
    go_loopw [4] (fun i wr => ∃ k : Nat, k ≤ n ∧ i = .int .i64 k ∧ (∃ f : Nat → ByteArray, wr.rowIs w.heap.size 9 n (fun j => .string (f j))) ∧ Below w.heap.size w wr) (fun i _ => n - (intOf i).toNat)
    case atStart => exact ⟨0, Nat.zero_le _, rfl, ⟨_, hrow0⟩, hB0⟩
    case round =>
      obtain ⟨k, hk, rfl, ⟨f, hrow⟩, hB⟩ := hrel
      by_cases hlt : k < n
      · obtain ⟨b, o, hx, hc⟩ := HC.out (by omega)
        cases hx
        obtain ⟨s, hck⟩ := hc k hlt
        have hlb := World.block_lt_of_cell? _ _ hck
        have hcr := (hB.cell (p := ⟨b, o + k, none⟩) hlb).trans hck
        have hd : wr.cell? ⟨w.heap.size, k, none⟩ = some (.string (f k)) := hrow.cell hlt
        have hf := hrow.frozen k
        clear hc hck
        go_wp2
        go_roundw
        case rel =>
          refine ⟨k + 1, by omega, by go_num, ⟨fun j => if j = k then s else f j, (hrow.set k (.string s)).congr fun i hi => ?_⟩, hB.setCell (Nat.le_refl _) _⟩
          by_cases e : i = k
          · subst e; simp
          · simp [e]
        case measure => simp [intOf]; omega
      · obtain rfl : k = n := by omega
        go_wp2
        go_ret
        exact ⟨hB, _, _, _, rfl, _, _, _, rfl, by omega, fun _ => ⟨w.heap.size, 0, rfl, fun j hj => ⟨f j, by rw [Nat.zero_add]; exact hrow.cell hj⟩⟩⟩

def RowsEnd (n : Nat) (w : World) (e : Ending) (w' : World) : Prop :=
  Below w.heap.size w w' ∧ ∃ (a' : Option Addr) (c' : Nat) (row' : Nat → Value), e = .returned (.slice a' n c') ∧ ((n = 0 ∧ a' = none ∧ c' = 0) ∨ ∃ bv, bv < w'.heap.size ∧ a' = some ⟨bv, 0, none⟩ ∧ ∀ j, j < n → w'.cell? ⟨bv, j, none⟩ = some (row' j)) ∧ ∀ j, j < n → StrRow w' (row' j)

set_option maxHeartbeats 1000000 in
theorem rows_any (a : Option Addr) (n c : Nat) (row : Nat → Value) (w : World) (hn : n ≤ 65536) (hr : ∀ j, j < n → lenOf (row j) ≤ 65536) (h : StrRows w a n row) :
    Calls Try.prog 7 #[.slice a n c] w (RowsEnd n w) := by
  have q : ∀ (w : World) (a : Option Addr) (n c : Nat), (binOp .eql 22 (.slice a n c) (.slice none 0 0)).run Try.prog w = .ok (.bool a.isNone) w := fun w a n c => Lib.run_eql_slice_nil w _ _ a n c 0 0 Try.underlying22
  obtain ⟨_, hc, hs⟩ := h
  cases a with
  | none =>
    have hn0 : n = 0 := by
      rcases Nat.eq_zero_or_pos n with h | h
      · exact h
      · obtain ⟨_, _, e, _⟩ := hc h; cases e
    subst hn0
    go_enter Try.func7, Try.ntmps7
    go_wp2
    go_ret
    exact ⟨Below.refl _ _, none, 0, row, rfl, .inl ⟨rfl, rfl, rfl⟩, fun j hj => absurd hj (by omega)⟩
  | some x =>
    have HC : Hid _ := hc
    have HS : Hid _ := hs
    have HR : Hid _ := hr
    clear hc hs hr
    have hmk := run_make_row' (P := Try.prog) 22 30 (.slice none 0 0) 24 Try.underlying22 info30' rfl .i64 .i64 n (by omega) (by omega)
    go_enter Try.func7, Try.ntmps7
    go_wp2
    have hrow0 := World.rowIs_made w (.slice none 0 0) n 30
    have hB0 : Below w.heap.size w (w.alloc (.cells (madeCells #[.slice none 0 0] n) 30)) := (Below.refl _ _).alloc (Nat.le_refl _) _
    clear hmk
    go_loopw [4] (fun i wr => ∃ k : Nat, k ≤ n ∧ i = .int .i64 k ∧ (∃ f : Nat → Value, wr.rowIs w.heap.size 30 n f ∧ ∀ j, j < n → StrRow wr (f j)) ∧ Below w.heap.size w wr) (fun i _ => n - (intOf i).toNat)
    case atStart => exact ⟨0, Nat.zero_le _, rfl, ⟨_, hrow0, fun j _ => StrRow.nil _⟩, hB0⟩
    case round =>
      obtain ⟨k, hk, rfl, ⟨f, hrow, hsr⟩, hB⟩ := hrel
      have HSR : Hid _ := hsr
      clear hsr
      by_cases hlt : k < n
      · obtain ⟨b, o, hx, hc⟩ := HC.out (by omega)
        cases hx
        have hck := hc k hlt
        have hlb := World.block_lt_of_cell? _ _ hck
        have hcr := (hB.cell (p := ⟨b, o + k, none⟩) hlb).trans hck
        have hsk := (HS.out k hlt).later hB
        have hlk := HR.out k hlt
        clear hc hck
        obtain ⟨ra, rn, rc, hre, _, _⟩ := HS.out k hlt
        rw [hre] at hcr hsk hlk
        have hlk' : rn ≤ 65536 := hlk
        clear hre hlk
        go_wp2_with fail
        refine (strs_any ra rn rc wr hlk' hsk).mono ?_
        rintro e w2 ⟨hB2, a2, n2, c2, rfl, hs2⟩
        have hrow2 : w2.rowIs w.heap.size 30 n f := hrow.of_block (hB2.block _ hrow.lt)
        obtain ⟨fa, fn, fc, hfk, _, _⟩ := HSR.out k hlt
        have hd : w2.cell? ⟨w.heap.size, k, none⟩ = some (.slice fa fn fc) := by rw [hrow2.cell hlt, hfk]
        have hf := hrow2.frozen k
        have HSR2 : Hid (∀ j, j < n → StrRow w2 (f j)) := fun j hj => (HSR.out j hj).later hB2
        clear hfk hcr
        go_wp2
        go_roundw
        case rel =>
          refine ⟨k + 1, by omega, by go_num, ⟨fun j => if j = k then .slice a2 n2 c2 else f j, hrow2.set k (.slice a2 n2 c2), fun j hj => ?_⟩, (hB.trans (hB2.mono hB.size)).setCell (Nat.le_refl _) _⟩
          by_cases e : j = k
          · subst e; simp only [if_pos]; exact hs2.set hd _
          · simp only [if_neg e]; exact (HSR2.out j hj).set hd _
        case measure => simp [intOf]; omega
      · obtain rfl : k = n := by omega
        go_wp2
        go_ret
        exact ⟨hB, _, _, f, rfl, .inr ⟨w.heap.size, hrow.lt, rfl, fun j hj => hrow.cell hj⟩, HSR.out⟩

end Go.Proofs.Qxb6605748a
