/-
  Seat b6605748a. The two laws, walked.
-/
import Derived.Test.Qxb6605748aZz
import Derived.Test.Qxb6605748aSame
import Derived.Test.Qxb6605748aClones
namespace Go.Proofs.Qxb6605748a
open Go.RowKit
set_option linter.unusedVariables false

/-- A slice value that holds ints. -/
def IntRow (w : World) (a : Option Addr) (n : Nat) (zs : Nat → Int) : Prop :=
  n ≤ 9223372036854775807 ∧ (a = none → n = 0) ∧ (0 < n → ∃ b o, a = some ⟨b, o, none⟩ ∧ ∀ j, j < n → w.cell? ⟨b, o + j, none⟩ = some (.int .i64 (zs j)))

theorem IntRow.later {w w' : World} {a : Option Addr} {n : Nat} {zs : Nat → Int} (h : IntRow w a n zs) (hb : Below w.heap.size w w') : IntRow w' a n zs :=
  ⟨h.1, h.2.1, fun h0 => by
    obtain ⟨b, o, e, hc⟩ := h.2.2 h0
    exact ⟨b, o, e, fun j hj => (hb.cell (p := ⟨b, o + j, none⟩) (World.block_lt_of_cell? _ _ (hc j hj))).trans (hc j hj)⟩⟩

theorem owned_slice {W : World} {base : Nat} {v : Value} {K : Nat} {row : Nat → Value} (h : W.ownsRow base 30 1 v K ((List.range K).map row)) :
    ∃ oa oc, v = .slice oa K oc ∧ (0 < K → ∃ g, oa = some ⟨g, 0, none⟩ ∧ ∀ j, j < K → W.cell? ⟨g, j, none⟩ = some (row j)) := by
  rcases h.2 with ⟨rfl, rfl⟩ | ⟨g, cap, cur, rfl, _, hg, _, _, _, ht⟩
  · exact ⟨none, 0, rfl, fun h => absurd h (by omega)⟩
  · refine ⟨_, _, rfl, fun _ => ⟨g, rfl, fun j hj => ?_⟩⟩
    have h1 : (cur.toList.take (K * 1))[j]? = some (row j) := by rw [ht]; simp [hj]
    rw [List.getElem?_take, if_pos (by omega)] at h1
    simp only [World.cell?, hg]
    simpa using h1

/-- A world that parts from another in draws alone. -/
def Ahead (w w' : World) : Prop := ∃ m, w' = w.drewN m
theorem Ahead.cell {w w' : World} (h : Ahead w w') {a : Addr} {v : Value} (hc : w.cell? a = some v) : w'.cell? a = some v := by obtain ⟨m, rfl⟩ := h; exact hc
theorem Ahead.row {w w' : World} (h : Ahead w w') {v : Value} (hc : StrRow w v) : StrRow w' v := by obtain ⟨m, rfl⟩ := h; exact hc
theorem Ahead.more {w w' : World} (h : Ahead w w') (n : Nat) : Ahead w (w'.drewN n) := by obtain ⟨m, rfl⟩ := h; exact ⟨m + n, World.drewN_drewN _ _ _⟩
theorem Ahead.below {w0 w w' : World} (h : Ahead w w') {B : Nat} (hB : Below B w0 w) : Below B w0 w' := by obtain ⟨m, rfl⟩ := h; exact ⟨hB.os, hB.tape, hB.output, hB.size, hB.block⟩

/-- The law's end. -/
def LawEnd (w : World) (e : Ending) (w' : World) : Prop := e = .returned (.bool true) ∧ Below w.heap.size w w'

set_option maxRecDepth 100000 in
set_option maxHeartbeats 2000000 in
theorem law3 (a0 a1 : Option Addr) (n0 c0 n1 c1 : Nat) (row : Nat → Value) (zs : Nat → Int) (w : World) (h : StrRows w a0 n0 row) (hz : IntRow w a1 n1 zs) :
    Calls Try.prog 3 #[.slice a0 n0 c0, .slice a1 n1 c1] w (LawEnd w) := by
  have hn0 := h.1
  have hn1 := hz.1
  go_enter Try.func3, Try.ntmps3
  go_wp2_with fail
  refine (bytes_any a0 a1 n0 c0 n1 c1 row w h hn1).mono ?_
  rintro e w' ⟨⟨b, rfl⟩, rfl⟩
  cases b
  · go_wp2
    go_ret; exact ⟨rfl, Below.refl _ _⟩
  by_cases h16 : 65536 < n0
  · have hd : (65536 : Int) < (n0 : Int) := by omega
    go_wp2
    go_ret; exact ⟨rfl, Below.refl _ _⟩
  have hd : decide ((65536 : Int) < (n0 : Int)) = false := by simp; omega
  by_cases h17 : 65536 < n1
  · have hd1 : (65536 : Int) < (n1 : Int) := by omega
    go_wp2
    go_ret; exact ⟨rfl, Below.refl _ _⟩
  have hd1 : decide ((65536 : Int) < (n1 : Int)) = false := by simp; omega
  go_wp2_with fail
  refine (fit_any a0 a1 n0 c0 n1 c1 row w' h hn1).mono ?_
  rintro e w2 ⟨⟨b, rfl, hfit⟩, rfl⟩
  cases b
  · go_wp2
    go_ret; exact ⟨rfl, Below.refl _ _⟩
  have HF : Hid _ := hfit rfl
  clear hfit
  by_cases hne : n1 = n0
  · subst hne
    go_wp2_with fail
    refine (rows_any a0 n1 c0 row w2 (by omega) HF.out h).mono ?_
    rintro e w3 ⟨hB3, a', c', row', rfl, hv, hs⟩
    have hz3 := hz.later hB3
    have HV : Hid _ := hv
    have HS : Hid _ := hs
    clear hv hs h hz HF
    go_wp2_with fail
    refine (ints_any a1 n1 c1 zs w3 (by omega) hz3.2.1 hz3.2.2).mono ?_
    rintro e w4 ⟨hB4, a4, c4, rfl, hi⟩
    have HI : Hid _ := hi
    clear hi hz3
    go_wp2_with fail
    refine ((callsIn_wide (n := 0)).1 (zz_in a' a4 c' c4 n1 0 row' zs w4 (by omega) ?hv ?ha ?hs)).mono ?_
    case hv =>
      rcases HV.out with h | ⟨bv, hb, e, hc⟩
      · exact .inl h
      · exact .inr ⟨bv, Nat.lt_of_lt_of_le hb hB4.size, e, fun j hj => (hB4.cell (p := ⟨bv, j, none⟩) hb).trans (hc j hj)⟩
    case ha => exact HI.out
    case hs =>
      intro j hj
      obtain ⟨a, n, c, e, _⟩ := HS.out j hj
      exact ⟨a, n, c, e⟩
    rintro e w5 ⟨v, K, rfl, hK, hrow, hB5⟩
    obtain rfl : K = n1 := by omega
    clear hK
    obtain ⟨oa, oc, rfl, ho⟩ := owned_slice hrow
    have hB35 : Below w3.heap.size w3 w5 := hB4.trans (hB5.mono hB4.size)
    have hB : Below w2.heap.size w2 w5 := hB3.trans (hB35.mono hB3.size)
    have HV5 : Hid (0 < K → ∃ bv, a' = some ⟨bv, 0, none⟩ ∧ ∀ j, j < K → w5.cell? ⟨bv, j, none⟩ = some (row' j)) := fun h0 => by
      rcases HV.out with ⟨h, _⟩ | ⟨bv, hb, e, hc⟩
      · omega
      · exact ⟨bv, e, fun j hj => (hB35.cell (p := ⟨bv, j, none⟩) hb).trans (hc j hj)⟩
    have HS5 : Hid (∀ j, j < K → StrRow w5 (row' j)) := fun j hj => (HS.out j hj).later hB35
    have HO : Hid _ := ho
    clear ho hrow HV HS HI hB3 hB4 hB5 hB35
    go_wp2_with fail
    go_loopw [8] (fun i wr => ∃ k : Nat, k ≤ K ∧ i = .int .i64 k ∧ Ahead w5 wr) (fun i _ => K - (intOf i).toNat)
    case atStart => exact ⟨0, Nat.zero_le _, rfl, 0, rfl⟩
    case round =>
      obtain ⟨k, hk, rfl, hA⟩ := hrel
      by_cases hlt : k < K
      · obtain ⟨bv, rfl, hcv⟩ := HV5.out (by omega)
        obtain ⟨g, rfl, hco⟩ := HO.out (by omega)
        have c1 := hA.cell (hcv k hlt)
        have c2 := hA.cell (hco k hlt)
        have hsk := hA.row (HS5.out k hlt)
        obtain ⟨ra, rn, rc, hre, _, _⟩ := HS5.out k hlt
        rw [hre] at c1 c2 hsk
        have HSK : Hid _ := hsk
        clear hcv hco hre hsk
        go_wp2_with fail
        go_quiet ((go_at_call 10; exact Calls.quiet_of (same_any _ _ _ _ (by exact HSK.out))))
        go_wp2
        go_roundw
        case rel => exact ⟨k + 1, by omega, by go_num, hA.more _⟩
        case measure => simp [intOf]; omega
      · go_wp2
        go_ret; exact ⟨rfl, hA.below hB⟩
  · have hne' : ((n1 : Int) != (n0 : Int)) = true := by rw [bne_iff_ne]; omega
    go_wp2
    go_ret; exact ⟨rfl, Below.refl _ _⟩

set_option maxRecDepth 100000 in
set_option maxHeartbeats 2000000 in
theorem law4 (a0 a1 : Option Addr) (n0 c0 n1 c1 : Nat) (row : Nat → Value) (zs : Nat → Int) (lim : Int) (w : World) (h : StrRows w a0 n0 row) (hz : IntRow w a1 n1 zs) :
    Calls Try.prog 4 #[.slice a0 n0 c0, .slice a1 n1 c1, .int .i64 lim] w (LawEnd w) := by
  have hn0 := h.1
  have hn1 := hz.1
  go_enter Try.func4, Try.ntmps4
  go_wp2_with fail
  refine (bytes_lim_any a0 a1 n0 c0 n1 c1 row lim w h hn1).mono ?_
  rintro e w' ⟨⟨b, rfl⟩, rfl⟩
  cases b
  · go_wp2
    go_ret; exact ⟨rfl, Below.refl _ _⟩
  by_cases h16 : 65536 < n0
  · have hd : (65536 : Int) < (n0 : Int) := by omega
    go_wp2
    go_ret; exact ⟨rfl, Below.refl _ _⟩
  have hd : decide ((65536 : Int) < (n0 : Int)) = false := by simp; omega
  by_cases h17 : 65536 < n1
  · have hd1 : (65536 : Int) < (n1 : Int) := by omega
    go_wp2
    go_ret; exact ⟨rfl, Below.refl _ _⟩
  have hd1 : decide ((65536 : Int) < (n1 : Int)) = false := by simp; omega
  go_wp2_with fail
  refine (fit_any a0 a1 n0 c0 n1 c1 row w' h hn1).mono ?_
  rintro e w2 ⟨⟨b, rfl, hfit⟩, rfl⟩
  cases b
  · go_wp2
    go_ret; exact ⟨rfl, Below.refl _ _⟩
  have HF : Hid _ := hfit rfl
  clear hfit
  by_cases hne : n1 = n0
  · subst hne
    go_wp2_with fail
    refine (rows_any a0 n1 c0 row w2 (by omega) HF.out h).mono ?_
    rintro e w3 ⟨hB3, a', c', row', rfl, hv, hs⟩
    have hz3 := hz.later hB3
    have HV : Hid _ := hv
    have HS : Hid _ := hs
    clear hv hs h hz HF
    go_wp2_with fail
    refine (ints_any a1 n1 c1 zs w3 (by omega) hz3.2.1 hz3.2.2).mono ?_
    rintro e w4 ⟨hB4, a4, c4, rfl, hi⟩
    have HI : Hid _ := hi
    clear hi hz3
    go_wp2_with fail
    refine ((callsIn_wide (n := 0)).1 (zz_in a' a4 c' c4 n1 lim row' zs w4 (by omega) ?hv ?ha ?hs)).mono ?_
    case hv =>
      rcases HV.out with h | ⟨bv, hb, e, hc⟩
      · exact .inl h
      · exact .inr ⟨bv, Nat.lt_of_lt_of_le hb hB4.size, e, fun j hj => (hB4.cell (p := ⟨bv, j, none⟩) hb).trans (hc j hj)⟩
    case ha => exact HI.out
    case hs =>
      intro j hj
      obtain ⟨a, n, c, e, _⟩ := HS.out j hj
      exact ⟨a, n, c, e⟩
    rintro e w5 ⟨v, K, rfl, hK, hrow, hB5⟩
    have hKn : K ≤ n1 := by omega
    obtain ⟨oa, oc, rfl, ho⟩ := owned_slice hrow
    have hB35 : Below w3.heap.size w3 w5 := hB4.trans (hB5.mono hB4.size)
    have hB : Below w2.heap.size w2 w5 := hB3.trans (hB35.mono hB3.size)
    have HV5 : Hid (0 < K → ∃ bv, a' = some ⟨bv, 0, none⟩ ∧ ∀ j, j < K → w5.cell? ⟨bv, j, none⟩ = some (row' j)) := fun h0 => by
      rcases HV.out with ⟨h, _⟩ | ⟨bv, hb, e, hc⟩
      · omega
      · exact ⟨bv, e, fun j hj => (hB35.cell (p := ⟨bv, j, none⟩) hb).trans (hc j (by omega))⟩
    have HS5 : Hid (∀ j, j < K → StrRow w5 (row' j)) := fun j hj => (HS.out j (by omega)).later hB35
    have HO : Hid _ := ho
    clear ho hrow HV HS HI hB3 hB4 hB5 hB35
    rcases hK with ⟨hl1, hl2, hlK⟩ | ⟨hl, rfl⟩
    · subst hlK
      have e1 : decide ((1 : Int) ≤ (K : Int)) = true := by simp; omega
      have e2 : decide ((K : Int) < (n1 : Int)) = true := by simp; omega
      have e1' : (1 : Int) ≤ (K : Int) := hl1
      have e2' : (K : Int) < (n1 : Int) := hl2
      go_wp2_with fail
      go_loopw [11] (fun i wr => ∃ k : Nat, k ≤ K ∧ i = .int .i64 k ∧ Ahead w5 wr) (fun i _ => K - (intOf i).toNat)
      case atStart => exact ⟨0, Nat.zero_le _, rfl, 0, rfl⟩
      case round =>
        obtain ⟨k, hk, rfl, hA⟩ := hrel
        by_cases hlt : k < K
        · obtain ⟨bv, rfl, hcv⟩ := HV5.out (by omega)
          obtain ⟨g, rfl, hco⟩ := HO.out (by omega)
          have c1 := hA.cell (hcv k hlt)
          have c2 := hA.cell (hco k hlt)
          have hsk := hA.row (HS5.out k hlt)
          obtain ⟨ra, rn, rc, hre, _, _⟩ := HS5.out k hlt
          rw [hre] at c1 c2 hsk
          have HSK : Hid _ := hsk
          clear hcv hco hre hsk
          go_wp2_with fail
          go_quiet ((go_at_call 10; exact Calls.quiet_of (same_any _ _ _ _ (by exact HSK.out))))
          go_wp2
          go_roundw
          case rel => exact ⟨k + 1, by omega, by go_num, hA.more _⟩
          case measure => simp [intOf]; omega
        · go_wp2
          go_ret; exact ⟨rfl, hA.below hB⟩
    · clear hKn
      by_cases hl1 : 1 ≤ lim
      · have hl2 : ¬ lim < (K : Int) := fun h => hl ⟨hl1, h⟩
        have e2 : decide (lim < (K : Int)) = false := by simp; omega
        clear hl
        go_wp2_with fail
        go_loopw [11] (fun i wr => ∃ k : Nat, k ≤ K ∧ i = .int .i64 k ∧ Ahead w5 wr) (fun i _ => K - (intOf i).toNat)
        case atStart => exact ⟨0, Nat.zero_le _, rfl, 0, rfl⟩
        case round =>
          obtain ⟨k, hk, rfl, hA⟩ := hrel
          by_cases hlt : k < K
          · obtain ⟨bv, rfl, hcv⟩ := HV5.out (by omega)
            obtain ⟨g, rfl, hco⟩ := HO.out (by omega)
            have c1 := hA.cell (hcv k hlt)
            have c2 := hA.cell (hco k hlt)
            have hsk := hA.row (HS5.out k hlt)
            obtain ⟨ra, rn, rc, hre, _, _⟩ := HS5.out k hlt
            rw [hre] at c1 c2 hsk
            have HSK : Hid _ := hsk
            clear hcv hco hre hsk
            go_wp2_with fail
            go_quiet ((go_at_call 10; exact Calls.quiet_of (same_any _ _ _ _ (by exact HSK.out))))
            go_wp2
            go_roundw
            case rel => exact ⟨k + 1, by omega, by go_num, hA.more _⟩
            case measure => simp [intOf]; omega
          · go_wp2
            go_ret; exact ⟨rfl, hA.below hB⟩
      · have e1 : decide ((1 : Int) ≤ lim) = false := by simp; omega
        clear hl
        go_wp2_with fail
        go_loopw [11] (fun i wr => ∃ k : Nat, k ≤ K ∧ i = .int .i64 k ∧ Ahead w5 wr) (fun i _ => K - (intOf i).toNat)
        case atStart => exact ⟨0, Nat.zero_le _, rfl, 0, rfl⟩
        case round =>
          obtain ⟨k, hk, rfl, hA⟩ := hrel
          by_cases hlt : k < K
          · obtain ⟨bv, rfl, hcv⟩ := HV5.out (by omega)
            obtain ⟨g, rfl, hco⟩ := HO.out (by omega)
            have c1 := hA.cell (hcv k hlt)
            have c2 := hA.cell (hco k hlt)
            have hsk := hA.row (HS5.out k hlt)
            obtain ⟨ra, rn, rc, hre, _, _⟩ := HS5.out k hlt
            rw [hre] at c1 c2 hsk
            have HSK : Hid _ := hsk
            clear hcv hco hre hsk
            go_wp2_with fail
            go_quiet ((go_at_call 10; exact Calls.quiet_of (same_any _ _ _ _ (by exact HSK.out))))
            go_wp2
            go_roundw
            case rel => exact ⟨k + 1, by omega, by go_num, hA.more _⟩
            case measure => simp [intOf]; omega
          · go_wp2
            go_ret; exact ⟨rfl, hA.below hB⟩
  · have hne' : ((n1 : Int) != (n0 : Int)) = true := by rw [bne_iff_ne]; omega
    go_wp2
    go_ret; exact ⟨rfl, Below.refl _ _⟩

end Go.Proofs.Qxb6605748a
