/-
  Seat b6605748a. The functions that only read: the two bounds on lengths (5, 11), valuesFitB1 (6), sameSliceB1 (10).
-/
import Derived.WalkKit
import Derived.Below
import Derived.Lib.SliceRun
import Derived.LaidEqlPtr
import Derived.Deep.QuietTactic
import Derived.BigQuiet
import Derived.Test.Qxb6605748aProg
namespace Go.Proofs.Qxb6605748a
open Go.RowKit
set_option linter.unusedVariables false

/-- It has returned a bool. -/
def IsBool (e : Ending) : Prop := ∃ b, e = .returned (.bool b)

/-- A slice value that holds strings. -/
def StrRow (w : World) (v : Value) : Prop := ∃ a n c, v = .slice a n c ∧ n ≤ 9223372036854775807 ∧ (0 < n → ∃ b o, a = some ⟨b, o, none⟩ ∧ ∀ j, j < n → ∃ s : ByteArray, w.cell? ⟨b, o + j, none⟩ = some (.string s))

/-- A slice value that holds such slices. -/
def StrRows (w : World) (a : Option Addr) (n : Nat) (row : Nat → Value) : Prop :=
  n ≤ 9223372036854775807 ∧ (0 < n → ∃ b o, a = some ⟨b, o, none⟩ ∧ ∀ j, j < n → w.cell? ⟨b, o + j, none⟩ = some (row j)) ∧ ∀ j, j < n → StrRow w (row j)

set_option maxHeartbeats 1000000 in
theorem bytes_any (a0 a1 : Option Addr) (n0 c0 n1 c1 : Nat) (row : Nat → Value) (w : World) (h : StrRows w a0 n0 row) (h1 : n1 ≤ 9223372036854775807) :
    Calls Try.prog 5 #[.slice a0 n0 c0, .slice a1 n1 c1] w fun e w' => IsBool e ∧ w' = w := by
  obtain ⟨hn, hc, hr⟩ := h
  have HR : Hid _ := hr
  have HC : Hid _ := hc
  clear hr hc
  go_enter Try.func5, Try.ntmps5
  go_wp2
  · go_ret; exact ⟨⟨_, rfl⟩, rfl⟩
  go_loop [5, 6] (fun z i => ∃ (k : Nat) (q : Int), k ≤ n0 ∧ i = .int .i64 k ∧ z = .int .i64 q) (fun _ i => n0 - (intOf i).toNat)
  case atStart => exact ⟨0, _, Nat.zero_le _, rfl, rfl⟩
  case round =>
    obtain ⟨k, q, hk, rfl, rfl⟩ := hrel
    by_cases hlt : k < n0
    · obtain ⟨b, o, rfl, hc⟩ := HC.out (by omega)
      obtain ⟨ra, rn, rc, hre, hrn, hrc⟩ := HR.out k hlt
      have hck := hc k hlt
      rw [hre] at hck
      have HC2 : Hid _ := hrc
      clear hrc hc hre
      go_wp2
      · go_ret; exact ⟨⟨_, rfl⟩, rfl⟩
      · go_ret; exact ⟨⟨_, rfl⟩, rfl⟩
      go_loop [5, 7] (fun z i => ∃ (k : Nat) (q : Int), k ≤ rn ∧ i = .int .i64 k ∧ z = .int .i64 q) (fun _ i => rn - (intOf i).toNat)
      case atStart => exact ⟨0, _, Nat.zero_le _, rfl, rfl⟩
      case round =>
        obtain ⟨j, q2, hj, rfl, rfl⟩ := hrel
        by_cases hlj : j < rn
        · obtain ⟨b2, o2, rfl, hc2⟩ := HC2.out (by omega)
          obtain ⟨s, hs⟩ := hc2 j hlj
          clear hc2
          go_wp2
          · go_ret; exact ⟨⟨_, rfl⟩, rfl⟩
          · go_ret; exact ⟨⟨_, rfl⟩, rfl⟩
          · go_round
            case rel => exact ⟨j + 1, _, by omega, by go_num, rfl⟩
            case measure => simp [intOf]; omega
        · go_wp2
          go_round
          case rel => exact ⟨k + 1, _, by omega, by go_num, rfl⟩
          case measure => simp [intOf]; omega
    · go_wp2
      all_goals (go_ret; exact ⟨⟨_, rfl⟩, rfl⟩)

set_option maxHeartbeats 1000000 in
theorem bytes_lim_any (a0 a1 : Option Addr) (n0 c0 n1 c1 : Nat) (row : Nat → Value) (x : Int) (w : World) (h : StrRows w a0 n0 row) (h1 : n1 ≤ 9223372036854775807) :
    Calls Try.prog 11 #[.slice a0 n0 c0, .slice a1 n1 c1, .int .i64 x] w fun e w' => IsBool e ∧ w' = w := by
  obtain ⟨hn, hc, hr⟩ := h
  have HR : Hid _ := hr
  have HC : Hid _ := hc
  clear hr hc
  go_enter Try.func11, Try.ntmps11
  go_wp2
  · go_ret; exact ⟨⟨_, rfl⟩, rfl⟩
  go_loop [7, 8] (fun z i => ∃ (k : Nat) (q : Int), k ≤ n0 ∧ i = .int .i64 k ∧ z = .int .i64 q) (fun _ i => n0 - (intOf i).toNat)
  case atStart => exact ⟨0, _, Nat.zero_le _, rfl, rfl⟩
  case round =>
    obtain ⟨k, q, hk, rfl, rfl⟩ := hrel
    by_cases hlt : k < n0
    · obtain ⟨b, o, rfl, hc⟩ := HC.out (by omega)
      obtain ⟨ra, rn, rc, hre, hrn, hrc⟩ := HR.out k hlt
      have hck := hc k hlt
      rw [hre] at hck
      have HC2 : Hid _ := hrc
      clear hrc hc hre
      go_wp2
      · go_ret; exact ⟨⟨_, rfl⟩, rfl⟩
      · go_ret; exact ⟨⟨_, rfl⟩, rfl⟩
      go_loop [7, 9] (fun z i => ∃ (k : Nat) (q : Int), k ≤ rn ∧ i = .int .i64 k ∧ z = .int .i64 q) (fun _ i => rn - (intOf i).toNat)
      case atStart => exact ⟨0, _, Nat.zero_le _, rfl, rfl⟩
      case round =>
        obtain ⟨j, q2, hj, rfl, rfl⟩ := hrel
        by_cases hlj : j < rn
        · obtain ⟨b2, o2, rfl, hc2⟩ := HC2.out (by omega)
          obtain ⟨s, hs⟩ := hc2 j hlj
          clear hc2
          go_wp2
          · go_ret; exact ⟨⟨_, rfl⟩, rfl⟩
          · go_ret; exact ⟨⟨_, rfl⟩, rfl⟩
          · go_round
            case rel => exact ⟨j + 1, _, by omega, by go_num, rfl⟩
            case measure => simp [intOf]; omega
        · go_wp2
          go_round
          case rel => exact ⟨k + 1, _, by omega, by go_num, rfl⟩
          case measure => simp [intOf]; omega
    · go_wp2
      all_goals (go_ret; exact ⟨⟨_, rfl⟩, rfl⟩)

/-- A slice value's length. -/
def lenOf : Value → Nat
  | .slice _ n _ => n
  | _ => 0

/-- It has returned a bool; if true, every row is short. -/
def FitEnd (n : Nat) (row : Nat → Value) (e : Ending) : Prop := ∃ b, e = .returned (.bool b) ∧ (b = true → ∀ j, j < n → lenOf (row j) ≤ 65536)

set_option maxHeartbeats 1000000 in
theorem fit_any (a0 a1 : Option Addr) (n0 c0 n1 c1 : Nat) (row : Nat → Value) (w : World) (h : StrRows w a0 n0 row) (h1 : n1 ≤ 9223372036854775807) :
    Calls Try.prog 6 #[.slice a0 n0 c0, .slice a1 n1 c1] w fun e w' => FitEnd n0 row e ∧ w' = w := by
  obtain ⟨hn, hc, hr⟩ := h
  have HR : Hid _ := hr
  have HC : Hid _ := hc
  clear hr hc
  go_enter Try.func6, Try.ntmps6
  go_wp2
  · go_ret; exact ⟨⟨_, rfl, fun h => by cases h⟩, rfl⟩
  go_loop [5, 6] (fun z i => ∃ (k : Nat) (q : Int), k ≤ n0 ∧ i = .int .i64 k ∧ z = .int .i64 q ∧ Hid (∀ j, j < k → lenOf (row j) ≤ 65536)) (fun _ i => n0 - (intOf i).toNat)
  case atStart => exact ⟨0, _, Nat.zero_le _, rfl, rfl, fun j hj => absurd hj (by omega)⟩
  case round =>
    obtain ⟨k, q, hk, rfl, rfl, HL⟩ := hrel
    by_cases hlt : k < n0
    · obtain ⟨b, o, rfl, hc⟩ := HC.out (by omega)
      obtain ⟨ra, rn, rc, hre, hrn, hrc⟩ := HR.out k hlt
      have hck := hc k hlt
      rw [hre] at hck
      have HC2 : Hid _ := hrc
      have HL2 : Hid (lenOf (row k) = rn) := by rw [hre]; rfl
      clear hrc hc hre
      go_wp2
      · go_ret; exact ⟨⟨_, rfl, fun h => by cases h⟩, rfl⟩
      · go_ret; exact ⟨⟨_, rfl, fun h => by cases h⟩, rfl⟩
      have hshort : rn ≤ 65536 := by omega
      go_loop [5, 8] (fun z i => ∃ (k : Nat) (q : Int), k ≤ rn ∧ i = .int .i64 k ∧ z = .int .i64 q) (fun _ i => rn - (intOf i).toNat)
      case atStart => exact ⟨0, _, Nat.zero_le _, rfl, rfl⟩
      case round =>
        obtain ⟨j, q2, hj, rfl, rfl⟩ := hrel
        by_cases hlj : j < rn
        · obtain ⟨b2, o2, rfl, hc2⟩ := HC2.out (by omega)
          obtain ⟨s, hs⟩ := hc2 j hlj
          clear hc2
          go_wp2
          · go_ret; exact ⟨⟨_, rfl, fun h => by cases h⟩, rfl⟩
          · go_round
            case rel => exact ⟨j + 1, _, by omega, by go_num, rfl⟩
            case measure => simp [intOf]; omega
        · go_wp2
          go_round
          case rel =>
            refine ⟨k + 1, _, by omega, by go_num, rfl, fun j hj => ?_⟩
            rcases Nat.lt_or_ge j k with h | h
            · exact HL.out j h
            · obtain rfl : j = k := by omega
              rw [HL2.out]; exact hshort
          case measure => simp [intOf]; omega
    · obtain rfl : k = n0 := by omega
      go_wp2
      go_ret; exact ⟨⟨_, rfl, fun _ => HL.out⟩, rfl⟩

end Go.Proofs.Qxb6605748a
