/-
  Seat b6605748a. The arguments of the two laws, opened: rows of strings, a row of ints.
-/
import Derived.Test.Qxb6605748aRows
import Derived.WalkKit
import Derived.ProofKit
import Derived.OpenShut
import Derived.ShutString
import Derived.ChangeOld
import Derived.Below
import Derived.Deep.Slices
import Derived.Deep.Strs
import Derived.Test.Qxb6605748aLaws
namespace Go.Proofs.Qxb6605748a
open Go.ChangeShapes Go.WideShapes Go.ChangeAt Go.RowKit Go.Deep
open Go.ChangeMaps (open_string shut_string)
set_option linter.unusedVariables false

theorem own : ownKnob Try.prog.godebug = none := by kernel_rfl
theorem laidOut : laidOutB Try.prog = true := by kernel_rfl

theorem plain_addr {w : World} {a : Addr} {n : Nat} {V : Nat → Value} (h : ∀ i, i < n → w.cell? (a.add i) = some (V i)) (h0 : 0 < n) : ∃ b o, a = ⟨b, o, none⟩ ∧ ∀ i, i < n → w.cell? ⟨b, o + i, none⟩ = some (V i) := by
  obtain ⟨b, off, spot⟩ := a
  have hspot : spot = none := by simpa [Addr.add] using World.cell?_spot (h 0 h0)
  subst hspot
  exact ⟨b, off, rfl, fun j hj => by rw [← Go.WideShapes.add_plain]; exact h j hj⟩

section
variable {H : Type} {enc : TypeId × Value → H} {W : World}

/-- A row of strings. -/
theorem strRow_of {fuel : Nat} {v : Value} {x : DataW H × List MemPlace} (h : DataW.trod enc Try.prog W 0 (fun _ => true) true fuel 30 [v] = some x) : StrRow W v := by
  rcases open_strs Try.underlying30 Try.underlying9 (by kernel_rfl) h with ⟨hcs, _⟩ | ⟨a, len, cap, m, Sx, hcs, _, hl, hm, hmm, _, hx⟩
  · simp at hcs; subst hcs; exact StrRow.nil W
  · simp at hcs
    subst hcs
    simp only [if_true] at hmm
    subst hmm
    refine ⟨_, _, _, rfl, by unfold maxLen at hm; omega, fun h0 => ?_⟩
    obtain ⟨b, o, rfl, hc⟩ := plain_addr (n := len) (V := fun i => .string (Sx i)) (fun i hi => (hx i (by omega)).1) h0
    exact ⟨b, o, rfl, fun j hj => ⟨_, hc j hj⟩⟩

/-- Rows of strings. -/
theorem strRows_of {fuel : Nat} {a : Option Addr} {n c : Nat} {x : DataW H × List MemPlace} (h : DataW.trod enc Try.prog W 0 (fun _ => true) true fuel 22 [.slice a n c] = some x) : ∃ row, StrRows W a n row := by
  rcases open_slice1 Try.underlying22 (by kernel_rfl) h with ⟨hcs, _⟩ | ⟨x, len, cap, m, q, V, D, Pl, hcs, _, hl, hm, hmm, _, hx⟩
  · simp at hcs
    obtain ⟨rfl, rfl, rfl⟩ := hcs
    exact ⟨fun _ => .slice none 0 0, by omega, fun h => absurd h (by omega), fun j hj => absurd hj (by omega)⟩
  · simp at hcs
    obtain ⟨rfl, rfl, rfl⟩ := hcs
    simp only [if_true] at hmm
    subst hmm
    refine ⟨V, by unfold maxLen at hm; omega, fun h0 => ?_, fun j hj => strRow_of (hx j (by omega)).2⟩
    obtain ⟨b, o, rfl, hc⟩ := plain_addr (n := n) (V := V) (fun i hi => (hx i (by omega)).1) h0
    exact ⟨b, o, rfl, hc⟩

/-- A row of ints. -/
theorem intRow_of {fuel : Nat} {a : Option Addr} {n c : Nat} {x : DataW H × List MemPlace} (h : DataW.trod enc Try.prog W 0 (fun _ => true) true fuel 23 [.slice a n c] = some x) : ∃ zs, IntRow W a n zs := by
  rcases open_ints Try.underlying23 Try.underlying3 (by kernel_rfl) h with ⟨hcs, _⟩ | ⟨x, l, c, zs, hcs, _, hl, hm, hz, _, hcell, hwz⟩
  · simp at hcs
    obtain ⟨rfl, rfl, rfl⟩ := hcs
    exact ⟨fun _ => 0, by omega, fun _ => rfl, fun h => absurd h (by omega)⟩
  · simp at hcs
    obtain ⟨rfl, rfl, rfl⟩ := hcs
    simp only [if_true] at hz
    refine ⟨fun i => zs.getD i 0, by unfold maxLen at hm; omega, fun h => (by cases h), fun h0 => ?_⟩
    obtain ⟨b, o, rfl, hc⟩ := plain_addr (n := n) (V := fun i => .int .i64 (zs.getD i 0)) (fun i hi => hcell i (by omega)) h0
    exact ⟨b, o, rfl, hc⟩
end

end Go.Proofs.Qxb6605748a
