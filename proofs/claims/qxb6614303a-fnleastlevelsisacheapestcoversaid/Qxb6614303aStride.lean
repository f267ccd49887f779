/-
  Seat b6614303a. The stride: int(math.Ceil(math.Sqrt(float64(segments)))) is at least 1.
-/
import Derived.WalkKit
import Derived.WalkLawsBesides
import Derived.Below
import Derived.Handy
import Derived.Laws.Externs
import Derived.Test.Qxb6614303aProg
namespace Go.Proofs.Qxb6614303a
open Go.RowKit
set_option linter.unusedVariables false

/-- The stride of s segments: the square root, rounded up, as the model reckons it; and whether it is a number from 1 to 1024. -/
def stOK (s : Nat) : Bool :=
  match FloatKind.f64.format.sqrt (FloatKind.f64.nearest (s : Int)) with
  | none => false
  | some b2 =>
    match FloatKind.f64.decode b2 with
    | .nan _ _ => false
    | d =>
      match (FloatKind.f64.decode (FloatKind.f64.encode (d.integral .up))).toInt .zero with
      | some n => decide (1 ≤ n) && decide (n ≤ 1024)
      | none => false
theorem stAll : ((List.range 1024).all fun i => stOK (i + 1)) = true := by kernel_rfl

theorem stride_of {s : Nat} (h1 : 1 ≤ s) (h2 : s ≤ 1024) : stOK s = true := by
  have := List.all_eq_true.1 stAll (s - 1) (by simp; omega)
  rwa [show s - 1 + 1 = s by omega] at this

/-- What the model reckons for s segments, step by step. -/
theorem stride_steps {s : Nat} (h1 : 1 ≤ s) (h2 : s ≤ 1024) : ∃ b2 b3 st, FloatKind.f64.format.sqrt (FloatKind.f64.nearest (s : Int)) = some b2 ∧ (∀ x p, FloatKind.f64.decode b2 ≠ .nan x p) ∧
    FloatKind.f64.encode ((FloatKind.f64.decode b2).integral .up) = b3 ∧ (FloatKind.f64.decode b3).toInt .zero = some st ∧ 1 ≤ st ∧ st ≤ 1024 := by
  have h := stride_of h1 h2
  unfold stOK at h
  cases e : FloatKind.f64.format.sqrt (FloatKind.f64.nearest (s : Int)) with
  | none => rw [e] at h; cases h
  | some b2 =>
    rw [e] at h
    simp only [] at h
    have hn : ∀ x p, FloatKind.f64.decode b2 ≠ .nan x p := by
      intro x p hx
      rw [hx] at h
      cases h
    refine ⟨b2, FloatKind.f64.encode ((FloatKind.f64.decode b2).integral .up), ?_⟩
    cases e2 : (FloatKind.f64.decode (FloatKind.f64.encode ((FloatKind.f64.decode b2).integral .up))).toInt .zero with
    | none => 
      exfalso
      cases hD : FloatKind.f64.decode b2 with
      | nan x p => exact hn x p hD
      | _ => rw [hD] at h e2; simp only [e2] at h; cases h
    | some st =>
      refine ⟨st, rfl, hn, rfl, by first | exact e2 | rfl, ?_⟩
      cases hD : FloatKind.f64.decode b2 with
      | nan x p => exact absurd hD (hn x p)
      | _ => rw [hD] at h e2; simp only [e2] at h; simpa using h

theorem ext43 (b1 b2 : Nat) (w : World) (h : FloatKind.f64.format.sqrt b1 = some b2) : (callFunc 43 #[.float .f64 b1]).run Try.prog w = .ok (.value (.float .f64 b2)) w := by
  rw [run_callFunc_extern Try.func43 (by kernel_rfl) (by kernel_rfl) (by kernel_rfl) (e := Extern.MathSqrt.sqrt) (by kernel_rfl)]
  have e : (Extern.MathSqrt.sqrt #[.float .f64 b1]) = (match FloatKind.f64.format.sqrt b1 with | some r => pure (.float .f64 r) | none => do pure (.float .f64 (← choose (.nanBits .f64 b1 b1)))) := rfl
  rw [e, h]
  rfl
theorem ext41 (b1 : Nat) (w : World) (h : ∀ s p, FloatKind.f64.decode b1 ≠ .nan s p) : (callFunc 41 #[.float .f64 b1]).run Try.prog w = .ok (.value (.float .f64 (FloatKind.f64.encode ((FloatKind.f64.decode b1).integral .up)))) w := by
  rw [run_callFunc_extern Try.func41 (by kernel_rfl) (by kernel_rfl) (by kernel_rfl) (e := Extern.MathFloor.toIntegral "math.archCeil" .up) (by kernel_rfl)]
  obtain ⟨g, e⟩ : ∃ g, Extern.MathFloor.toIntegral "math.archCeil" .up #[.float .f64 b1] = Extern.MathFloor.toIntegral.match_1 (motive := fun _ => Sem Value) (FloatKind.f64.decode b1) g (fun d => pure (.float .f64 (FloatKind.f64.encode (d.integral .up)))) := ⟨_, rfl⟩
  rw [e]
  cases hD : FloatKind.f64.decode b1 with
  | nan s p => exact absurd hD (h s p)
  | _ => rfl

set_option maxHeartbeats 400000 in
theorem sqrt_any (b1 b2 : Nat) (w : World) (h : FloatKind.f64.format.sqrt b1 = some b2) : Calls Try.prog 26 #[.float .f64 b1] w (fun e w' => e = .returned (.float .f64 b2) ∧ w' = w) := by
  have hd := ext43 b1 b2 w h
  go_enter Try.func26, Try.ntmps26
  go_wp2
  go_ret
  exact ⟨rfl, rfl⟩
set_option maxRecDepth 20000 in
set_option maxHeartbeats 400000 in
theorem ceil_any (b1 : Nat) (w : World) (h : ∀ s p, FloatKind.f64.decode b1 ≠ .nan s p) : Calls Try.prog 25 #[.float .f64 b1] w (fun e w' => e = .returned (.float .f64 (FloatKind.f64.encode ((FloatKind.f64.decode b1).integral .up))) ∧ w' = w) := by
  have hd := ext41 b1 w h
  generalize FloatKind.f64.encode ((FloatKind.f64.decode b1).integral .up) = b2 at hd ⊢
  go_enter Try.func25, Try.ntmps25
  go_wp2
  go_ret
  exact ⟨rfl, rfl⟩
end Go.Proofs.Qxb6614303a
