/-
  Seat b6614303a. The envelope's trees; least (49).
-/
import Derived.Test.Qxb6614303aIns
namespace Go.Proofs.Qxb6614303a
open Go.RowKit
set_option linter.unusedVariables false

/-- A tree of lines, each node with its number. -/
inductive T where
  | nil
  | node (i : Nat) (a b : Int) (l r : T)
def T.root : T → Int
  | .nil => -1
  | .node i _ _ _ _ => i
def T.ids : T → List Nat
  | .nil => []
  | .node i _ _ l r => i :: (l.ids ++ r.ids)
/-- The tree lies among the nodes, over the points lo .. hi. -/
def Rep (nds : List Nd) : T → Nat → Nat → Prop
  | .nil, _, _ => True
  | .node i a b l r, lo, hi => ndAt nds i = ⟨a, b, l.root, r.root⟩ ∧ i < nds.length ∧ lo ≤ hi ∧ (lo = hi → l = .nil ∧ r = .nil) ∧ Rep nds l lo ((lo + hi) / 2) ∧ Rep nds r ((lo + hi) / 2 + 1) hi
/-- Go's min. -/
def mn (a v : Int) : Int := if v < a then v else a
/-- The least value at a point. -/
def lst (xs : Nat → Int) : T → Nat → Nat → Nat → Int → Int
  | .nil, _, _, _, acc => acc
  | .node _ a b l r, lo, hi, p, acc =>
    if p ≤ (lo + hi) / 2 then lst xs l lo ((lo + hi) / 2) p (mn acc (evl a b (xs p))) else lst xs r ((lo + hi) / 2 + 1) hi p (mn acc (evl a b (xs p)))

def LeastEnd (v : Int) (w : World) (e : Ending) (w' : World) : Prop := e = .returned (.int .i64 v) ∧ Below w.heap.size w w'

def mL (n lo hi : Int) : Nat := if n = -1 then 0 else (hi - lo).toNat + 1
def mLeast (node lo hi : Value) : Nat := mL (intOf node) (intOf lo) (intOf hi)
theorem mLeast_l {i l h mid : Nat} {tl tr : T} (h4 : l = h → tl = .nil ∧ tr = .nil) (hm : (l + h) / 2 = mid) (hlh : l ≤ h) : mLeast (.int .i64 tl.root) (.int .i64 l) (.int .i64 mid) < mLeast (.int .i64 i) (.int .i64 l) (.int .i64 h) := by
  show mL tl.root l mid < mL i l h
  unfold mL
  by_cases e : l = h
  · rw [(h4 e).1]
    simp [T.root]
  · rw [if_neg (show ¬ (i : Int) = -1 by omega)]
    by_cases q : tl.root = -1
    · rw [if_pos q]; omega
    · rw [if_neg q]; omega
theorem mLeast_r {i l h mid : Nat} {tl tr : T} (h4 : l = h → tl = .nil ∧ tr = .nil) (hm : (l + h) / 2 = mid) (hlh : l ≤ h) : mLeast (.int .i64 tr.root) (.int .i64 ((mid : Int) + 1)) (.int .i64 h) < mLeast (.int .i64 i) (.int .i64 l) (.int .i64 h) := by
  show mL tr.root ((mid : Int) + 1) h < mL i l h
  unfold mL
  by_cases e : l = h
  · rw [(h4 e).2]
    simp [T.root]
  · rw [if_neg (show ¬ (i : Int) = -1 by omega)]
    by_cases q : tr.root = -1
    · rw [if_pos q]; omega
    · rw [if_neg q]; omega
theorem bdrew {B : Nat} {w w' : World} (h : Below B w w') (n : Nat) : Below B w (w'.drewN n) := ⟨h.os, h.tape, h.output, h.size, h.block⟩

set_option maxRecDepth 100000 in
set_option maxHeartbeats 8000000 in
theorem least_any (A : Nat → Prop) (b o : Nat) (c : Array Value) (xa xo xn xz : Nat) (xs : Nat → Int) (nd lgv : Value) (undo : Bool) (nds : List Nd) (lg : List Chg) (t : T) (p : Nat) (w : World)
    (h : EnvAt A w b o c (.slice (some ⟨xa, xo, none⟩) xn xz) nd lgv undo nds lg) (hx : Xs w xa xo xn xs) (hr : Rep nds t 0 (xn - 1)) (hp : p < xn) (hxn : xn ≤ 1099511627776) (hnn : nds.length ≤ 1099511627776) :
    Calls Try.prog 49 #[.pointer (some ⟨b, o, none⟩), .int .i64 t.root, .int .i64 p] w (LeastEnd (lst xs t 0 (xn - 1) p 9223372036854775807) w) := by
  have hlt := h.lt
  have HX := hid hx
  have H := hid h
  have HR := hid hr
  have e0 := h.cellX
  clear h hx hr
  have hxp : 0 < xn := by omega
  obtain ⟨X1, hX1⟩ : ∃ X1, xn - 1 = X1 := ⟨_, rfl⟩
  have hX2 : ((xn : Int) - 1) = (X1 : Int) := by omega
  have hpx : (p : Int) < (xn : Int) := by omega
  rw [hX1] at HR ⊢
  go_enter Try.func49, Try.ntmps49
  go_wp2_with fail
  go_quiet (fail)
  go_wp2_with fail
  go_loopw [1, 7, 8, 9] (fun node acc lo hi wr => ∃ (t' : T) (l h : Nat) (a : Int), node = .int .i64 t'.root ∧ acc = .int .i64 a ∧ lo = .int .i64 l ∧ hi = .int .i64 h ∧ Hid (Rep nds t' l h) ∧ Hid (lst xs t' l h p a = lst xs t 0 X1 p 9223372036854775807) ∧ h < xn ∧ l ≤ xn ∧ Below w.heap.size w wr) (fun node _ lo hi _ => mLeast node lo hi)
  case atStart => exact ⟨t, 0, X1, _, rfl, rfl, rfl, by first | rfl | (rw [hX2]), HR.out, rfl, by omega, by omega, bdrew (Below.refl _ _) _⟩
  case round =>
    obtain ⟨t', l, h, acc, rfl, rfl, rfl, rfl, HRt, HEQ, hhx, hlx, hB⟩ := hrel
    cases t' with
    | nil =>
      simp only [T.root]
      go_wp2
      go_ret
      exact ⟨by rw [← HEQ.out]; rfl, hB⟩
    | node i a b2 tl tr =>
      obtain ⟨r1, r2, r3, r4, r5, r6⟩ := HRt.out
      simp only [T.root]
      have HB := hid hB
      have hi0 : ((i : Int) != -1) = true := by simp
      have hi0' : ((i : Int) == -1) = false := by simp
      have hii : (i : Int) < (nds.length : Int) := by omega
      obtain ⟨g, zz, rfl, n0, n1, n2, n3, nf⟩ := (EnvAt.later H.out hB).node r2
      rw [r1] at n0 n1 n2 n3
      replace n0 : wr.cell? ⟨g, i * 4, none⟩ = some (.int .i64 a) := n0
      replace n1 : wr.cell? ⟨g, i * 4 + 1, none⟩ = some (.int .i64 b2) := n1
      replace n2 : wr.cell? ⟨g, i * 4 + 2, none⟩ = some (.int .i64 tl.root) := n2
      replace n3 : wr.cell? ⟨g, i * 4 + 3, none⟩ = some (.int .i64 tr.root) := n3
      have e0 := (EnvAt.later H.out hB).cellX
      have e1 := (EnvAt.later H.out hB).cellN
      have hxp := keepc (HX.out p hp) hB
      have hmid : ((l : Int) + (h : Int)).tdiv 2 = (((l + h) / 2 : Nat) : Int) := by rw [Int.tdiv_eq_ediv_of_nonneg (by omega)]; omega
      obtain ⟨mid, hm⟩ : ∃ mid, (l + h) / 2 = mid := ⟨_, rfl⟩
      have HL := HEQ.out
      rw [lst, hm] at HL
      rw [hm] at hmid r5 r6
      have hm1 : l ≤ mid := by omega
      have hm2 : mid ≤ h := by omega
      have HLQ := hid HL
      have HR5 := hid r5
      have HR6 := hid r6
      have HR4 := hid r4
      clear HL r4 r5 r6 r1 nf HRt HEQ hB
      have HKK : Hid (∀ X Y : World, (Below wr.heap.size wr X ∧ X.cell? ⟨g, i * 4, none⟩ = some (.int .i64 a) ∧ X.cell? ⟨g, i * 4 + 1, none⟩ = some (.int .i64 b2) ∧ X.cell? ⟨g, i * 4 + 2, none⟩ = some (.int .i64 tl.root) ∧ X.cell? ⟨g, i * 4 + 3, none⟩ = some (.int .i64 tr.root) ∧ X.cell? ⟨b, o, none⟩ = some (.slice (some ⟨xa, xo, none⟩) xn xz) ∧ X.cell? ⟨b, o + 1, none⟩ = some (.slice (some ⟨g, 0, none⟩) nds.length zz) ∧ X.cell? ⟨xa, xo + p, none⟩ = some (.int .i64 (xs p))) → Below X.heap.size X Y → (Below wr.heap.size wr Y ∧ Y.cell? ⟨g, i * 4, none⟩ = some (.int .i64 a) ∧ Y.cell? ⟨g, i * 4 + 1, none⟩ = some (.int .i64 b2) ∧ Y.cell? ⟨g, i * 4 + 2, none⟩ = some (.int .i64 tl.root) ∧ Y.cell? ⟨g, i * 4 + 3, none⟩ = some (.int .i64 tr.root) ∧ Y.cell? ⟨b, o, none⟩ = some (.slice (some ⟨xa, xo, none⟩) xn xz) ∧ Y.cell? ⟨b, o + 1, none⟩ = some (.slice (some ⟨g, 0, none⟩) nds.length zz) ∧ Y.cell? ⟨xa, xo + p, none⟩ = some (.int .i64 (xs p)))) := by
        rintro X Y ⟨s0, s1, s2, s3, s4, s5, s6, s7⟩ hXY
        exact ⟨s0.trans (hXY.mono s0.size), keepc s1 hXY, keepc s2 hXY, keepc s3 hXY, keepc s4 hXY, keepc s5 hXY, keepc s6 hXY, keepc s7 hXY⟩
      have HSS : Hid (Below wr.heap.size wr wr.drew ∧ wr.drew.cell? ⟨g, i * 4, none⟩ = some (.int .i64 a) ∧ wr.drew.cell? ⟨g, i * 4 + 1, none⟩ = some (.int .i64 b2) ∧ wr.drew.cell? ⟨g, i * 4 + 2, none⟩ = some (.int .i64 tl.root) ∧ wr.drew.cell? ⟨g, i * 4 + 3, none⟩ = some (.int .i64 tr.root) ∧ wr.drew.cell? ⟨b, o, none⟩ = some (.slice (some ⟨xa, xo, none⟩) xn xz) ∧ wr.drew.cell? ⟨b, o + 1, none⟩ = some (.slice (some ⟨g, 0, none⟩) nds.length zz) ∧ wr.drew.cell? ⟨xa, xo + p, none⟩ = some (.int .i64 (xs p))) := ⟨(Below.refl _ _).drew, n0, n1, n2, n3, e0, e1, hxp⟩
      clear n0 n1 n2 n3 e0 e1 hxp
      go_wp2_with fail
      go_region_held3 (fun X => (Below wr.heap.size wr X ∧ X.cell? ⟨g, i * 4, none⟩ = some (.int .i64 a) ∧ X.cell? ⟨g, i * 4 + 1, none⟩ = some (.int .i64 b2) ∧ X.cell? ⟨g, i * 4 + 2, none⟩ = some (.int .i64 tl.root) ∧ X.cell? ⟨g, i * 4 + 3, none⟩ = some (.int .i64 tr.root) ∧ X.cell? ⟨b, o, none⟩ = some (.slice (some ⟨xa, xo, none⟩) xn xz) ∧ X.cell? ⟨b, o + 1, none⟩ = some (.slice (some ⟨g, 0, none⟩) nds.length zz) ∧ X.cell? ⟨xa, xo + p, none⟩ = some (.int .i64 (xs p))))
        (first | (with_reducible assumption) | (with_reducible exact HSS.out) | (with_reducible exact HKK.out _ _ (by with_reducible assumption) (by with_reducible assumption)))
        (first
          | (go_at_call 64; refine Calls.mono (at_any _ _ _ _) ?_; rintro e w1 ⟨rfl, hB1⟩))
      have hS := ‹Below wr.heap.size wr _ ∧ _›
      obtain ⟨hSB, n0, n1, n2, n3, e0, e1, -⟩ := hS
      have hBw : Below w.heap.size w w1 := HB.out.trans (hSB.mono HB.out.size)
      by_cases hpm : p ≤ mid
      · have hpm' : (p : Int) ≤ (mid : Int) := by omega
        have HQ := HLQ.out
        rw [if_pos hpm] at HQ
        have HQ2 := hid HQ
        clear HQ HLQ
        go_wp2_with fail
        go_roundw
        case rel => exact ⟨tl, l, mid, _, rfl, rfl, rfl, rfl, HR5.out, HQ2.out, by omega, by omega, hBw⟩
        case measure => exact mLeast_l (HR4.out) hm r3
      · have hpm' : ¬ (p : Int) ≤ (mid : Int) := by omega
        have HQ := HLQ.out
        rw [if_neg hpm] at HQ
        have HQ2 := hid HQ
        clear HQ HLQ
        go_wp2_with fail
        go_roundw
        case rel => exact ⟨tr, mid + 1, h, _, rfl, rfl, by first | rfl | go_num, rfl, HR6.out, HQ2.out, by omega, by omega, hBw⟩
        case measure => exact mLeast_r (HR4.out) hm r3

end Go.Proofs.Qxb6614303a
