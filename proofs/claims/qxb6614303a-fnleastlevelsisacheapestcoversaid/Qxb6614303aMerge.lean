/-
  Seat b6614303a. merge (48).
-/
import Derived.Test.Qxb6614303aIns2
import Derived.Test.Qxb6614303aLaws3
import Derived.Deep.DeepCutAuto
namespace Go.Proofs.Qxb6614303a
open Go.RowKit
set_option linter.unusedVariables false

theorem wrap_mid {m : Int} (h0 : -9223372036854775808 ≤ m) (h1 : m ≤ 9223372036854775807) : IntKind.i64.wrap m = m := by
  simp [IntKind.wrap, IntKind.signed, IntKind.bits]
  omega

def MergeEnd (A : Nat → Prop) (b o : Nat) (c : Array Value) (xv : Value) (xs : Nat → Int) (xn : Nat) (ta tb : T) (nds : List Nd) (lg : List Chg) (lo hi : Nat) (w : World) (e : Ending) (w' : World) : Prop :=
  ∃ (t' : T) (nds' : List Nd), e = .returned (.int .i64 t'.root) ∧ EnvEnd A b o c xv false nds' lg w w' ∧ MrgT xs xn ta tb nds nds' lo hi t'

set_option maxRecDepth 100000 in
set_option maxHeartbeats 8000000 in
theorem merge_any (A : Nat → Prop) (b o : Nat) (xa xo xn xz : Nat) (xs : Nat → Int) (lg : List Chg) (hup : Up xs xn) (hxA : A xa) (hxn : xn ≤ 1099511627776) (hln : lg.length + 2 * xn ≤ 1099511627776) (tb : T) :
    ∀ (ta : T) (lo hi : Nat) (c : Array Value) (nd lgv : Value) (nds : List Nd) (w : World) (h : EnvAt A w b o c (.slice (some ⟨xa, xo, none⟩) xn xz) nd lgv false nds lg) (hx : Xs w xa xo xn xs) (hs : Safe nds) (hra : Rep nds ta lo hi) (hrb : Rep nds tb lo hi) (hnd : (ta.ids ++ tb.ids).Nodup) (hga : ta.all (Good xs xn)) (hgb : tb.all (Good xs xn)) (hhx : hi < xn) (hlx : lo ≤ xn) (hnn : nds.length + tb.size + xn ≤ 1099511627776),
      Calls Try.prog 48 #[.pointer (some ⟨b, o, none⟩), .int .i64 ta.root, .int .i64 tb.root, .int .i64 lo, .int .i64 hi] w (MergeEnd A b o c (.slice (some ⟨xa, xo, none⟩) xn xz) xs xn ta tb nds lg lo hi w) := by
  induction tb with
  | nil =>
    intro ta lo hi c nd lgv nds w h hx hs hra hrb hnd hga hgb hhx hlx hnn
    have H := hid (h.end0 (Below.refl _ w))
    have HM : Hid (MrgT xs xn ta .nil nds nds lo hi ta) := ⟨hra, by simpa [T.ids] using hnd, fun j hj => .inl hj, Nat.le_refl _, by omega, fun _ _ _ _ => rfl, hga, by omega, fun p _ _ k => by
      have : lst xs ta lo hi p (min k k) = _ := lst_min xs ta lo hi p k k
      simp only [lst]
      rw [show min k k = k by omega] at this
      omega, hs⟩
    clear h hx hs hra hrb hnd hga hgb
    cases ta with
    | nil =>
      simp only [T.root]
      go_enter Try.func48, Try.ntmps48
      go_wp2
      go_ret
      exact ⟨.nil, nds, rfl, H.out, HM.out⟩
    | node i a2 b2 l r =>
      simp only [T.root]
      have hi0' : ((i : Int) == -1) = false := by simp
      go_enter Try.func48, Try.ntmps48
      go_wp2
      go_ret
      exact ⟨_, nds, rfl, H.out, HM.out⟩
  | node j a1 b1 bl br ihl ihr =>
    intro ta lo hi c nd lgv nds w h hx hs hra hrb hnd hga hgb hhx hlx hnn
    have hj0' : ((j : Int) == -1) = false := by simp
    cases ta with
    | nil =>
      have H := hid (h.end0 (Below.refl _ w))
      have HM : Hid (MrgT xs xn .nil (.node j a1 b1 bl br) nds nds lo hi (.node j a1 b1 bl br)) := ⟨hrb, by simpa [T.ids] using hnd, fun j hj => .inr (.inl hj), Nat.le_refl _, by omega, fun _ _ _ _ => rfl, hgb, by omega, fun p _ _ k => by
        have : lst xs (.node j a1 b1 bl br) lo hi p (min k k) = _ := lst_min xs (.node j a1 b1 bl br) lo hi p k k
        rw [show min k k = k by omega] at this
        rw [show lst xs .nil lo hi p k = k from rfl]
        omega, hs⟩
      clear h hx hs hra hrb hnd hga hgb ihl ihr
      simp only [T.root]
      go_enter Try.func48, Try.ntmps48
      go_wp2
      go_ret
      exact ⟨_, nds, rfl, H.out, HM.out⟩
    | node i a2 b2 l r =>
      have hi0' : ((i : Int) == -1) = false := by simp
      have hra' := hra
      have hrb' := hrb
      obtain ⟨ra1, ra2, ra3, ra4, ra5, ra6⟩ := hra'
      obtain ⟨rb1, rb2, rb3, rb4, rb5, rb6⟩ := hrb'
      obtain ⟨dA, dB, dAB⟩ := List.nodup_append.1 hnd
      obtain ⟨ta1, hI⟩ := ins_tree hup false (.node i a2 b2 l r) (hi - lo + 1) nds lg lo hi a1 b1 (by simp) hra dA hga hgb.1 hhx (by omega)
      have hnolog := ins_nolog xs (hi - lo + 1) nds lg i lo hi a1 b1
      have hsafe := ins_safe xs false (hi - lo + 1) nds lg i lo hi a1 b1 hs ra2
      rw [show (T.node i a2 b2 l r).root.toNat = i by simp [T.root]] at hI
      obtain ⟨g, zz, rfl, n0, n1, n2, n3, nf⟩ := h.node rb2
      rw [rb1] at n0 n1
      replace n0 : w.cell? ⟨g, j * 4, none⟩ = some (.int .i64 a1) := n0
      replace n1 : w.cell? ⟨g, j * 4 + 1, none⟩ = some (.int .i64 b1) := n1
      have e1 := h.cellN
      have hjj : (j : Int) < (nds.length : Int) := by omega
      have hlt := h.lt
      have HE := hid h
      have HX := hid hx
      have HS := hid hs
      have HI := hid hI
      have HNL := hid hnolog
      have HSF := hid hsafe
      have HND := hid hnd
      have HRB := hid hrb
      have HGB := hid hgb
      have HDAB := hid dAB
      have HDB := hid dB
      have HIHL := hid ihl
      have HIHR := hid ihr
      clear h hx hs hI hnolog hsafe hnd hra hrb hga dAB dB dA ra1 ra4 ra5 ra6 rb1 rb4 rb5 rb6 n2 n3 nf hgb ihl ihr
      simp only [T.root]
      have hmid : ((lo : Int) + (hi : Int)).tdiv 2 = (((lo + hi) / 2 : Nat) : Int) := by rw [Int.tdiv_eq_ediv_of_nonneg (by omega)]; omega
      obtain ⟨mid, hm⟩ : ∃ mid, (lo + hi) / 2 = mid := ⟨_, rfl⟩
      rw [hm] at hmid
      go_enter Try.func48, Try.ntmps48
      go_wp2_with fail
      refine (insert_any A b o c xa xo xn xz xs _ _ false nds lg i lo hi a1 b1 (hi - lo + 1) w HE.out HX.out hxA HS.out ra2 ra3 hhx hxn (by omega) (by omega) (by omega)).mono ?_
      rintro e w1 ⟨rfl, hk1, nd1, lgv1, henv1⟩
      rw [HNL.out] at henv1
      obtain ⟨nds1, hnds1⟩ : ∃ nds1, (ins xs false (hi - lo + 1) nds lg i lo hi a1 b1).1 = nds1 := ⟨_, rfl⟩
      have hI1 := HI.out
      have hS1 := HSF.out
      rw [hnds1] at henv1 hI1 hS1
      clear HI HSF HNL hnds1 n0 n1 e1
      cases ta1 with
      | nil => have := hI1.root; simp [T.root] at this
      | node i' ka kb tl tr =>
        obtain rfl : i' = i := by have := hI1.root; simp only [T.root] at this; omega
        have hM := mrg_pre hm hI1 HRB.out HDB.out HDAB.out HGB.out
        have HI1 := hid hI1
        have HM := hid hM
        have HE1 := hid henv1
        have hli := hM.li
        have hlj := hM.lj
        obtain ⟨g1, z1, rfl, n0, n1, n2, n3, nf⟩ := henv1.node hli
        obtain ⟨g1', z1', hgz, k0, k1, k2, k3, kf⟩ := henv1.node hlj
        have hgg : g1 = g1' := by
          have := congrArg Value.ownBlock hgz
          simpa [Value.ownBlock] using this
        subst hgg
        rw [hM.ri] at n2
        rw [hM.rj] at k2
        replace n2 : w1.cell? ⟨g1, i' * 4 + 2, none⟩ = some (.int .i64 tl.root) := n2
        replace k2 : w1.cell? ⟨g1, j * 4 + 2, none⟩ = some (.int .i64 bl.root) := k2
        have e1 := henv1.cellN
        have hii1 : (i' : Int) < (nds1.length : Int) := by omega
        have hjj1 : (j : Int) < (nds1.length : Int) := by omega
        have hl1 := hI1.len1
        have hl0 := hI1.len
        have HX1 : Hid (Xs w1 xa xo xn xs) := fun q hq => (hk1.cell (a := ⟨xa, xo + q, none⟩) hxA).trans (HX.out q hq)
        have HK1 := hid hk1
        have HS1 := hid hS1
        have hC1 := HIHL.out tl lo mid _ _ _ nds1 w1.drew henv1.drew (fun q hq => HX1.out q hq) hS1 hM.repL hM.repBL hM.nL hM.gl hM.gbl (by omega) (by omega) (by simp only [T.size] at hnn; omega)
        have HC1 := hid hC1
        clear hM hI1 henv1 n0 n1 n3 nf k0 k1 k3 kf hgz hk1 hS1 hC1
        go_upto_region 7 with fail
        go_cut [12] (fun v wc => ∃ (tL : T) (nds2 : List Nd), v = .int .i64 tL.root ∧ Hid (EnvEnd A b o ((c.setIfInBounds (o + 1) (.slice (some ⟨g1, 0, none⟩) nds1.length z1)).setIfInBounds (o + 3) lgv1) (.slice (some ⟨xa, xo, none⟩) xn xz) false nds2 lg w1.drew wc) ∧ Hid (MrgT xs xn tl bl nds1 nds2 lo mid tL))
        case first =>
          go_region_law (first
            | (go_simp; go_at_call 48; go_must (refine Calls.mono HC1.out ?_; rintro e w2 ⟨tL, nds2, rfl, he2, hm2⟩)))
          all_goals
            go_wp2_with fail
            go_meet
            case rel => exact ⟨tL, nds2, rfl, he2, hm2⟩
        case rest =>
          obtain ⟨tL, nds2, rfl, HE2, HM2⟩ := hcut
          obtain ⟨hk2, nd2, lgv2, henv2⟩ := HE2.out
          rw [setC_setC] at henv2
          obtain ⟨m1, m2, m3, m4, m5, m6, m7⟩ := mrg_mid HM.out HM2.out
          have hl2 := HM2.out.len
          have hl2' := HM2.out.len1
          obtain ⟨g2, z2, rfl, n0, n1, n2, n3, nf⟩ := henv2.node m2
          rw [m1] at n2
          replace n2 : wc.cell? ⟨g2, i' * 4 + 2, none⟩ = some (.int .i64 tl.root) := n2
          have nf2 := nf (i' * 4 + 2)
          have e1 := henv2.cellN
          have hii2 : (i' : Int) < (nds2.length : Int) := by omega
          obtain ⟨hs3, hk3⟩ := henv2.setNode i' 2 ⟨ka, kb, tL.root, tr.root⟩ (.int .i64 tL.root) m2 (by omega) (by rw [m1]; rfl)
          have HE3 := hid hs3
          have HKW : Hid (Keeps A w (wc.setCell ⟨g2, i' * 4 + 2, none⟩ (.int .i64 tL.root))) := (HK1.out.trans ⟨hk2.os, hk2.tape, hk2.output, hk2.size, hk2.block⟩).trans hk3
          have HX3 : Hid (Xs (wc.setCell ⟨g2, i' * 4 + 2, none⟩ (.int .i64 tL.root)) xa xo xn xs) := fun q hq => (hk3.cell (a := ⟨xa, xo + q, none⟩) hxA).trans ((hk2.cell (a := ⟨xa, xo + q, none⟩) hxA).trans (HX1.out q hq))
          have HM3 := hid (show ndAt nds2 i' = ⟨ka, kb, tl.root, tr.root⟩ ∧ Safe (nds2.set i' ⟨ka, kb, tL.root, tr.root⟩) ∧ ndAt (nds2.set i' ⟨ka, kb, tL.root, tr.root⟩) j = ⟨a1, b1, bl.root, br.root⟩ ∧ Rep (nds2.set i' ⟨ka, kb, tL.root, tr.root⟩) tr (mid + 1) hi ∧ Rep (nds2.set i' ⟨ka, kb, tL.root, tr.root⟩) br (mid + 1) hi from ⟨m1, m4, m5, m6, m7⟩)
          clear n0 n1 n3 nf hs3 hk3 henv2 hk2 HE2 m1 m4 m5 m6 m7
          go_upto_region 9 with fail
          obtain ⟨W3, hW3⟩ : ∃ W3, wc.setCell ⟨g2, i' * 4 + 2, none⟩ (.int .i64 tL.root) = W3 := ⟨_, rfl⟩
          have hE3 := HE3.out
          have hKW := HKW.out
          have hX3 := HX3.out
          rw [hW3] at hE3 hKW hX3 ⊢
          clear HE3 HKW HX3 hW3 n2 nf2 e1
          obtain ⟨nds3, hn3⟩ : ∃ nds3, nds2.set i' ⟨ka, kb, tL.root, tr.root⟩ = nds3 := ⟨_, rfl⟩
          obtain ⟨m1, m4, m5, m6, m7⟩ := HM3.out
          have hln3 : nds3.length = nds2.length := by rw [← hn3, List.length_set]
          have r3 : ndAt nds3 i' = ⟨ka, kb, tL.root, tr.root⟩ := by rw [← hn3]; exact ndAt_set _ m2
          rw [hn3] at hE3 m4 m5 m6 m7
          obtain ⟨g3, z3, hgz3, p0, p1, p2, p3, pf⟩ := hE3.node (i := i') (by omega)
          obtain ⟨g3', z3', hgz3', q0, q1, q2, q3, qf⟩ := hE3.node (i := j) (by omega)
          have hg3 : g2 = g3 := by
            have := congrArg Value.ownBlock hgz3
            simpa [Value.ownBlock] using this
          have hg3' : g2 = g3' := by
            have := congrArg Value.ownBlock hgz3'
            simpa [Value.ownBlock] using this
          subst hg3 hg3'
          rw [r3] at p3
          rw [m5] at q3
          replace p3 : W3.cell? ⟨g2, i' * 4 + 3, none⟩ = some (.int .i64 tr.root) := p3
          replace q3 : W3.cell? ⟨g2, j * 4 + 3, none⟩ = some (.int .i64 br.root) := q3
          have e1 := hE3.cellN
          have hj2 : (j : Int) < (nds2.length : Int) := by omega
          have hwm : IntKind.i64.wrap ((mid : Int) + 1) = (mid : Int) + 1 := wrap_mid (by omega) (by omega)
          have hC2 := HIHR.out tr (mid + 1) hi _ _ _ nds3 W3.drew hE3.drew (fun q hq => hX3 q hq) m4 m6 m7 HM.out.nR HM.out.gr HM.out.gbr (by omega) (by omega) (by simp only [T.size] at hnn; omega)
          have HC2 : Hid (Calls Try.prog 48 #[.pointer (some ⟨b, o, none⟩), .int .i64 tr.root, .int .i64 br.root, .int .i64 ((mid : Int) + 1), .int .i64 hi] W3.drew (MergeEnd A b o ((c.setIfInBounds (o + 1) (.slice (some ⟨g2, 0, none⟩) nds2.length z2)).setIfInBounds (o + 3) lgv2) (.slice (some ⟨xa, xo, none⟩) xn xz) xs xn tr br nds3 lg (mid + 1) hi W3.drew)) := hC2
          have HKW := hid hKW
          have HN3 := hid hn3
          clear hgz3 hgz3' p0 p1 p2 pf q0 q1 q2 qf m4 m5 m6 m7 r3 hE3 hKW hX3 hC2 HC1 hn3 m1 HM3
          go_cut [13] (fun v wd => ∃ (tR : T) (nds4 : List Nd), v = .int .i64 tR.root ∧ Hid (EnvEnd A b o ((c.setIfInBounds (o + 1) (.slice (some ⟨g2, 0, none⟩) nds2.length z2)).setIfInBounds (o + 3) lgv2) (.slice (some ⟨xa, xo, none⟩) xn xz) false nds4 lg W3.drew wd) ∧ Hid (MrgT xs xn tr br nds3 nds4 (mid + 1) hi tR))
          case first =>
            go_region_law (first
              | (go_simp; go_at_call 48; go_must (refine Calls.mono HC2.out ?_; rintro e w4 ⟨tR, nds4, rfl, he4, hm4⟩)))
            all_goals
              go_wp2_with fail
              go_meet
              case rel => exact ⟨tR, nds4, rfl, he4, hm4⟩
          case rest =>
            obtain ⟨tR, nds4, rfl, HE4, HM4⟩ := hcut
            obtain ⟨hk4, nd4, lgv4, henv4⟩ := HE4.out
            rw [setC_setC] at henv4
            have hM4 := HM4.out
            rw [← HN3.out] at hM4
            obtain ⟨s1, s2, s3⟩ := mrg_asm hm HI1.out HM.out ra3 HM2.out hM4
            obtain ⟨g4, z4, rfl, n0, n1, n2, n3, nf⟩ := henv4.node s2
            have nf3 := nf (i' * 4 + 3)
            have e4 := henv4.cellN
            have hii4 : (i' : Int) < (nds4.length : Int) := by omega
            obtain ⟨hs5, hk5⟩ := henv4.setNode i' 3 ⟨ka, kb, tL.root, tR.root⟩ (.int .i64 tR.root) s2 (by omega) (by rw [s1]; rfl)
            have HE5 := hid hs5
            have HK5 := hid ((HKW.out.trans ⟨hk4.os, hk4.tape, hk4.output, hk4.size, hk4.block⟩).trans hk5)
            have HS3 := hid s3
            clear n0 n1 n2 nf hs5 hk5 henv4 hk4 HE4 s1 s3 hM4 p3 q3 e1
            go_wp2
            go_ret
            exact ⟨.node i' ka kb tL tR, _, rfl, ⟨HK5.out, _, _, HE5.out⟩, HS3.out⟩

end Go.Proofs.Qxb6614303a
