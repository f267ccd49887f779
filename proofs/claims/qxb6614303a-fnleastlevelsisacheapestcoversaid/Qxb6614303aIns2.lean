/-
  Seat b6614303a. insert (51), walked.
-/
import Derived.Test.Qxb6614303aIns
namespace Go.Proofs.Qxb6614303a
open Go.RowKit
set_option linter.unusedVariables false

set_option maxRecDepth 100000 in
set_option maxHeartbeats 8000000 in
theorem insert_any (A : Nat → Prop) (b o : Nat) (c : Array Value) (xa xo xn xz : Nat) (xs : Nat → Int) (nd lgv : Value) (undo : Bool) (nds : List Nd) (lg : List Chg) (i0 lo0 hi0 : Nat) (a0 b0 : Int) (f0 : Nat) (w : World)
    (h : EnvAt A w b o c (.slice (some ⟨xa, xo, none⟩) xn xz) nd lgv undo nds lg) (hx : Xs w xa xo xn xs) (hxA : A xa) (hs : Safe nds) (hi : i0 < nds.length) (hlo : lo0 ≤ hi0) (hhi : hi0 < xn) (hxn : xn ≤ 1099511627776) (hf : hi0 - lo0 < f0) (hnn : nds.length + f0 ≤ 1099511627776) (hln : lg.length + 2 * f0 ≤ 1099511627776) :
    Calls Try.prog 51 #[.pointer (some ⟨b, o, none⟩), .int .i64 i0, .int .i64 lo0, .int .i64 hi0, .agg #[.int .i64 a0, .int .i64 b0]] w (VoidEnd A b o c (.slice (some ⟨xa, xo, none⟩) xn xz) undo (ins xs undo f0 nds lg i0 lo0 hi0 a0 b0).1 (ins xs undo f0 nds lg i0 lo0 hi0 a0 b0).2 w) := by
  have hlt := h.lt
  have HX := hid hx
  have HA := hid h.alt
  have H0 : Hid (InsSt A w b o c (.slice (some ⟨xa, xo, none⟩) xn xz) undo w.heap.size nds lg a0 b0 (w.alloc (.cells #[.int .i64 a0, .int .i64 b0] 94))) := by
    have hb : Below w.heap.size w (w.alloc (.cells #[.int .i64 a0, .int .i64 b0] 94)) := (Below.refl _ _).alloc (Nat.le_refl _) _
    obtain ⟨k1, nd1, lg1, k2⟩ := h.end0 hb
    exact ⟨k1, World.alloc_heap_new w _, nd1, lg1, k2⟩
  have HS := hid hs
  clear h hx hs
  go_enter Try.func51, Try.ntmps51
  go_wp2_with fail
  go_loopw [1, 2, 3] (fun node lo hi wr => ∃ (i l h f : Nat) (nds' : List Nd) (lg' : List Chg) (la lb : Int), node = .int .i64 i ∧ lo = .int .i64 l ∧ hi = .int .i64 h ∧ Hid (InsSt A w b o c (.slice (some ⟨xa, xo, none⟩) xn xz) undo w.heap.size nds' lg' la lb wr) ∧ i < nds'.length ∧ l ≤ h ∧ h < xn ∧ h - l < f ∧ nds'.length + f ≤ 1099511627776 ∧ lg'.length + 2 * f ≤ 1099511627776 ∧ Hid (Safe nds') ∧ Hid (ins xs undo f nds' lg' i l h la lb = ins xs undo f0 nds lg i0 lo0 hi0 a0 b0)) (fun _ lo hi _ => (intOf hi).toNat - (intOf lo).toNat)
  case atStart => exact ⟨i0, lo0, hi0, f0, nds, lg, a0, b0, rfl, rfl, rfl, H0.out, hi, hlo, hhi, hf, hnn, hln, HS.out, rfl⟩
  case round =>
    obtain ⟨i, l, h, f, nds', lg', la, lb, rfl, rfl, rfl, HI, hi1, hlh, hhx, hf1, hnn1, hln1, HS1, HEQ⟩ := hrel
    obtain ⟨hk, hbx, nd1, lgv1, henv⟩ := HI.out
    obtain ⟨d, hd⟩ : ∃ d, ndAt nds' i = d := ⟨_, rfl⟩
    obtain ⟨g, zz, rfl, n0, n1, n2, n3, nf⟩ := henv.node hi1
    rw [hd] at n0 n1 n2 n3
    obtain ⟨x0, x1, xf0, xf1, xlt⟩ := hbx.cells
    have e0 := henv.cellX
    have e1 := henv.cellN
    have HENV := hid henv
    have HBX := hid hbx
    have HK := hid hk
    have HD := hid hd
    have HXr : Hid (Xs wr xa xo xn xs) := fun j hj => (hk.cell hxA).trans (HX.out j hj)
    clear hk hbx henv HI hd
    have hmid : ((l : Int) + (h : Int)).tdiv 2 = (((l + h) / 2 : Nat) : Int) := by rw [Int.tdiv_eq_ediv_of_nonneg (by omega)]; omega
    obtain ⟨mid, hm⟩ : ∃ mid, (l + h) / 2 = mid := ⟨_, rfl⟩
    rw [hm] at hmid
    have hm1 : l ≤ mid := by omega
    have hm2 : mid ≤ h := by omega
    have hmx : (mid : Int) < (xn : Int) := by omega
    have hlx : (l : Int) < (xn : Int) := by omega
    have hhx' : (h : Int) < (xn : Int) := by omega
    have hii : (i : Int) < (nds'.length : Int) := by omega
    have hfr : f ≠ 0 := by omega
    obtain ⟨f', rfl⟩ := Nat.exists_eq_succ_of_ne_zero hfr
    have HB1 : Hid (Below wr.heap.size wr (wr.alloc (.cells #[.int .i64 d.a, .int .i64 d.b] 94))) := (Below.refl _ _).alloc (Nat.le_refl _) _
    have HKB1 : Hid (Box94 (wr.alloc (.cells #[.int .i64 d.a, .int .i64 d.b] 94)) wr.heap.size d.a d.b) := World.alloc_heap_new wr _
    go_wp2_with fail
    clear n0 n1 n2 n3 x0 x1 xf0 xf1 e0 e1 nf hmid
    obtain ⟨W1, hW1⟩ : ∃ W1, wr.alloc (.cells #[.int .i64 d.a, .int .i64 d.b] 94) = W1 := ⟨_, rfl⟩
    have hB1 := HB1.out
    have hKB1 := HKB1.out
    rw [hW1] at hB1 hKB1 ⊢
    clear HB1 HKB1 hW1
    obtain ⟨kx, hkx⟩ : ∃ kx, wr.heap.size = kx := ⟨_, rfl⟩
    rw [hkx] at hKB1 ⊢
    have hkxw : w.heap.size ≠ kx := by omega
    have HENV1 := hid (EnvAt.later HENV.out hB1)
    have HBX1 := hid (Box94.later HBX.out hB1)
    have HK1 := hid (Keeps.below HK.out hB1 HA.out)
    have HX1 : Hid (Xs W1 xa xo xn xs) := fun j hj => keepc (HXr.out j hj) hB1
    have HKB := hid hKB1
    clear HENV HBX HK HXr hB1 hKB1 hkx
    obtain ⟨x0, x1, xf0, xf1, xlt⟩ := HBX1.out.cells
    obtain ⟨y0, y1, yf0, yf1, ylt⟩ := HKB.out.cells
    have e0 := HENV1.out.cellX
    have hxm1 := HX1.out mid (by omega)
    have HKK3 : Hid (∀ X Y : World, (Below W1.heap.size W1 X ∧ X.cell? ⟨w.heap.size, 0, none⟩ = some (.int .i64 la) ∧ X.cell? ⟨w.heap.size, 1, none⟩ = some (.int .i64 lb) ∧ X.cell? ⟨kx, 0, none⟩ = some (.int .i64 d.a) ∧ X.cell? ⟨kx, 1, none⟩ = some (.int .i64 d.b) ∧ X.cell? ⟨b, o, none⟩ = some (.slice (some ⟨xa, xo, none⟩) xn xz) ∧ X.cell? ⟨xa, xo + mid, none⟩ = some (.int .i64 (xs mid))) → Below X.heap.size X Y → (Below W1.heap.size W1 Y ∧ Y.cell? ⟨w.heap.size, 0, none⟩ = some (.int .i64 la) ∧ Y.cell? ⟨w.heap.size, 1, none⟩ = some (.int .i64 lb) ∧ Y.cell? ⟨kx, 0, none⟩ = some (.int .i64 d.a) ∧ Y.cell? ⟨kx, 1, none⟩ = some (.int .i64 d.b) ∧ Y.cell? ⟨b, o, none⟩ = some (.slice (some ⟨xa, xo, none⟩) xn xz) ∧ Y.cell? ⟨xa, xo + mid, none⟩ = some (.int .i64 (xs mid)))) := by
      rintro X Y ⟨s0, s1, s2, s3, s4, s5, s6⟩ hXY
      exact ⟨s0.trans (hXY.mono s0.size), keepc s1 hXY, keepc s2 hXY, keepc s3 hXY, keepc s4 hXY, keepc s5 hXY, keepc s6 hXY⟩
    have HSS3 : Hid (Below W1.heap.size W1 W1.drew ∧ W1.drew.cell? ⟨w.heap.size, 0, none⟩ = some (.int .i64 la) ∧ W1.drew.cell? ⟨w.heap.size, 1, none⟩ = some (.int .i64 lb) ∧ W1.drew.cell? ⟨kx, 0, none⟩ = some (.int .i64 d.a) ∧ W1.drew.cell? ⟨kx, 1, none⟩ = some (.int .i64 d.b) ∧ W1.drew.cell? ⟨b, o, none⟩ = some (.slice (some ⟨xa, xo, none⟩) xn xz) ∧ W1.drew.cell? ⟨xa, xo + mid, none⟩ = some (.int .i64 (xs mid))) := ⟨(Below.refl _ _).drew, x0, x1, y0, y1, e0, hxm1⟩
    go_region_held3 (fun w' => (Below W1.heap.size W1 w' ∧ w'.cell? ⟨w.heap.size, 0, none⟩ = some (.int .i64 la) ∧ w'.cell? ⟨w.heap.size, 1, none⟩ = some (.int .i64 lb) ∧ w'.cell? ⟨kx, 0, none⟩ = some (.int .i64 d.a) ∧ w'.cell? ⟨kx, 1, none⟩ = some (.int .i64 d.b) ∧ w'.cell? ⟨b, o, none⟩ = some (.slice (some ⟨xa, xo, none⟩) xn xz) ∧ w'.cell? ⟨xa, xo + mid, none⟩ = some (.int .i64 (xs mid))))
      (first | (with_reducible assumption) | (with_reducible exact HSS3.out) | (with_reducible exact HKK3.out _ _ (by with_reducible assumption) (by with_reducible assumption)))
      (first
        | (go_at_call 64; refine Calls.mono (at_any _ _ _ _) ?_; rintro e w3 ⟨rfl, hB3⟩))
    have hS3 := ‹Below W1.heap.size W1 _ ∧ _›
    clear HKK3 HSS3

    clear x0 x1 xf0 xf1 y0 y1 yf0 yf1 e0 hxm1
    have hB3' := hS3.1
    have HENV3 := hid (EnvAt.later HENV1.out hB3')
    have HBX3 := hid (Box94.later HBX1.out hB3')
    have HKB3 := hid (Box94.later HKB.out hB3')
    have HK3 := hid (Keeps.below HK1.out hB3' HA.out)
    have HX3 : Hid (Xs w3 xa xo xn xs) := fun j hj => keepc (HX1.out j hj) hB3'
    clear HENV1 HBX1 HKB HK1 HX1 hS3 hB3'
    obtain ⟨x0, x1, xf0, xf1, xlt3⟩ := HBX3.out.cells
    obtain ⟨y0, y1, yf0, yf1, ylt3⟩ := HKB3.out.cells
    by_cases hsw : evl la lb (xs mid) < evl d.a d.b (xs mid)
    · have hswb : decide (evl la lb (xs mid) < evl d.a d.b (xs mid)) = true := by simpa using hsw
      go_wp2_with fail
      refine (record_any (fun j => (A j ∨ j = w.heap.size) ∨ j = kx) b o _ _ _ _ undo nds' lg' ⟨i, d.a, d.b, false, false⟩ w3 ((HENV3.out.widen HBX3.out (by decide) (by decide) (by decide)).widen HKB3.out (by decide) (by decide) (by decide)) (by omega)).mono ?_
      rintro e w4 ⟨rfl, hk4, lgv4, henv4⟩
      rw [setC_setC] at henv4
      have HENV4 := hid (henv4.narrow (A' := A) (fun k hk => .inl (.inl hk)))
      have HK4 := hid (HK3.out.trans (hk4.narrow (A' := A) (fun k hk => .inl (.inl hk))))
      have HBX4 : Hid (Box94 w4 w.heap.size la lb) := (hk4.block _ (.inl (.inr rfl))).trans HBX3.out
      have HKB4 : Hid (Box94 w4 kx d.a d.b) := (hk4.block _ (.inr rfl)).trans HKB3.out
      have HX4 : Hid (Xs w4 xa xo xn xs) := fun j hj => (hk4.cell (a := ⟨xa, xo + j, none⟩) (.inl (.inl hxA))).trans (HX3.out j hj)
      clear HENV3 HK3 HBX3 HKB3 HX3 hk4 henv4 x0 x1 xf0 xf1 y0 y1 yf0 yf1 xlt3 ylt3
      obtain ⟨x0, x1, xf0, xf1, xlt4⟩ := HBX4.out.cells
      obtain ⟨y0, y1, yf0, yf1, ylt4⟩ := HKB4.out.cells
      obtain ⟨g4, z4, hgz, m0, m1, m2, m3, mf⟩ := HENV4.out.node hi1
      cases hgz
      rw [HD.out] at m0 m1 m2 m3
      have mf0 := mf (i * 4)
      have mf1 := mf (i * 4 + 1)
      have e1 := HENV4.out.cellN
      have hgb : w.heap.size ≠ g := by
        have := ((HENV4.out.widen HBX4.out (by decide) (by decide) (by decide)).av w.heap.size (.inr rfl)).2.2.1
        simpa [Value.ownBlock] using this
      have hgb' : g ≠ w.heap.size := fun e => hgb e.symm
      have hgk : kx ≠ g := by
        have := ((HENV4.out.widen HKB4.out (by decide) (by decide) (by decide)).av kx (.inr rfl)).2.2.1
        simpa [Value.ownBlock] using this
      have hgk' : g ≠ kx := fun e => hgk e.symm
      have hkxw' : kx ≠ w.heap.size := fun e => hkxw e.symm
      clear mf
      obtain ⟨hsA, hsK, hsB⟩ := EnvAt.swapped HENV4.out HBX4.out (fun e => by have := HA.out _ e; omega) hi1 d HD.out
      have HSA := hid hsA
      have HSK := hid hsK
      have HSB := hid hsB
      clear hsA hsK hsB
      go_wp2_with fail
      go_region
      clear x0 x1 xf0 xf1 y0 y1 yf0 yf1 m0 m1 m2 m3 mf0 mf1 e1 hgb hgb' hgk hgk' hkxw'
      obtain ⟨V, hV⟩ : ∃ V, ((((w4.setCell ⟨g, i * 4, none⟩ (.int .i64 la)).setCell ⟨g, i * 4 + 1, none⟩ (.int .i64 lb)).setCell ⟨w.heap.size, 0, none⟩ (.int .i64 d.a)).setCell ⟨w.heap.size, 1, none⟩ (.int .i64 d.b)).drew = V := ⟨_, rfl⟩
      have hsA := HSA.out
      have hsK := HSK.out
      have hsB := HSB.out
      rw [hV] at hsA hsK hsB ⊢
      clear hV HSA HSK HSB
      obtain ⟨nds2, hn2⟩ : ∃ nds2, nds'.set i ⟨la, lb, d.l, d.r⟩ = nds2 := ⟨_, rfl⟩
      obtain ⟨lg2, hl2⟩ : ∃ lg2, (if undo = true then lg' ++ [⟨(i : Int), d.a, d.b, false, false⟩] else lg') = lg2 := ⟨_, rfl⟩
      have heq := HEQ.out
      rw [ins_sw HD.out (by rw [hm]; exact hsw), hn2, hl2] at heq
      have HEQ2 := hid heq
      have hlen2 : nds2.length = nds'.length := by rw [← hn2, List.length_set]
      have hlg2 : lg2.length ≤ lg'.length + 1 := by rw [← hl2]; split <;> simp
      have hi2 : i < nds2.length := by omega
      have HDv : Hid (ndAt nds2 i = ⟨la, lb, d.l, d.r⟩) := by rw [← hn2]; exact ndAt_set _ hi1
      have HS2 : Hid (Safe nds2) := by rw [← hn2]; exact Safe.line HS1.out hi1 HD.out _ _
      rw [hn2, hl2] at hsA
      have HENVV := hid hsA
      have HKV := hid (HK4.out.trans hsK)
      have HBXV := hid hsB
      have HXV : Hid (Xs V xa xo xn xs) := fun j hj => (hsK.cell (a := ⟨xa, xo + j, none⟩) hxA).trans (HX4.out j hj)
      clear hsA hsK hsB heq HEQ HENV4 HK4 HBX4 HKB4 HX4 hn2 hl2 HS1 xlt4 ylt4
      obtain ⟨g5, z5, hgz5, n0, n1, n2, n3, nf⟩ := HENVV.out.node hi2
      have hg5 : g = g5 := by
        have := congrArg Value.ownBlock hgz5
        simpa [Value.ownBlock] using this
      subst hg5
      replace n0 : V.cell? ⟨g, i * 4, none⟩ = some (.int .i64 la) := by rw [HDv.out] at n0; exact n0
      replace n1 : V.cell? ⟨g, i * 4 + 1, none⟩ = some (.int .i64 lb) := by rw [HDv.out] at n1; exact n1
      have e1 := HENVV.out.cellN
      have hii2 : (i : Int) < (nds2.length : Int) := by omega
      clear n2 n3 nf hgz5
      have HB6 : Hid (Below V.heap.size V (V.alloc (.cells #[.int .i64 la, .int .i64 lb] 94))) := (Below.refl _ _).alloc (Nat.le_refl _) _
      have HKB6 : Hid (Box94 (V.alloc (.cells #[.int .i64 la, .int .i64 lb] 94)) V.heap.size la lb) := World.alloc_heap_new V _
      by_cases hleaf : l = h
      · have hlb : ((l : Int) == (h : Int)) = true := by simp [hleaf]
        have HLF := hid hleaf
        clear hleaf
        go_wp2
        go_returns
        refine ⟨rfl, ?_⟩
        rw [← HEQ2.out, insRest, if_pos HLF.out]
        exact ⟨HKV.out.below HB6.out HA.out, _, _, EnvAt.later HENVV.out HB6.out⟩
      · have hlb : ((l : Int) == (h : Int)) = false := by simp; omega
        have HLF := hid hleaf
        go_wp2_with fail
        clear n0 n1 e1 hlb
        obtain ⟨V6, hV6⟩ : ∃ V6, V.alloc (.cells #[.int .i64 la, .int .i64 lb] 94) = V6 := ⟨_, rfl⟩
        have hB6 := HB6.out
        have hKB6 := HKB6.out
        rw [hV6] at hB6 hKB6 ⊢
        clear HB6 HKB6 hV6
        obtain ⟨k6, hk6⟩ : ∃ k6, V.heap.size = k6 := ⟨_, rfl⟩
        rw [hk6] at hKB6 ⊢
        have HENVV6 := hid (EnvAt.later HENVV.out hB6)
        have HBXV6 := hid (Box94.later HBXV.out hB6)
        have HKV6 := hid (Keeps.below HKV.out hB6 HA.out)
        have HXV6 : Hid (Xs V6 xa xo xn xs) := fun j hj => keepc (HXV.out j hj) hB6
        have HKBV6 := hid hKB6
        clear HENVV HBXV HKV HXV hKB6 hk6 hB6
        obtain ⟨x0, x1, xf0, xf1, xlt6⟩ := HBXV6.out.cells
        obtain ⟨y0, y1, yf0, yf1, ylt6⟩ := HKBV6.out.cells
        have e0 := HENVV6.out.cellX
        have hxl := HXV6.out l (by omega)
        have HKK7 : Hid (∀ X Y : World, (Below V6.heap.size V6 X ∧ X.cell? ⟨w.heap.size, 0, none⟩ = some (.int .i64 d.a) ∧ X.cell? ⟨w.heap.size, 1, none⟩ = some (.int .i64 d.b) ∧ X.cell? ⟨k6, 0, none⟩ = some (.int .i64 la) ∧ X.cell? ⟨k6, 1, none⟩ = some (.int .i64 lb) ∧ X.cell? ⟨b, o, none⟩ = some (.slice (some ⟨xa, xo, none⟩) xn xz) ∧ X.cell? ⟨xa, xo + l, none⟩ = some (.int .i64 (xs l))) → Below X.heap.size X Y → (Below V6.heap.size V6 Y ∧ Y.cell? ⟨w.heap.size, 0, none⟩ = some (.int .i64 d.a) ∧ Y.cell? ⟨w.heap.size, 1, none⟩ = some (.int .i64 d.b) ∧ Y.cell? ⟨k6, 0, none⟩ = some (.int .i64 la) ∧ Y.cell? ⟨k6, 1, none⟩ = some (.int .i64 lb) ∧ Y.cell? ⟨b, o, none⟩ = some (.slice (some ⟨xa, xo, none⟩) xn xz) ∧ Y.cell? ⟨xa, xo + l, none⟩ = some (.int .i64 (xs l)))) := by
          rintro X Y ⟨s0, s1, s2, s3, s4, s5, s6⟩ hXY
          exact ⟨s0.trans (hXY.mono s0.size), keepc s1 hXY, keepc s2 hXY, keepc s3 hXY, keepc s4 hXY, keepc s5 hXY, keepc s6 hXY⟩
        have HSS7 : Hid (Below V6.heap.size V6 V6.drew ∧ V6.drew.cell? ⟨w.heap.size, 0, none⟩ = some (.int .i64 d.a) ∧ V6.drew.cell? ⟨w.heap.size, 1, none⟩ = some (.int .i64 d.b) ∧ V6.drew.cell? ⟨k6, 0, none⟩ = some (.int .i64 la) ∧ V6.drew.cell? ⟨k6, 1, none⟩ = some (.int .i64 lb) ∧ V6.drew.cell? ⟨b, o, none⟩ = some (.slice (some ⟨xa, xo, none⟩) xn xz) ∧ V6.drew.cell? ⟨xa, xo + l, none⟩ = some (.int .i64 (xs l))) := ⟨(Below.refl _ _).drew, x0, x1, y0, y1, e0, hxl⟩
        go_region_held3 (fun w' => (Below V6.heap.size V6 w' ∧ w'.cell? ⟨w.heap.size, 0, none⟩ = some (.int .i64 d.a) ∧ w'.cell? ⟨w.heap.size, 1, none⟩ = some (.int .i64 d.b) ∧ w'.cell? ⟨k6, 0, none⟩ = some (.int .i64 la) ∧ w'.cell? ⟨k6, 1, none⟩ = some (.int .i64 lb) ∧ w'.cell? ⟨b, o, none⟩ = some (.slice (some ⟨xa, xo, none⟩) xn xz) ∧ w'.cell? ⟨xa, xo + l, none⟩ = some (.int .i64 (xs l))))
          (first | (with_reducible assumption) | (with_reducible exact HSS7.out) | (with_reducible exact HKK7.out _ _ (by with_reducible assumption) (by with_reducible assumption)))
          (first
            | (go_at_call 64; refine Calls.mono (at_any _ _ _ _) ?_; rintro e w7 ⟨rfl, hB7⟩))
        have hS7 := ‹Below V6.heap.size V6 _ ∧ _›
        clear HKK7 HSS7

        clear x0 x1 xf0 xf1 y0 y1 yf0 yf1 e0 hxl
        have hB7' := hS7.1
        have HENVw7 := hid (EnvAt.later HENVV6.out hB7')
        have HBXw7 := hid (Box94.later HBXV6.out hB7')
        have HKw7 := hid (Keeps.below HKV6.out hB7' HA.out)
        have HXw7 : Hid (Xs w7 xa xo xn xs) := fun j hj => keepc (HXV6.out j hj) hB7'
        have HKBw7 := hid (Box94.later HKBV6.out hB7')
        clear HENVV6 HBXV6 HKV6 HXV6 HKBV6 hS7 hB7'
        by_cases hL : evl d.a d.b (xs l) < evl la lb (xs l)
        · have hLb : decide (evl d.a d.b (xs l) < evl la lb (xs l)) = true := by simpa using hL
          have HL := hid hL
          obtain ⟨g9, z9, hgz9, p0, p1, p2, p3, pf⟩ := HENVw7.out.node hi2
          have hg9 : g = g9 := by
            have := congrArg Value.ownBlock hgz9
            simpa [Value.ownBlock] using this
          subst hg9
          replace p2 : w7.cell? ⟨g, i * 4 + 2, none⟩ = some (.int .i64 d.l) := by rw [HDv.out] at p2; exact p2
          replace p3 : w7.cell? ⟨g, i * 4 + 3, none⟩ = some (.int .i64 d.r) := by rw [HDv.out] at p3; exact p3
          have pfj := pf (i * 4 + 2)
          have e1 := HENVw7.out.cellN
          clear p0 p1 hgz9 pf
          by_cases hc : d.l = -1
          · have hcb : (d.l != -1) = false := by simp [hc]
            have hcb' : (d.l == -1) = true := by simp [hc]
            go_wp2_with fail
            refine (record_any (fun j => A j ∨ j = w.heap.size) b o _ _ _ _ undo nds2 lg2 ⟨i, 0, 0, true, true⟩ w7 (HENVw7.out.widen HBXw7.out (by decide) (by decide) (by decide)) (by omega)).mono ?_
            rintro e wr5 ⟨rfl, hk5, lgv5, henv5⟩
            rw [setC_setC] at henv5
            have HENV5 := hid (henv5.narrow (A' := A) (fun k hk => .inl hk))
            have HK5 := hid (HKw7.out.trans (hk5.narrow (A' := A) (fun k hk => .inl hk)))
            have HBX5 : Hid (Box94 wr5 w.heap.size d.a d.b) := (hk5.block _ (.inr rfl)).trans HBXw7.out
            clear hk5 henv5 p2 p3 pfj e1
            obtain ⟨g9, z9, hgz9, p0, p1, p2, p3, pf⟩ := HENV5.out.node hi2
            have hg9 : g = g9 := by
              have := congrArg Value.ownBlock hgz9
              simpa [Value.ownBlock] using this
            subst hg9
            have pfj := pf (i * 4 + 2)
            have e1 := HENV5.out.cellN
            obtain ⟨x0, x1, xf0, xf1, xlt5⟩ := HBX5.out.cells
            have hgb : w.heap.size ≠ g := by
              have := ((HENV5.out.widen HBX5.out (by decide) (by decide) (by decide)).av w.heap.size (.inr rfl)).2.2.1
              simpa [Value.ownBlock] using this
            have hgb' : g ≠ w.heap.size := fun e => hgb e.symm
            obtain ⟨hs6, hks6⟩ := EnvAt.setNode HENV5.out i 2 ⟨la, lb, (nds'.length : Int), d.r⟩ (.int .i64 (nds'.length : Int)) hi2 (by omega) (by rw [HDv.out]; rfl)
            have HS6 := hid hs6
            have HKS6 := hid hks6
            clear pf p0 p1 hs6 hks6
            go_wp2_with fail
            refine (tree_any A b o _ _ _ _ undo _ _ _ _ _ HS6.out (by rw [List.length_set]; omega)).mono ?_
            rintro e wr7 ⟨rfl, hk7, nd7, lgv7, henv7⟩
            rw [setC_setC] at henv7
            have HE7 := hid henv7
            clear henv7
            go_wp2
            go_returns
            refine ⟨rfl, ?_⟩
            skip
            rw [← HEQ2.out, insRest, if_neg HLF.out, if_pos HL.out, if_pos hc]
            try rw [hlen2]
            exact ⟨(HK5.out.trans HKS6.out).trans hk7, nd7, lgv7, HE7.out⟩
          · have hcb : (d.l != -1) = true := by simp [hc]
            have hcb' : (d.l == -1) = false := by simp [hc]
            have hch := (HS2.out i hi2).1
            rw [HDv.out] at hch
            replace hch : d.l = -1 ∨ (0 ≤ d.l ∧ d.l < nds2.length) := hch
            have hc0 : 0 ≤ d.l := by omega
            have hc1 : d.l < nds2.length := by omega
            obtain ⟨ci, hci⟩ : ∃ ci : Nat, d.l = ci := ⟨d.l.toNat, by omega⟩
            have HCI := hid hci
            skip
            have heq := HEQ2.out
            rw [insRest, if_neg HLF.out, if_pos HL.out, if_neg hc, hci, hm] at heq
            have HEQ3 := hid heq
            rw [hci] at p2 hcb hcb'
            clear heq hci
            go_wp2_with fail
            go_roundw
            case rel =>
              have hcii := HCI.out
              exact ⟨ci, l, mid, f', nds2, lg2, d.a, d.b, rfl, by first | rfl | go_num, rfl, ⟨HKw7.out, HBXw7.out, _, _, HENVw7.out⟩, by omega, by omega, by omega, by omega, by omega, by omega, HS2.out, HEQ3.out⟩
            case measure => simp [intOf]; omega
        · have hLb : decide (evl d.a d.b (xs l) < evl la lb (xs l)) = false := by simpa using hL
          have HL := hid hL
          obtain ⟨x0, x1, xf0, xf1, xlt8⟩ := HBXw7.out.cells
          obtain ⟨y0, y1, yf0, yf1, ylt8⟩ := HKBw7.out.cells
          have e0 := HENVw7.out.cellX
          have hxh := HXw7.out h (by omega)
          go_wp2_with fail
          have HKK8 : Hid (∀ X Y : World, (Below w7.heap.size w7 X ∧ X.cell? ⟨w.heap.size, 0, none⟩ = some (.int .i64 d.a) ∧ X.cell? ⟨w.heap.size, 1, none⟩ = some (.int .i64 d.b) ∧ X.cell? ⟨k6, 0, none⟩ = some (.int .i64 la) ∧ X.cell? ⟨k6, 1, none⟩ = some (.int .i64 lb) ∧ X.cell? ⟨b, o, none⟩ = some (.slice (some ⟨xa, xo, none⟩) xn xz) ∧ X.cell? ⟨xa, xo + h, none⟩ = some (.int .i64 (xs h))) → Below X.heap.size X Y → (Below w7.heap.size w7 Y ∧ Y.cell? ⟨w.heap.size, 0, none⟩ = some (.int .i64 d.a) ∧ Y.cell? ⟨w.heap.size, 1, none⟩ = some (.int .i64 d.b) ∧ Y.cell? ⟨k6, 0, none⟩ = some (.int .i64 la) ∧ Y.cell? ⟨k6, 1, none⟩ = some (.int .i64 lb) ∧ Y.cell? ⟨b, o, none⟩ = some (.slice (some ⟨xa, xo, none⟩) xn xz) ∧ Y.cell? ⟨xa, xo + h, none⟩ = some (.int .i64 (xs h)))) := by
            rintro X Y ⟨s0, s1, s2, s3, s4, s5, s6⟩ hXY
            exact ⟨s0.trans (hXY.mono s0.size), keepc s1 hXY, keepc s2 hXY, keepc s3 hXY, keepc s4 hXY, keepc s5 hXY, keepc s6 hXY⟩
          have HSS8 : Hid (Below w7.heap.size w7 w7.drew ∧ w7.drew.cell? ⟨w.heap.size, 0, none⟩ = some (.int .i64 d.a) ∧ w7.drew.cell? ⟨w.heap.size, 1, none⟩ = some (.int .i64 d.b) ∧ w7.drew.cell? ⟨k6, 0, none⟩ = some (.int .i64 la) ∧ w7.drew.cell? ⟨k6, 1, none⟩ = some (.int .i64 lb) ∧ w7.drew.cell? ⟨b, o, none⟩ = some (.slice (some ⟨xa, xo, none⟩) xn xz) ∧ w7.drew.cell? ⟨xa, xo + h, none⟩ = some (.int .i64 (xs h))) := ⟨(Below.refl _ _).drew, x0, x1, y0, y1, e0, hxh⟩
          go_region_held3 (fun w' => (Below w7.heap.size w7 w' ∧ w'.cell? ⟨w.heap.size, 0, none⟩ = some (.int .i64 d.a) ∧ w'.cell? ⟨w.heap.size, 1, none⟩ = some (.int .i64 d.b) ∧ w'.cell? ⟨k6, 0, none⟩ = some (.int .i64 la) ∧ w'.cell? ⟨k6, 1, none⟩ = some (.int .i64 lb) ∧ w'.cell? ⟨b, o, none⟩ = some (.slice (some ⟨xa, xo, none⟩) xn xz) ∧ w'.cell? ⟨xa, xo + h, none⟩ = some (.int .i64 (xs h))))
            (first | (with_reducible assumption) | (with_reducible exact HSS8.out) | (with_reducible exact HKK8.out _ _ (by with_reducible assumption) (by with_reducible assumption)))
            (first
              | (go_at_call 64; refine Calls.mono (at_any _ _ _ _) ?_; rintro e w8 ⟨rfl, hB8⟩))
          have hS8 := ‹Below w7.heap.size w7 _ ∧ _›
          clear HKK8 HSS8

          clear x0 x1 xf0 xf1 y0 y1 yf0 yf1 e0 hxh
          have hB8' := hS8.1
          have HENVw8 := hid (EnvAt.later HENVw7.out hB8')
          have HBXw8 := hid (Box94.later HBXw7.out hB8')
          have HKw8 := hid (Keeps.below HKw7.out hB8' HA.out)
          have HXw8 : Hid (Xs w8 xa xo xn xs) := fun j hj => keepc (HXw7.out j hj) hB8'
          clear HENVw7 HBXw7 HKw7 HXw7 HKBw7 hS8 hB8'
          by_cases hR : evl d.a d.b (xs h) < evl la lb (xs h)
          · have hRb : decide (evl d.a d.b (xs h) < evl la lb (xs h)) = true := by simpa using hR
            have HR := hid hR
            obtain ⟨g9, z9, hgz9, p0, p1, p2, p3, pf⟩ := HENVw8.out.node hi2
            have hg9 : g = g9 := by
              have := congrArg Value.ownBlock hgz9
              simpa [Value.ownBlock] using this
            subst hg9
            replace p2 : w8.cell? ⟨g, i * 4 + 2, none⟩ = some (.int .i64 d.l) := by rw [HDv.out] at p2; exact p2
            replace p3 : w8.cell? ⟨g, i * 4 + 3, none⟩ = some (.int .i64 d.r) := by rw [HDv.out] at p3; exact p3
            have pfj := pf (i * 4 + 3)
            have e1 := HENVw8.out.cellN
            clear p0 p1 hgz9 pf
            by_cases hc : d.r = -1
            · have hcb : (d.r != -1) = false := by simp [hc]
              have hcb' : (d.r == -1) = true := by simp [hc]
              go_wp2_with fail
              refine (record_any (fun j => A j ∨ j = w.heap.size) b o _ _ _ _ undo nds2 lg2 ⟨i, 0, 0, true, false⟩ w8 (HENVw8.out.widen HBXw8.out (by decide) (by decide) (by decide)) (by omega)).mono ?_
              rintro e wr5 ⟨rfl, hk5, lgv5, henv5⟩
              rw [setC_setC] at henv5
              have HENV5 := hid (henv5.narrow (A' := A) (fun k hk => .inl hk))
              have HK5 := hid (HKw8.out.trans (hk5.narrow (A' := A) (fun k hk => .inl hk)))
              have HBX5 : Hid (Box94 wr5 w.heap.size d.a d.b) := (hk5.block _ (.inr rfl)).trans HBXw8.out
              clear hk5 henv5 p2 p3 pfj e1
              obtain ⟨g9, z9, hgz9, p0, p1, p2, p3, pf⟩ := HENV5.out.node hi2
              have hg9 : g = g9 := by
                have := congrArg Value.ownBlock hgz9
                simpa [Value.ownBlock] using this
              subst hg9
              have pfj := pf (i * 4 + 3)
              have e1 := HENV5.out.cellN
              obtain ⟨x0, x1, xf0, xf1, xlt5⟩ := HBX5.out.cells
              have hgb : w.heap.size ≠ g := by
                have := ((HENV5.out.widen HBX5.out (by decide) (by decide) (by decide)).av w.heap.size (.inr rfl)).2.2.1
                simpa [Value.ownBlock] using this
              have hgb' : g ≠ w.heap.size := fun e => hgb e.symm
              obtain ⟨hs6, hks6⟩ := EnvAt.setNode HENV5.out i 3 ⟨la, lb, d.l, (nds'.length : Int)⟩ (.int .i64 (nds'.length : Int)) hi2 (by omega) (by rw [HDv.out]; rfl)
              have HS6 := hid hs6
              have HKS6 := hid hks6
              clear pf p0 p1 hs6 hks6
              go_wp2_with fail
              refine (tree_any A b o _ _ _ _ undo _ _ _ _ _ HS6.out (by rw [List.length_set]; omega)).mono ?_
              rintro e wr7 ⟨rfl, hk7, nd7, lgv7, henv7⟩
              rw [setC_setC] at henv7
              have HE7 := hid henv7
              clear henv7
              go_wp2
              go_returns
              refine ⟨rfl, ?_⟩
              have hLn : ¬ (evl d.a d.b (xs l) < evl la lb (xs l)) := by have := HL.out; omega
              rw [← HEQ2.out, insRest, if_neg HLF.out, if_neg hLn, if_pos HR.out, if_pos hc]
              try rw [hlen2]
              exact ⟨(HK5.out.trans HKS6.out).trans hk7, nd7, lgv7, HE7.out⟩
            · have hcb : (d.r != -1) = true := by simp [hc]
              have hcb' : (d.r == -1) = false := by simp [hc]
              have hch := (HS2.out i hi2).2
              rw [HDv.out] at hch
              replace hch : d.r = -1 ∨ (0 ≤ d.r ∧ d.r < nds2.length) := hch
              have hc0 : 0 ≤ d.r := by omega
              have hc1 : d.r < nds2.length := by omega
              obtain ⟨ci, hci⟩ : ∃ ci : Nat, d.r = ci := ⟨d.r.toNat, by omega⟩
              have HCI := hid hci
              have hLn : ¬ (evl d.a d.b (xs l) < evl la lb (xs l)) := by have := HL.out; omega
              have heq := HEQ2.out
              rw [insRest, if_neg HLF.out, if_neg hLn, if_pos HR.out, if_neg hc, hci, hm] at heq
              have HEQ3 := hid heq
              rw [hci] at p3 hcb hcb'
              clear heq hci
              go_wp2_with fail
              go_roundw
              case rel =>
                have hcii := HCI.out
                exact ⟨ci, (mid + 1), h, f', nds2, lg2, d.a, d.b, rfl, by first | rfl | go_num, rfl, ⟨HKw8.out, HBXw8.out, _, _, HENVw8.out⟩, by omega, by omega, by omega, by omega, by omega, by omega, HS2.out, HEQ3.out⟩
              case measure => simp [intOf]; omega
          · have hRb : decide (evl d.a d.b (xs h) < evl la lb (xs h)) = false := by simpa using hR
            have HR := hid hR
            go_wp2
            go_returns
            refine ⟨rfl, ?_⟩
            have hLn : ¬ (evl d.a d.b (xs l) < evl la lb (xs l)) := by have := HL.out; omega
            have hRn : ¬ (evl d.a d.b (xs h) < evl la lb (xs h)) := by have := HR.out; omega
            rw [← HEQ2.out, insRest, if_neg HLF.out, if_neg hLn, if_neg hRn]
            exact ⟨HKw8.out, _, _, HENVw8.out⟩

    · have hswb : decide (evl la lb (xs mid) < evl d.a d.b (xs mid)) = false := by simpa using hsw
      have heq := HEQ.out
      rw [ins_nsw HD.out (by rw [hm]; exact hsw)] at heq
      have HEQ2 := hid heq
      obtain ⟨nds2, hn2⟩ : ∃ nds2, nds' = nds2 := ⟨_, rfl⟩
      obtain ⟨lg2, hl2⟩ : ∃ lg2, lg' = lg2 := ⟨_, rfl⟩
      obtain ⟨V, hV⟩ : ∃ V, w3 = V := ⟨_, rfl⟩
      subst hn2 hl2 hV
      have hlen2 : nds'.length = nds'.length := rfl
      have hlg2 : lg'.length ≤ lg'.length + 1 := by omega
      have hi2 : i < nds'.length := hi1
      have HDv : Hid (ndAt nds' i = ⟨d.a, d.b, d.l, d.r⟩) := HD.out
      have HS2 := hid HS1.out
      have HENVV := HENV3
      have HKV := HK3
      have HBXV := HBX3
      have HXV := HX3
      clear heq HEQ HENV3 HK3 HBX3 HKB3 HX3 HS1 x0 x1 xf0 xf1 y0 y1 yf0 yf1 xlt3 ylt3
      obtain ⟨g5, z5, hgz5, n0, n1, n2, n3, nf⟩ := HENVV.out.node hi2
      have hg5 : g = g5 := by
        have := congrArg Value.ownBlock hgz5
        simpa [Value.ownBlock] using this
      subst hg5
      replace n0 : w3.cell? ⟨g, i * 4, none⟩ = some (.int .i64 d.a) := by rw [HDv.out] at n0; exact n0
      replace n1 : w3.cell? ⟨g, i * 4 + 1, none⟩ = some (.int .i64 d.b) := by rw [HDv.out] at n1; exact n1
      have e1 := HENVV.out.cellN
      have hii2 : (i : Int) < (nds'.length : Int) := by omega
      clear n2 n3 nf hgz5
      have HB6 : Hid (Below w3.heap.size w3 (w3.alloc (.cells #[.int .i64 d.a, .int .i64 d.b] 94))) := (Below.refl _ _).alloc (Nat.le_refl _) _
      have HKB6 : Hid (Box94 (w3.alloc (.cells #[.int .i64 d.a, .int .i64 d.b] 94)) w3.heap.size d.a d.b) := World.alloc_heap_new w3 _
      by_cases hleaf : l = h
      · have hlb : ((l : Int) == (h : Int)) = true := by simp [hleaf]
        have HLF := hid hleaf
        clear hleaf
        go_wp2
        go_returns
        refine ⟨rfl, ?_⟩
        rw [← HEQ2.out, insRest, if_pos HLF.out]
        exact ⟨HKV.out.below HB6.out HA.out, _, _, EnvAt.later HENVV.out HB6.out⟩
      · have hlb : ((l : Int) == (h : Int)) = false := by simp; omega
        have HLF := hid hleaf
        go_wp2_with fail
        clear n0 n1 e1 hlb
        obtain ⟨V6, hV6⟩ : ∃ V6, w3.alloc (.cells #[.int .i64 d.a, .int .i64 d.b] 94) = V6 := ⟨_, rfl⟩
        have hB6 := HB6.out
        have hKB6 := HKB6.out
        rw [hV6] at hB6 hKB6 ⊢
        clear HB6 HKB6 hV6
        obtain ⟨k6, hk6⟩ : ∃ k6, w3.heap.size = k6 := ⟨_, rfl⟩
        rw [hk6] at hKB6 ⊢
        have HENVV6 := hid (EnvAt.later HENVV.out hB6)
        have HBXV6 := hid (Box94.later HBXV.out hB6)
        have HKV6 := hid (Keeps.below HKV.out hB6 HA.out)
        have HXV6 : Hid (Xs V6 xa xo xn xs) := fun j hj => keepc (HXV.out j hj) hB6
        have HKBV6 := hid hKB6
        clear HENVV HBXV HKV HXV hKB6 hk6 hB6
        obtain ⟨x0, x1, xf0, xf1, xlt6⟩ := HBXV6.out.cells
        obtain ⟨y0, y1, yf0, yf1, ylt6⟩ := HKBV6.out.cells
        have e0 := HENVV6.out.cellX
        have hxl := HXV6.out l (by omega)
        have HKK7 : Hid (∀ X Y : World, (Below V6.heap.size V6 X ∧ X.cell? ⟨w.heap.size, 0, none⟩ = some (.int .i64 la) ∧ X.cell? ⟨w.heap.size, 1, none⟩ = some (.int .i64 lb) ∧ X.cell? ⟨k6, 0, none⟩ = some (.int .i64 d.a) ∧ X.cell? ⟨k6, 1, none⟩ = some (.int .i64 d.b) ∧ X.cell? ⟨b, o, none⟩ = some (.slice (some ⟨xa, xo, none⟩) xn xz) ∧ X.cell? ⟨xa, xo + l, none⟩ = some (.int .i64 (xs l))) → Below X.heap.size X Y → (Below V6.heap.size V6 Y ∧ Y.cell? ⟨w.heap.size, 0, none⟩ = some (.int .i64 la) ∧ Y.cell? ⟨w.heap.size, 1, none⟩ = some (.int .i64 lb) ∧ Y.cell? ⟨k6, 0, none⟩ = some (.int .i64 d.a) ∧ Y.cell? ⟨k6, 1, none⟩ = some (.int .i64 d.b) ∧ Y.cell? ⟨b, o, none⟩ = some (.slice (some ⟨xa, xo, none⟩) xn xz) ∧ Y.cell? ⟨xa, xo + l, none⟩ = some (.int .i64 (xs l)))) := by
          rintro X Y ⟨s0, s1, s2, s3, s4, s5, s6⟩ hXY
          exact ⟨s0.trans (hXY.mono s0.size), keepc s1 hXY, keepc s2 hXY, keepc s3 hXY, keepc s4 hXY, keepc s5 hXY, keepc s6 hXY⟩
        have HSS7 : Hid (Below V6.heap.size V6 V6.drew ∧ V6.drew.cell? ⟨w.heap.size, 0, none⟩ = some (.int .i64 la) ∧ V6.drew.cell? ⟨w.heap.size, 1, none⟩ = some (.int .i64 lb) ∧ V6.drew.cell? ⟨k6, 0, none⟩ = some (.int .i64 d.a) ∧ V6.drew.cell? ⟨k6, 1, none⟩ = some (.int .i64 d.b) ∧ V6.drew.cell? ⟨b, o, none⟩ = some (.slice (some ⟨xa, xo, none⟩) xn xz) ∧ V6.drew.cell? ⟨xa, xo + l, none⟩ = some (.int .i64 (xs l))) := ⟨(Below.refl _ _).drew, x0, x1, y0, y1, e0, hxl⟩
        go_region_held3 (fun w' => (Below V6.heap.size V6 w' ∧ w'.cell? ⟨w.heap.size, 0, none⟩ = some (.int .i64 la) ∧ w'.cell? ⟨w.heap.size, 1, none⟩ = some (.int .i64 lb) ∧ w'.cell? ⟨k6, 0, none⟩ = some (.int .i64 d.a) ∧ w'.cell? ⟨k6, 1, none⟩ = some (.int .i64 d.b) ∧ w'.cell? ⟨b, o, none⟩ = some (.slice (some ⟨xa, xo, none⟩) xn xz) ∧ w'.cell? ⟨xa, xo + l, none⟩ = some (.int .i64 (xs l))))
          (first | (with_reducible assumption) | (with_reducible exact HSS7.out) | (with_reducible exact HKK7.out _ _ (by with_reducible assumption) (by with_reducible assumption)))
          (first
            | (go_at_call 64; refine Calls.mono (at_any _ _ _ _) ?_; rintro e w7 ⟨rfl, hB7⟩))
        have hS7 := ‹Below V6.heap.size V6 _ ∧ _›
        clear HKK7 HSS7

        clear x0 x1 xf0 xf1 y0 y1 yf0 yf1 e0 hxl
        have hB7' := hS7.1
        have HENVw7 := hid (EnvAt.later HENVV6.out hB7')
        have HBXw7 := hid (Box94.later HBXV6.out hB7')
        have HKw7 := hid (Keeps.below HKV6.out hB7' HA.out)
        have HXw7 : Hid (Xs w7 xa xo xn xs) := fun j hj => keepc (HXV6.out j hj) hB7'
        have HKBw7 := hid (Box94.later HKBV6.out hB7')
        clear HENVV6 HBXV6 HKV6 HXV6 HKBV6 hS7 hB7'
        by_cases hL : evl la lb (xs l) < evl d.a d.b (xs l)
        · have hLb : decide (evl la lb (xs l) < evl d.a d.b (xs l)) = true := by simpa using hL
          have HL := hid hL
          obtain ⟨g9, z9, hgz9, p0, p1, p2, p3, pf⟩ := HENVw7.out.node hi2
          have hg9 : g = g9 := by
            have := congrArg Value.ownBlock hgz9
            simpa [Value.ownBlock] using this
          subst hg9
          replace p2 : w7.cell? ⟨g, i * 4 + 2, none⟩ = some (.int .i64 d.l) := by rw [HDv.out] at p2; exact p2
          replace p3 : w7.cell? ⟨g, i * 4 + 3, none⟩ = some (.int .i64 d.r) := by rw [HDv.out] at p3; exact p3
          have pfj := pf (i * 4 + 2)
          have e1 := HENVw7.out.cellN
          clear p0 p1 hgz9 pf
          by_cases hc : d.l = -1
          · have hcb : (d.l != -1) = false := by simp [hc]
            have hcb' : (d.l == -1) = true := by simp [hc]
            go_wp2_with fail
            refine (record_any (fun j => A j ∨ j = w.heap.size) b o _ _ _ _ undo nds' lg' ⟨i, 0, 0, true, true⟩ w7 (HENVw7.out.widen HBXw7.out (by decide) (by decide) (by decide)) (by omega)).mono ?_
            rintro e wr5 ⟨rfl, hk5, lgv5, henv5⟩
            rw [setC_setC] at henv5
            have HENV5 := hid (henv5.narrow (A' := A) (fun k hk => .inl hk))
            have HK5 := hid (HKw7.out.trans (hk5.narrow (A' := A) (fun k hk => .inl hk)))
            have HBX5 : Hid (Box94 wr5 w.heap.size la lb) := (hk5.block _ (.inr rfl)).trans HBXw7.out
            clear hk5 henv5 p2 p3 pfj e1
            obtain ⟨g9, z9, hgz9, p0, p1, p2, p3, pf⟩ := HENV5.out.node hi2
            have hg9 : g = g9 := by
              have := congrArg Value.ownBlock hgz9
              simpa [Value.ownBlock] using this
            subst hg9
            have pfj := pf (i * 4 + 2)
            have e1 := HENV5.out.cellN
            obtain ⟨x0, x1, xf0, xf1, xlt5⟩ := HBX5.out.cells
            have hgb : w.heap.size ≠ g := by
              have := ((HENV5.out.widen HBX5.out (by decide) (by decide) (by decide)).av w.heap.size (.inr rfl)).2.2.1
              simpa [Value.ownBlock] using this
            have hgb' : g ≠ w.heap.size := fun e => hgb e.symm
            obtain ⟨hs6, hks6⟩ := EnvAt.setNode HENV5.out i 2 ⟨d.a, d.b, (nds'.length : Int), d.r⟩ (.int .i64 (nds'.length : Int)) hi2 (by omega) (by rw [HDv.out]; rfl)
            have HS6 := hid hs6
            have HKS6 := hid hks6
            clear pf p0 p1 hs6 hks6
            go_wp2_with fail
            refine (tree_any A b o _ _ _ _ undo _ _ _ _ _ HS6.out (by rw [List.length_set]; omega)).mono ?_
            rintro e wr7 ⟨rfl, hk7, nd7, lgv7, henv7⟩
            rw [setC_setC] at henv7
            have HE7 := hid henv7
            clear henv7
            go_wp2
            go_returns
            refine ⟨rfl, ?_⟩
            skip
            rw [← HEQ2.out, insRest, if_neg HLF.out, if_pos HL.out, if_pos hc]
            try rw [hlen2]
            exact ⟨(HK5.out.trans HKS6.out).trans hk7, nd7, lgv7, HE7.out⟩
          · have hcb : (d.l != -1) = true := by simp [hc]
            have hcb' : (d.l == -1) = false := by simp [hc]
            have hch := (HS2.out i hi2).1
            rw [HDv.out] at hch
            replace hch : d.l = -1 ∨ (0 ≤ d.l ∧ d.l < nds'.length) := hch
            have hc0 : 0 ≤ d.l := by omega
            have hc1 : d.l < nds'.length := by omega
            obtain ⟨ci, hci⟩ : ∃ ci : Nat, d.l = ci := ⟨d.l.toNat, by omega⟩
            have HCI := hid hci
            skip
            have heq := HEQ2.out
            rw [insRest, if_neg HLF.out, if_pos HL.out, if_neg hc, hci, hm] at heq
            have HEQ3 := hid heq
            rw [hci] at p2 hcb hcb'
            clear heq hci
            go_wp2_with fail
            go_roundw
            case rel =>
              have hcii := HCI.out
              exact ⟨ci, l, mid, f', nds', lg', la, lb, rfl, by first | rfl | go_num, rfl, ⟨HKw7.out, HBXw7.out, _, _, HENVw7.out⟩, by omega, by omega, by omega, by omega, by omega, by omega, HS2.out, HEQ3.out⟩
            case measure => simp [intOf]; omega
        · have hLb : decide (evl la lb (xs l) < evl d.a d.b (xs l)) = false := by simpa using hL
          have HL := hid hL
          obtain ⟨x0, x1, xf0, xf1, xlt8⟩ := HBXw7.out.cells
          obtain ⟨y0, y1, yf0, yf1, ylt8⟩ := HKBw7.out.cells
          have e0 := HENVw7.out.cellX
          have hxh := HXw7.out h (by omega)
          go_wp2_with fail
          have HKK8 : Hid (∀ X Y : World, (Below w7.heap.size w7 X ∧ X.cell? ⟨w.heap.size, 0, none⟩ = some (.int .i64 la) ∧ X.cell? ⟨w.heap.size, 1, none⟩ = some (.int .i64 lb) ∧ X.cell? ⟨k6, 0, none⟩ = some (.int .i64 d.a) ∧ X.cell? ⟨k6, 1, none⟩ = some (.int .i64 d.b) ∧ X.cell? ⟨b, o, none⟩ = some (.slice (some ⟨xa, xo, none⟩) xn xz) ∧ X.cell? ⟨xa, xo + h, none⟩ = some (.int .i64 (xs h))) → Below X.heap.size X Y → (Below w7.heap.size w7 Y ∧ Y.cell? ⟨w.heap.size, 0, none⟩ = some (.int .i64 la) ∧ Y.cell? ⟨w.heap.size, 1, none⟩ = some (.int .i64 lb) ∧ Y.cell? ⟨k6, 0, none⟩ = some (.int .i64 d.a) ∧ Y.cell? ⟨k6, 1, none⟩ = some (.int .i64 d.b) ∧ Y.cell? ⟨b, o, none⟩ = some (.slice (some ⟨xa, xo, none⟩) xn xz) ∧ Y.cell? ⟨xa, xo + h, none⟩ = some (.int .i64 (xs h)))) := by
            rintro X Y ⟨s0, s1, s2, s3, s4, s5, s6⟩ hXY
            exact ⟨s0.trans (hXY.mono s0.size), keepc s1 hXY, keepc s2 hXY, keepc s3 hXY, keepc s4 hXY, keepc s5 hXY, keepc s6 hXY⟩
          have HSS8 : Hid (Below w7.heap.size w7 w7.drew ∧ w7.drew.cell? ⟨w.heap.size, 0, none⟩ = some (.int .i64 la) ∧ w7.drew.cell? ⟨w.heap.size, 1, none⟩ = some (.int .i64 lb) ∧ w7.drew.cell? ⟨k6, 0, none⟩ = some (.int .i64 d.a) ∧ w7.drew.cell? ⟨k6, 1, none⟩ = some (.int .i64 d.b) ∧ w7.drew.cell? ⟨b, o, none⟩ = some (.slice (some ⟨xa, xo, none⟩) xn xz) ∧ w7.drew.cell? ⟨xa, xo + h, none⟩ = some (.int .i64 (xs h))) := ⟨(Below.refl _ _).drew, x0, x1, y0, y1, e0, hxh⟩
          go_region_held3 (fun w' => (Below w7.heap.size w7 w' ∧ w'.cell? ⟨w.heap.size, 0, none⟩ = some (.int .i64 la) ∧ w'.cell? ⟨w.heap.size, 1, none⟩ = some (.int .i64 lb) ∧ w'.cell? ⟨k6, 0, none⟩ = some (.int .i64 d.a) ∧ w'.cell? ⟨k6, 1, none⟩ = some (.int .i64 d.b) ∧ w'.cell? ⟨b, o, none⟩ = some (.slice (some ⟨xa, xo, none⟩) xn xz) ∧ w'.cell? ⟨xa, xo + h, none⟩ = some (.int .i64 (xs h))))
            (first | (with_reducible assumption) | (with_reducible exact HSS8.out) | (with_reducible exact HKK8.out _ _ (by with_reducible assumption) (by with_reducible assumption)))
            (first
              | (go_at_call 64; refine Calls.mono (at_any _ _ _ _) ?_; rintro e w8 ⟨rfl, hB8⟩))
          have hS8 := ‹Below w7.heap.size w7 _ ∧ _›
          clear HKK8 HSS8

          clear x0 x1 xf0 xf1 y0 y1 yf0 yf1 e0 hxh
          have hB8' := hS8.1
          have HENVw8 := hid (EnvAt.later HENVw7.out hB8')
          have HBXw8 := hid (Box94.later HBXw7.out hB8')
          have HKw8 := hid (Keeps.below HKw7.out hB8' HA.out)
          have HXw8 : Hid (Xs w8 xa xo xn xs) := fun j hj => keepc (HXw7.out j hj) hB8'
          clear HENVw7 HBXw7 HKw7 HXw7 HKBw7 hS8 hB8'
          by_cases hR : evl la lb (xs h) < evl d.a d.b (xs h)
          · have hRb : decide (evl la lb (xs h) < evl d.a d.b (xs h)) = true := by simpa using hR
            have HR := hid hR
            obtain ⟨g9, z9, hgz9, p0, p1, p2, p3, pf⟩ := HENVw8.out.node hi2
            have hg9 : g = g9 := by
              have := congrArg Value.ownBlock hgz9
              simpa [Value.ownBlock] using this
            subst hg9
            replace p2 : w8.cell? ⟨g, i * 4 + 2, none⟩ = some (.int .i64 d.l) := by rw [HDv.out] at p2; exact p2
            replace p3 : w8.cell? ⟨g, i * 4 + 3, none⟩ = some (.int .i64 d.r) := by rw [HDv.out] at p3; exact p3
            have pfj := pf (i * 4 + 3)
            have e1 := HENVw8.out.cellN
            clear p0 p1 hgz9 pf
            by_cases hc : d.r = -1
            · have hcb : (d.r != -1) = false := by simp [hc]
              have hcb' : (d.r == -1) = true := by simp [hc]
              go_wp2_with fail
              refine (record_any (fun j => A j ∨ j = w.heap.size) b o _ _ _ _ undo nds' lg' ⟨i, 0, 0, true, false⟩ w8 (HENVw8.out.widen HBXw8.out (by decide) (by decide) (by decide)) (by omega)).mono ?_
              rintro e wr5 ⟨rfl, hk5, lgv5, henv5⟩
              rw [setC_setC] at henv5
              have HENV5 := hid (henv5.narrow (A' := A) (fun k hk => .inl hk))
              have HK5 := hid (HKw8.out.trans (hk5.narrow (A' := A) (fun k hk => .inl hk)))
              have HBX5 : Hid (Box94 wr5 w.heap.size la lb) := (hk5.block _ (.inr rfl)).trans HBXw8.out
              clear hk5 henv5 p2 p3 pfj e1
              obtain ⟨g9, z9, hgz9, p0, p1, p2, p3, pf⟩ := HENV5.out.node hi2
              have hg9 : g = g9 := by
                have := congrArg Value.ownBlock hgz9
                simpa [Value.ownBlock] using this
              subst hg9
              have pfj := pf (i * 4 + 3)
              have e1 := HENV5.out.cellN
              obtain ⟨x0, x1, xf0, xf1, xlt5⟩ := HBX5.out.cells
              have hgb : w.heap.size ≠ g := by
                have := ((HENV5.out.widen HBX5.out (by decide) (by decide) (by decide)).av w.heap.size (.inr rfl)).2.2.1
                simpa [Value.ownBlock] using this
              have hgb' : g ≠ w.heap.size := fun e => hgb e.symm
              obtain ⟨hs6, hks6⟩ := EnvAt.setNode HENV5.out i 3 ⟨d.a, d.b, d.l, (nds'.length : Int)⟩ (.int .i64 (nds'.length : Int)) hi2 (by omega) (by rw [HDv.out]; rfl)
              have HS6 := hid hs6
              have HKS6 := hid hks6
              clear pf p0 p1 hs6 hks6
              go_wp2_with fail
              refine (tree_any A b o _ _ _ _ undo _ _ _ _ _ HS6.out (by rw [List.length_set]; omega)).mono ?_
              rintro e wr7 ⟨rfl, hk7, nd7, lgv7, henv7⟩
              rw [setC_setC] at henv7
              have HE7 := hid henv7
              clear henv7
              go_wp2
              go_returns
              refine ⟨rfl, ?_⟩
              have hLn : ¬ (evl la lb (xs l) < evl d.a d.b (xs l)) := by have := HL.out; omega
              rw [← HEQ2.out, insRest, if_neg HLF.out, if_neg hLn, if_pos HR.out, if_pos hc]
              try rw [hlen2]
              exact ⟨(HK5.out.trans HKS6.out).trans hk7, nd7, lgv7, HE7.out⟩
            · have hcb : (d.r != -1) = true := by simp [hc]
              have hcb' : (d.r == -1) = false := by simp [hc]
              have hch := (HS2.out i hi2).2
              rw [HDv.out] at hch
              replace hch : d.r = -1 ∨ (0 ≤ d.r ∧ d.r < nds'.length) := hch
              have hc0 : 0 ≤ d.r := by omega
              have hc1 : d.r < nds'.length := by omega
              obtain ⟨ci, hci⟩ : ∃ ci : Nat, d.r = ci := ⟨d.r.toNat, by omega⟩
              have HCI := hid hci
              have hLn : ¬ (evl la lb (xs l) < evl d.a d.b (xs l)) := by have := HL.out; omega
              have heq := HEQ2.out
              rw [insRest, if_neg HLF.out, if_neg hLn, if_pos HR.out, if_neg hc, hci, hm] at heq
              have HEQ3 := hid heq
              rw [hci] at p3 hcb hcb'
              clear heq hci
              go_wp2_with fail
              go_roundw
              case rel =>
                have hcii := HCI.out
                exact ⟨ci, (mid + 1), h, f', nds', lg', la, lb, rfl, by first | rfl | go_num, rfl, ⟨HKw8.out, HBXw8.out, _, _, HENVw8.out⟩, by omega, by omega, by omega, by omega, by omega, by omega, HS2.out, HEQ3.out⟩
              case measure => simp [intOf]; omega
          · have hRb : decide (evl la lb (xs h) < evl d.a d.b (xs h)) = false := by simpa using hR
            have HR := hid hR
            go_wp2
            go_returns
            refine ⟨rfl, ?_⟩
            have hLn : ¬ (evl la lb (xs l) < evl d.a d.b (xs l)) := by have := HL.out; omega
            have hRn : ¬ (evl la lb (xs h) < evl d.a d.b (xs h)) := by have := HR.out; omega
            rw [← HEQ2.out, insRest, if_neg HLF.out, if_neg hLn, if_neg hRn]
            exact ⟨HKw8.out, _, _, HENVw8.out⟩


end Go.Proofs.Qxb6614303a
