/-
  Seat b6614303a. rollback (47), mirrored by a plain function; it takes back what insert logged.
-/
import Derived.Test.Qxb6614303aIns
import Derived.Deep.DeepCutAuto
namespace Go.Proofs.Qxb6614303a
open Go.RowKit
set_option linter.unusedVariables false

/-- One change is taken back. -/
def undo1 (nds : List Nd) (ch : Chg) : List Nd :=
  let d := ndAt nds ch.node.toNat
  if ch.child = false then nds.set ch.node.toNat ⟨ch.a, ch.b, d.l, d.r⟩
  else if ch.left = true then nds.set ch.node.toNat ⟨d.a, d.b, -1, d.r⟩ else nds.set ch.node.toNat ⟨d.a, d.b, d.l, -1⟩
/-- All changes behind the first k, the latest first. -/
def undoTo (k : Nat) : Nat → List Nd → List Chg → List Nd
  | 0, nds, _ => nds
  | j + 1, nds, lg => if j < k then nds else undoTo k j (undo1 nds (lg.getD j ⟨0, 0, 0, false, false⟩)) lg
theorem undo1_len (nds : List Nd) (ch : Chg) : (undo1 nds ch).length = nds.length := by
  unfold undo1
  dsimp only
  split
  · simp
  · split <;> simp

def logLen (b o : Nat) (w : World) : Nat := match w.cell? ⟨b, o + 3, none⟩ with | some (.slice _ n _) => n | _ => 0

theorem logLen_eq {b o : Nat} {w : World} {x : Option Addr} {n z : Nat} (h : w.cell? ⟨b, o + 3, none⟩ = some (.slice x n z)) : logLen b o w = n := by unfold logLen; rw [h]

theorem EnvAt.last {A : Nat → Prop} {w : World} {b o : Nat} {c : Array Value} {xv nd lgv : Value} {undo : Bool} {nds : List Nd} {lg : List Chg} (h : EnvAt A w b o c xv nd lgv undo nds lg) {i : Nat} (hi : i < lg.length) :
    ∃ g z, lgv = .slice (some ⟨g, 0, none⟩) lg.length z ∧ w.cell? ⟨g, i * 5, none⟩ = some (.int .i64 (lg.getD i ⟨0, 0, 0, false, false⟩).node) ∧ w.cell? ⟨g, i * 5 + 1, none⟩ = some (.int .i64 (lg.getD i ⟨0, 0, 0, false, false⟩).a) ∧ w.cell? ⟨g, i * 5 + 2, none⟩ = some (.int .i64 (lg.getD i ⟨0, 0, 0, false, false⟩).b) ∧ w.cell? ⟨g, i * 5 + 3, none⟩ = some (.bool (lg.getD i ⟨0, 0, 0, false, false⟩).child) ∧ w.cell? ⟨g, i * 5 + 4, none⟩ = some (.bool (lg.getD i ⟨0, 0, 0, false, false⟩).left) := by
  have h0 := h.rowL
  obtain ⟨g, z, rfl⟩ : ∃ g z, lgv = .slice (some ⟨g, 0, none⟩) lg.length z := by
    rcases h0.2 with ⟨_, hz⟩ | ⟨g, cap, cur, rfl, _⟩
    · omega
    · exact ⟨g, cap, rfl⟩
  have hg : lg[i]? = some (lg.getD i ⟨0, 0, 0, false, false⟩) := by rw [List.getD, List.getElem?_eq_getElem hi]; rfl
  have hc : ∀ j, j < 5 → w.cell? ⟨g, i * 5 + j, none⟩ = (lg.getD i ⟨0, 0, 0, false, false⟩).cs[j]? := by
    intro j hj
    rw [h0.cellAt (i * 5 + j) (by omega), flat5, flat_get Chg.cs 5 (fun _ => rfl) lg i j hj, hg]
    rfl
  exact ⟨g, z, rfl, hc 0 (by omega), hc 1 (by omega), hc 2 (by omega), hc 3 (by omega), hc 4 (by omega)⟩

theorem flat_take {α : Type} (f : α → List Value) (s : Nat) (hf : ∀ x, (f x).length = s) : ∀ (l : List α) (m : Nat), (l.flatMap f).take (m * s) = (l.take m).flatMap f
  | [], m => by simp
  | x :: l, 0 => by simp
  | x :: l, m + 1 => by
    simp only [List.flatMap_cons, List.take_succ_cons, Nat.add_mul, Nat.one_mul]
    rw [show m * s + s = (f x).length + m * s by rw [hf]; omega, List.take_append, List.take_of_length_le (by omega), Nat.add_sub_cancel_left, flat_take f s hf l m]

theorem grown_self (w : World) (row : Option Nat) : w.grownBy w row := ⟨rfl, rfl, rfl, Nat.le_refl _, fun _ _ _ => rfl⟩

/-- The log is cut. -/
theorem EnvAt.cutL {A : Nat → Prop} {w : World} {b o : Nat} {c : Array Value} {xv nd : Value} {lx : Option Addr} {ln lz : Nat} {undo : Bool} {nds : List Nd} {lg : List Chg} (h : EnvAt A w b o c xv nd (.slice lx ln lz) undo nds lg) (m : Nat) (hm : m ≤ lg.length) :
    Keeps A w (w.setCell ⟨b, o + 3, none⟩ (.slice lx m lz)) ∧ EnvAt A (w.setCell ⟨b, o + 3, none⟩ (.slice lx m lz)) b o ((c.setIfInBounds (o + 1) nd).setIfInBounds (o + 3) (.slice lx m lz)) xv nd (.slice lx m lz) undo nds (lg.take m) := by
  have hln : ln = lg.length := by
    obtain ⟨x, z, e⟩ := owns_shape h.rowL
    injection e
  subst hln
  have hr := owns_cut h.rowL m hm
  rw [flat5, flat_take Chg.cs 5 (fun _ => rfl)] at hr
  have hr' : w.ownsRow 0 118 5 (.slice lx m lz) (lg.take m).length (flat5 (lg.take m)) := by
    rw [List.length_take, Nat.min_eq_left hm]
    exact hr
  obtain ⟨_, _, h3, h4⟩ := h.setL (grown_self w _) hr' (.inl (ownBlock_len _ _ _ _ _))
  exact ⟨h3, h4⟩
/-- The nodes are cut. -/
theorem EnvAt.cutN {A : Nat → Prop} {w : World} {b o : Nat} {c : Array Value} {xv lgv : Value} {nx : Option Addr} {nn nz : Nat} {undo : Bool} {nds : List Nd} {lg : List Chg} (h : EnvAt A w b o c xv (.slice nx nn nz) lgv undo nds lg) (m : Nat) (hm : m ≤ nds.length) :
    Keeps A w (w.setCell ⟨b, o + 1, none⟩ (.slice nx m nz)) ∧ EnvAt A (w.setCell ⟨b, o + 1, none⟩ (.slice nx m nz)) b o ((c.setIfInBounds (o + 1) (.slice nx m nz)).setIfInBounds (o + 3) lgv) xv (.slice nx m nz) lgv undo (nds.take m) lg := by
  have hln : nn = nds.length := by
    obtain ⟨x, z, e⟩ := owns_shape h.rowN
    injection e
  subst hln
  have hr := owns_cut h.rowN m hm
  rw [flat4, flat_take Nd.cs 4 (fun _ => rfl)] at hr
  have hr' : w.ownsRow 0 116 4 (.slice nx m nz) (nds.take m).length (flat4 (nds.take m)) := by
    rw [List.length_take, Nat.min_eq_left hm]
    exact hr
  obtain ⟨_, _, h3, h4⟩ := h.setN (grown_self w _) hr' (.inl (ownBlock_len _ _ _ _ _))
  exact ⟨h3, h4⟩

theorem owns_cap {w : World} {base : Nat} {e : TypeId} {s : Nat} {x : Option Addr} {n z : Nat} {xs : List Value} (h : w.ownsRow base e s (.slice x n z) n xs) : n ≤ z := by
  rcases h.2 with ⟨h1, h2⟩ | ⟨g, cap, cur, h1, h2, h3, h4, h5⟩
  · omega
  · injection h1 with a1 a2 a3
    omega
theorem undoTo_self (k : Nat) (nds : List Nd) (lg : List Chg) : undoTo k k nds lg = nds := by
  cases k with
  | zero => rfl
  | succ k => rw [undoTo, if_pos (by omega)]
theorem bdrewN {B : Nat} {w w' : World} (h : Below B w w') (n : Nat) : Below B w (w'.drewN n) := ⟨h.os, h.tape, h.output, h.size, h.block⟩

set_option maxRecDepth 100000 in
set_option maxHeartbeats 8000000 in
theorem roll_any (A : Nat → Prop) (b o : Nat) (c : Array Value) (xv nd lgv : Value) (undo : Bool) (nds : List Nd) (lg : List Chg) (k m : Nat) (w : World)
    (h : EnvAt A w b o c xv nd lgv undo nds lg) (hk : k ≤ lg.length) (hm : m ≤ nds.length) (hlg : lg.length ≤ 1099511627776) (hnn : nds.length ≤ 1099511627776) (hch : ∀ j, k ≤ j → j < lg.length → 0 ≤ (lg.getD j ⟨0, 0, 0, false, false⟩).node ∧ (lg.getD j ⟨0, 0, 0, false, false⟩).node < nds.length) :
    Calls Try.prog 47 #[.pointer (some ⟨b, o, none⟩), .agg #[.int .i64 k, .int .i64 m]] w (VoidEnd A b o c xv undo ((undoTo k lg.length nds lg).take m) (lg.take k) w) := by
  have hlt := h.lt
  have HA := hid h.alt
  have HCH := hid hch
  have hB0 : Below w.heap.size w (w.alloc (.cells #[.int .i64 k, .int .i64 m] 96)) := (Below.refl _ _).alloc (Nat.le_refl _) _
  have hbx0 : (w.alloc (.cells #[.int .i64 k, .int .i64 m] 96)).heap[w.heap.size]? = some (.cells #[.int .i64 k, .int .i64 m] 96 (0, 0)) := World.alloc_heap_new w _
  obtain ⟨k1, nd1, lg1, k2⟩ := h.end0 hB0
  have H0 := hid k2
  have HK0 := hid k1
  have HBX0 := hid hbx0
  clear h hch hB0 hbx0 k1 k2
  go_enter Try.func47, Try.ntmps47
  go_wp2_with fail
  go_loopw [] (fun wr => ∃ (j : Nat) (nds' : List Nd) (nd' lgv' : Value), k ≤ j ∧ j ≤ lg.length ∧ nds'.length = nds.length ∧ Hid (wr.heap[w.heap.size]? = some (.cells #[.int .i64 k, .int .i64 m] 96 (0, 0))) ∧ Hid (Keeps A w wr) ∧ Hid (EnvAt A wr b o ((c.setIfInBounds (o + 1) nd').setIfInBounds (o + 3) lgv') xv nd' lgv' undo nds' (lg.take j)) ∧ Hid (undoTo k j nds' lg = undoTo k lg.length nds lg)) (fun wr => logLen b o wr)
  case atStart => exact ⟨lg.length, nds, nd1, lg1, hk, Nat.le_refl _, rfl, HBX0.out, HK0.out, by rw [List.take_length]; exact H0.out, rfl⟩
  case round =>
    obtain ⟨j, nds', nd', lgv', hkj, hjl, hlen, HBX, HK, HE, HU⟩ := hrel
    obtain ⟨lx, lz, rfl⟩ := owns_shape HE.out.rowL
    obtain ⟨nx, nz, rfl⟩ := owns_shape HE.out.rowN
    have hjt : (lg.take j).length = j := by rw [List.length_take]; omega
    have hbx := HBX.out
    have b0 : wr.cell? ⟨w.heap.size, 0, none⟩ = some (.int .i64 (k : Int)) := by simp [World.cell?, hbx]
    have b1 : wr.cell? ⟨w.heap.size, 1, none⟩ = some (.int .i64 (m : Int)) := by simp [World.cell?, hbx]
    have e1 := HE.out.cellN
    have e3 := HE.out.cellL
    have f1 := HE.out.frz (o + 1)
    have f3 := HE.out.frz (o + 3)
    rw [hjt] at e3
    rw [hlen] at e1
    have hmz : (m : Int) ≤ (nz : Int) := by have := owns_cap HE.out.rowN; omega
    have hjz : (j : Int) ≤ (lz : Int) := by
      have := owns_cap HE.out.rowL
      rw [hjt] at this
      omega
    have hbxlt : w.heap.size < wr.heap.size := (Array.getElem?_eq_some_iff.1 hbx).1
    clear hbx
    by_cases hjk : j = k
    · subst hjk
      go_wp2_with fail
      go_quiet (fail)
      go_wp2_with fail
      obtain ⟨W1, hW1⟩ : ∃ W1, wr.drewN nq = W1 := ⟨_, rfl⟩
      have hBW : Below wr.heap.size wr W1 := by rw [← hW1]; exact bdrewN (Below.refl _ _) _
      rw [hW1]
      have HE1 := hid (EnvAt.later HE.out hBW)
      have HK1 := hid (Keeps.below HK.out hBW HA.out)
      replace b1 := keepc b1 hBW
      replace e1 := keepc e1 hBW
      replace f1 := HE1.out.frz (o + 1)
      clear hW1 hBW HE HK b0 e3 f3 HBX
      go_region
      go_wp2
      all_goals
        go_returns
        obtain ⟨q1, q2⟩ := EnvAt.cutN HE1.out m (by omega)
        rw [setC_setC] at q2
        have hu := HU.out
        rw [undoTo_self] at hu
        rw [hu] at q2
        exact ⟨rfl, ((HK1.out.trans q1)).drew, _, _, q2.drew⟩
    · have hjk' : (k : Int) < (j : Int) := by omega
      obtain ⟨i, rfl⟩ : ∃ i, j = i + 1 := ⟨j - 1, by omega⟩
      have HL0 : Hid (logLen b o wr = i + 1) := by simp [Hid, logLen, e3]
      go_wp2_with fail
      go_quiet (fail)
      go_wp2_with fail
      obtain ⟨W1, hW1⟩ : ∃ W1, wr.drewN nq = W1 := ⟨_, rfl⟩
      have hBW : Below wr.heap.size wr W1 := by rw [← hW1]; exact bdrewN (Below.refl _ _) _
      rw [hW1]
      have HE1 := hid (EnvAt.later HE.out hBW)
      have HK1 := hid (Keeps.below HK.out hBW HA.out)
      have HBX1 : Hid (W1.heap[w.heap.size]? = some (.cells #[.int .i64 k, .int .i64 m] 96 (0, 0))) := (hBW.block _ hbxlt).trans HBX.out
      replace e1 := keepc e1 hBW
      replace e3 := keepc e3 hBW
      replace f1 := HE1.out.frz (o + 1)
      replace f3 := HE1.out.frz (o + 3)
      clear hW1 hBW HE HK HBX b0 b1
      obtain ⟨ch, hchd⟩ : ∃ ch, lg.getD i ⟨0, 0, 0, false, false⟩ = ch := ⟨_, rfl⟩
      have hge : (lg.take (i + 1)).getD i ⟨0, 0, 0, false, false⟩ = ch := by
        rw [← hchd, List.getD, List.getD, List.getElem?_take_of_lt (by omega)]
      obtain ⟨gl, zl, hgl, c0, c1, c2, c3, c4⟩ := HE1.out.last (i := i) (by omega)
      rw [hge] at c0 c1 c2 c3 c4
      injection hgl with hl1 hl2 hl3
      subst hl1
      have hcn := HCH.out i (by omega) (by omega)
      rw [hchd] at hcn
      obtain ⟨n, hn⟩ : ∃ n : Nat, ch.node = n := ⟨ch.node.toNat, by omega⟩
      rw [hn] at c0 hcn
      have hnl : n < nds'.length := by omega
      have hnl' : (n : Int) < (nds.length : Int) := by omega
      have hiz : (i : Int) ≤ (lz : Int) := by omega
      obtain ⟨d, hd⟩ : ∃ d, ndAt nds' n = d := ⟨_, rfl⟩
      have hblt := HE1.out.lt
      have hgllt : gl < W1.heap.size := World.block_lt_of_cell? _ _ c0
      clear hge hl2 hl3
      go_region
      have hB2 : Below W1.heap.size W1 (W1.alloc (.cells #[.int .i64 (n : Int), .int .i64 ch.a, .int .i64 ch.b, .bool ch.child, .bool ch.left] 118)).drew := ((Below.refl _ _).alloc (Nat.le_refl _) _).drew
      have hbox : (W1.alloc (.cells #[.int .i64 (n : Int), .int .i64 ch.a, .int .i64 ch.b, .bool ch.child, .bool ch.left] 118)).drew.heap[W1.heap.size]? = some (.cells #[.int .i64 (n : Int), .int .i64 ch.a, .int .i64 ch.b, .bool ch.child, .bool ch.left] 118 (0, 0)) := World.alloc_heap_new W1 _
      obtain ⟨W2, hW2⟩ : ∃ W2, (W1.alloc (.cells #[.int .i64 (n : Int), .int .i64 ch.a, .int .i64 ch.b, .bool ch.child, .bool ch.left] 118)).drew = W2 := ⟨_, rfl⟩
      rw [hW2] at hB2 hbox ⊢
      obtain ⟨kx, hkx⟩ : ∃ kx, W1.heap.size = kx := ⟨_, rfl⟩
      rw [hkx] at hbox ⊢
      have HE2 := hid (EnvAt.later HE1.out hB2)
      have HK2 := hid (Keeps.below HK1.out hB2 HA.out)
      have HBX2 : Hid (W2.heap[w.heap.size]? = some (.cells #[.int .i64 k, .int .i64 m] 96 (0, 0))) := (hB2.block _ (Array.getElem?_eq_some_iff.1 HBX1.out).1).trans HBX1.out
      have HBOX := hid hbox
      have e1' := keepc e1 hB2
      have e3' := keepc e3 hB2
      have f3' := HE2.out.frz (o + 3)
      have hbkx : b ≠ kx := by omega
      obtain ⟨cq1, cq2⟩ := EnvAt.cutL HE2.out i (by omega)
      rw [setC_setC, List.take_take, Nat.min_eq_left (by omega)] at cq2
      have CQ1 := hid cq1
      have CQ2 := hid cq2
      clear hW2 hkx hB2 hbox cq1 cq2 c0 c1 c2 c3 c4 e1 e3 f1 f3 HE1 HK1 HBX1 hblt hgllt
      go_wp2_with fail
      go_region
      obtain ⟨W3, hW3⟩ : ∃ W3, (W2.setCell ⟨b, o + 3, none⟩ (.slice (some ⟨gl, 0, none⟩) i lz)).drew = W3 := ⟨_, rfl⟩
      have HE3 : Hid (EnvAt A W3 b o ((c.setIfInBounds (o + 1) (.slice nx nds'.length nz)).setIfInBounds (o + 3) (.slice (some ⟨gl, 0, none⟩) i lz)) xv (.slice nx nds'.length nz) (.slice (some ⟨gl, 0, none⟩) i lz) undo nds' (lg.take i)) := by rw [← hW3]; exact CQ2.out.drew
      have HK3 : Hid (Keeps A w W3) := by rw [← hW3]; exact (HK2.out.trans CQ1.out).drew
      have hbb : b ≠ w.heap.size := by omega
      have HBX3 : Hid (W3.heap[w.heap.size]? = some (.cells #[.int .i64 k, .int .i64 m] 96 (0, 0))) := by rw [← hW3]; exact (Below.heap_setCell _ _ _ _ (fun e => hbb e.symm)).trans HBX2.out
      have HBOX3 : Hid (W3.heap[kx]? = some (.cells #[.int .i64 (n : Int), .int .i64 ch.a, .int .i64 ch.b, .bool ch.child, .bool ch.left] 118 (0, 0))) := by rw [← hW3]; exact (Below.heap_setCell _ _ _ _ (fun e => hbkx e.symm)).trans HBOX.out
      rw [hW3]
      clear hW3 HE2 HK2 HBX2 HBOX CQ1 CQ2 e1' e3' f3'
      have hbox := HBOX3.out
      have b0 : W3.cell? ⟨kx, 0, none⟩ = some (.int .i64 (n : Int)) := by simp [World.cell?, hbox]
      have b1 : W3.cell? ⟨kx, 1, none⟩ = some (.int .i64 ch.a) := by simp [World.cell?, hbox]
      have b2 : W3.cell? ⟨kx, 2, none⟩ = some (.int .i64 ch.b) := by simp [World.cell?, hbox]
      have b3 : W3.cell? ⟨kx, 3, none⟩ = some (.bool ch.child) := by simp [World.cell?, hbox]
      have b4 : W3.cell? ⟨kx, 4, none⟩ = some (.bool ch.left) := by simp [World.cell?, hbox]
      obtain ⟨g, zz, hgz, p0, p1, p2, p3, pf⟩ := HE3.out.node hnl
      injection hgz with hz1 hz2 hz3
      subst hz1
      rw [hd] at p0 p1 p2 p3
      have e1 := HE3.out.cellN
      rw [hlen] at e1
      have pf0 := pf (n * 4)
      have pf1 := pf (n * 4 + 1)
      have pf2 := pf (n * 4 + 2)
      have pf3 := pf (n * 4 + 3)
      have hgw : w.heap.size ≠ g := by
        intro e
        obtain ⟨c', hc'⟩ := owns_tag HE3.out.rowN (k := g) (by simp [Value.ownBlock])
        have h2 := HBX3.out
        rw [e, hc'] at h2
        simp at h2
      have hum : undoTo k (i + 1) nds' lg = undoTo k i (undo1 nds' ch) lg := by rw [undoTo, if_neg (by omega), hchd]
      have hU := HU.out
      rw [hum] at hU
      have HU2 := hid hU
      have HN := hid hn
      clear hbox hz2 hz3 pf hU hum HU hn
      by_cases hcc : ch.child = false
      · rw [hcc] at b3
        obtain ⟨t1, t2⟩ := EnvAt.setLine HE3.out n ch.a ch.b hnl
        have T1 := hid t1.drew
        have T2 := hid (HK3.out.trans t2).drew
        clear t1 t2
        go_wp2_with fail
        go_region
        go_wp2_with fail
        go_roundw
        case rel =>
          refine ⟨i, _, _, _, by omega, by omega, ?_, ?_, T2.out, T1.out, ?_⟩
          · rw [List.length_set]; exact hlen
          · exact (Below.heap_setCell _ _ _ _ hgw).trans ((Below.heap_setCell _ _ _ _ hgw).trans HBX3.out)
          · have hq : undo1 nds' ch = nds'.set n ⟨ch.a, ch.b, (ndAt nds' n).l, (ndAt nds' n).r⟩ := by unfold undo1; simp [hcc, HN.out]
            have q := HU2.out
            rw [hq] at q
            exact q
        case measure =>
          have t4 := logLen_eq T1.out.cellL
          rw [HL0.out]
          omega
      · have hcc' : ch.child = true := by simpa using hcc
        rw [hcc'] at b3
        by_cases hcl : ch.left = true
        · rw [hcl] at b4
          obtain ⟨t1, t2⟩ := EnvAt.setNode HE3.out n 2 ⟨d.a, d.b, -1, d.r⟩ (.int .i64 (-1)) hnl (by omega) (by rw [hd]; rfl)
          have T1 := hid t1.drew
          have T2 := hid (HK3.out.trans t2).drew
          clear t1 t2
          go_wp2_with fail
          go_region
          go_wp2_with fail
          go_roundw
          case rel =>
            refine ⟨i, _, _, _, by omega, by omega, ?_, ?_, T2.out, T1.out, ?_⟩
            · rw [List.length_set]; exact hlen
            · exact (Below.heap_setCell _ _ _ _ hgw).trans HBX3.out
            · have hq : undo1 nds' ch = nds'.set n ⟨d.a, d.b, -1, d.r⟩ := by unfold undo1; simp [hcc', hcl, HN.out, hd]
              have q := HU2.out
              rw [hq] at q
              exact q
          case measure =>
            have t4 := logLen_eq T1.out.cellL
            rw [HL0.out]
            omega
        · have hcl' : ch.left = false := by simpa using hcl
          rw [hcl'] at b4
          obtain ⟨t1, t2⟩ := EnvAt.setNode HE3.out n 3 ⟨d.a, d.b, d.l, -1⟩ (.int .i64 (-1)) hnl (by omega) (by rw [hd]; rfl)
          have T1 := hid t1.drew
          have T2 := hid (HK3.out.trans t2).drew
          clear t1 t2
          go_wp2_with fail
          go_region
          go_wp2_with fail
          go_roundw
          case rel =>
            refine ⟨i, _, _, _, by omega, by omega, ?_, ?_, T2.out, T1.out, ?_⟩
            · rw [List.length_set]; exact hlen
            · exact (Below.heap_setCell _ _ _ _ hgw).trans HBX3.out
            · have hq : undo1 nds' ch = nds'.set n ⟨d.a, d.b, d.l, -1⟩ := by unfold undo1; simp [hcc', hcl', HN.out, hd]
              have q := HU2.out
              rw [hq] at q
              exact q
          case measure =>
            have t4 := logLen_eq T1.out.cellL
            rw [HL0.out]
            omega

end Go.Proofs.Qxb6614303a
