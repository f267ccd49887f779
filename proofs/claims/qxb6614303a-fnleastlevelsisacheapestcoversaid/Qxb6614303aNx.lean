/-
  Seat b6614303a. nextRow's states, and its calls at them.
-/
import Derived.Test.Qxb6614303aNw
namespace Go.Proofs.Qxb6614303a
open Go.RowKit
set_option linter.unusedVariables false

theorem Safe.app {nds : List Nd} (h : Safe nds) (a b : Int) : Safe (nds ++ [⟨a, b, -1, -1⟩]) := by
  intro j hj
  simp only [List.length_append, List.length_cons, List.length_nil] at hj ⊢
  by_cases h1 : j = nds.length
  · subst h1
    rw [ndAt_new]
    exact ⟨.inl rfl, .inl rfl⟩
  · rw [ndAt_app _ (by omega)]
    have := h j (by omega)
    omega

/-- What does not change: the rows that nextRow reads, and their bounds. -/
structure NC (A : Nat → Prop) (w : World) (la ba da ta pa ln D : Nat) (lev bef dis prev : Nat → Int) (lat : Nat → Nat) : Prop where
  al : A la
  ab : A ba
  ad : A da
  at' : A ta
  ap : A pa
  xl : Xs w la 0 ln lev
  xb : Xs w ba 0 (ln + 1) bef
  xd : Xs w da 0 D dis
  xt : Xs w ta 0 ln (fun i => (lat i : Int))
  xp : Xs w pa 0 (ln + 1) prev
  up : Up dis D
  dis0 : ∀ p, p < D → 0 ≤ dis p ∧ dis p ≤ 2199023255552
  lat0 : ∀ i, i < ln → lat i < D ∧ dis (lat i) = lev i
  bd : Bd lev bef prev ln

/-- The points of the ends. -/
def bX (bef : Nat → Int) (p : Nat) : Int := bef (p + 1)

def NextEnd (A : Nat → Prop) (b : Nat) (v0 v1 v2 v3 : Value) (bn : Nat) (f : Nat → Int) (w : World) (e : Ending) (w' : World) : Prop :=
  Keeps A w w' ∧ ∃ g x1 nds1 x2 nds2 lg2, w.heap.size ≤ g ∧ e = .returned (.slice (some ⟨g, 0, none⟩) bn bn) ∧ w'.rowIs g 2 bn (fun q => .int .i64 (f q)) ∧ P2 A w' b v0 v1 v2 v3 x1 nds1 x2 nds2 lg2

/-- The outer loop's state, k runs seen. -/
def NInv (A : Nat → Prop) (w0 : World) (b : Nat) (v0 v1 v2 v3 x1 x2 : Value) (g ln D : Nat) (lev bef dis prev : Nat → Int) (stv : Value) (k : Nat) (wr : World) : Prop :=
  ∃ (S : List G) (nds : List Nd), NW A w0 b v0 v1 v2 v3 x1 x2 g (ln + 1) nds (chain (bX bef) ln S).1 (chain (bX bef) ln S).2 (fun q => if q ≤ k then nxt lev bef prev q else 0) stv (stk (bX bef) ln S) wr ∧
    Stk dis D lev bef prev nds k S k ∧ Safe nds ∧ nds.length + S.length * ln ≤ k * (ln + 1) ∧ S.length ≤ k

/-- The inner loop's state, the run k at hand. -/
def NInn (A : Nat → Prop) (w0 : World) (b : Nat) (v0 v1 v2 v3 x1 x2 : Value) (g ln D : Nat) (lev bef dis prev : Nat → Int) (stv : Value) (k : Nat) (S : List G) (s : Nat) (t : T) (nds : List Nd) (wr : World) : Prop :=
  NW A w0 b v0 v1 v2 v3 x1 x2 g (ln + 1) nds (chain (bX bef) ln S).1 (chain (bX bef) ln S).2 (fun q => if q ≤ k then nxt lev bef prev q else 0) stv (stk (bX bef) ln S) wr ∧
    InOK dis D lev bef prev nds k S s t ∧ Safe nds ∧ nds.length + S.length * ln ≤ k * (ln + 1) + 1 ∧ S.length ≤ k

def lenOf : Value → Nat
  | .slice _ n _ => n
  | _ => 0

section
variable {A : Nat → Prop} {w0 wr W : World} {b : Nat} {v0 v1 v2 v3 x1 x2 stv : Value} {g ln D k s la ba da ta pa : Nat} {lev bef dis prev : Nat → Int} {lat : Nat → Nat} {S L : List G} {gg : G} {t : T} {nds : List Nd}
theorem NC.upX (h : NC A w0 la ba da ta pa ln D lev bef dis prev lat) : Up (bX bef) ln := fun i j hij hj => h.bd.up (i + 1) (j + 1) (by omega) (by omega)
theorem NC.chn (h : NC A w0 la ba da ta pa ln D lev bef dis prev lat) (hln : 0 < ln) (hk : k ≤ ln) {e : Nat} (hs : Stk dis D lev bef prev nds k S e) (he : e ≤ k) : ∃ t, ChainOK (bX bef) ln S t := chain_ok hln h.upX S (Stk.good h.bd hk hs he)
theorem NC.lens (h : NC A w0 la ba da ta pa ln D lev bef dis prev lat) (hln : 0 < ln) (hln2 : ln ≤ 1024) (hk : k ≤ ln) {e : Nat} (hs : Stk dis D lev bef prev nds k S e) (he : e ≤ k) (hS : S.length ≤ 1025) : (chain (bX bef) ln S).1.length ≤ 1026 ∧ (chain (bX bef) ln S).2.length ≤ 2099200 := by
  obtain ⟨t, ht⟩ := h.chn hln hk hs he
  have h1 := ht.len
  have h2 := ht.log
  have h3 : 2 * ln * S.length ≤ 2 * 1024 * 1025 := Nat.mul_le_mul (by omega) hS
  omega
theorem NInn.later (h : NInn A w0 b v0 v1 v2 v3 x1 x2 g ln D lev bef dis prev stv k S s t nds wr) (hb : Below wr.heap.size wr W) : NInn A w0 b v0 v1 v2 v3 x1 x2 g ln D lev bef dis prev stv k S s t nds W := ⟨h.1.later hb, h.2⟩
/-- rollback, at the stack's top. -/
theorem NInn.roll (h : NInn A w0 b v0 v1 v2 v3 x1 x2 g ln D lev bef dis prev stv k (gg :: L) s t nds wr) (hc : NC A w0 la ba da ta pa ln D lev bef dis prev lat) (hln : 0 < ln) (hln2 : ln ≤ 1024) (hk : k < ln)
    (hp : P2 A W b v0 v1 v2 v3 x1 nds x2 (chain (bX bef) ln (gg :: L)).1 (chain (bX bef) ln (gg :: L)).2) :
    Calls Try.prog 47 #[.pointer (some ⟨b, 8, none⟩), .agg #[.int .i64 ((chain (bX bef) ln L).2.length : Int), .int .i64 ((chain (bX bef) ln L).1.length : Int)]] W (POut A b v0 v1 v2 v3 x1 nds x2 (chain (bX bef) ln L).1 (chain (bX bef) ln L).2 (.tuple #[]) W) := by
  obtain ⟨-, hi, -, -, hl⟩ := h
  have hst := hi.stk
  have hle := hi.le
  have h1 := hst.1
  obtain ⟨tc, htc⟩ := hc.chn hln (Nat.le_of_lt hk) hst.2.2.2.2.2.2 (by omega)
  obtain ⟨r1, r2, r3, r4, r5⟩ := chain_roll (g := gg) htc
  obtain ⟨q1, q2⟩ := hc.lens hln hln2 (Nat.le_of_lt hk) hst (by omega) (by omega)
  have := roll2_p2 hp _ _ r3 r4 (by omega) (by omega) r5
  rw [r1, r2] at this
  exact this
/-- merge, of the stack's top. -/
theorem NInn.merge {dz : Nat} (h : NInn A w0 b v0 v1 v2 v3 x1 x2 g ln D lev bef dis prev stv k (gg :: L) s t nds wr) (hc : NC A w0 la ba da ta pa ln D lev bef dis prev lat) (hln : 0 < ln) (hln2 : ln ≤ 1024) (hk : k < ln) (hD : 0 < D) (hD2 : D ≤ 1024) {nds2 : List Nd} {lg2 : List Chg}
    (hp : P2 A W b v0 v1 v2 v3 (.slice (some ⟨da, 0, none⟩) D dz) nds x2 nds2 lg2) (hx : Xs W da 0 D dis) :
    Calls Try.prog 48 #[.pointer (some ⟨b, 4, none⟩), .int .i64 t.root, .int .i64 gg.t.root, .int .i64 0, .int .i64 ((D : Int) - 1)] W (MOut A b v0 v1 v2 v3 (.slice (some ⟨da, 0, none⟩) D dz) dis D t gg.t nds x2 nds2 lg2 W) := by
  obtain ⟨-, hi, hsf, hl1, hl⟩ := h
  have hst := hi.stk
  have hle := hi.le
  have h1 := hst.1
  have htr := hi.tree
  have htg := hst.2.1
  have hz := htg.size
  have h2 : k * (ln + 1) ≤ 1024 * 1025 := Nat.mul_le_mul (by omega) (by omega)
  have := merge1_p2 hp hx hc.up hc.ad (by omega) hD t gg.t hsf htr.rep htg.rep (by
    rw [List.nodup_append]
    exact ⟨htr.nodup, htg.nodup, fun x hx y hy e => hi.apart x hx gg (List.mem_cons_self ..) (by rw [e]; exact hy)⟩) htr.good htg.good (by omega)
  rw [show ((D - 1 : Nat) : Int) = (D : Int) - 1 by omega] at this
  exact this
/-- The stack's top is gone. -/
theorem NInn.popped {stv' : Value} (h : NInn A w0 b v0 v1 v2 v3 x1 x2 g ln D lev bef dis prev stv k (gg :: L) s t nds wr) (hlv : gg.lv ≤ lev k) (hk : k < ln) {nds' : List Nd} {t' : T} (hm : MrgT dis D t gg.t nds nds' 0 (D - 1) t')
    (hw : NW A w0 b v0 v1 v2 v3 x1 x2 g (ln + 1) nds' (chain (bX bef) ln L).1 (chain (bX bef) ln L).2 (fun q => if q ≤ k then nxt lev bef prev q else 0) stv' (stk (bX bef) ln L) W) :
    NInn A w0 b v0 v1 v2 v3 x1 x2 g ln D lev bef dis prev stv' k L gg.s t' nds' W := by
  obtain ⟨-, hi, hsf, hl1, hl⟩ := h
  have hz := hi.stk.2.1.size
  have hle := hi.le
  have hl3 := hm.len1
  refine ⟨hw, hi.pop hlv hm, hm.safe, ?_, ?_⟩
  · simp only [List.length_cons, Nat.add_mul] at hl1
    omega
  · simp only [List.length_cons] at hl
    omega
/-- least, of the tree at hand. -/
theorem NInn.best {dz : Nat} (h : NInn A w0 b v0 v1 v2 v3 x1 x2 g ln D lev bef dis prev stv k S s t nds wr) (hc : NC A w0 la ba da ta pa ln D lev bef dis prev lat) (hln2 : ln ≤ 1024) (hk : k < ln) (hD2 : D ≤ 1024) {nds2 : List Nd} {lg2 : List Chg}
    (hp : P2 A W b v0 v1 v2 v3 (.slice (some ⟨da, 0, none⟩) D dz) nds x2 nds2 lg2) (hx : Xs W da 0 D dis) :
    Calls Try.prog 49 #[.pointer (some ⟨b, 4, none⟩), .int .i64 t.root, .int .i64 (lat k : Int)] W (LeastEnd (lst dis t 0 (D - 1) (lat k) Mx) W) := by
  obtain ⟨-, hi, hsf, hl1, hl⟩ := h
  have h2 : k * (ln + 1) ≤ 1024 * 1025 := Nat.mul_le_mul (by omega) (by omega)
  exact least1_p2 hp hx t hi.tree.rep (lat k) (hc.lat0 k hk).1 (by omega) (by omega)
/-- The block that is laid on the stack. -/
def newG (dis : Nat → Int) (D : Nat) (lev : Nat → Int) (lat : Nat → Nat) (k s : Nat) (t : T) : G := ⟨s, lev k, lst dis t 0 (D - 1) (lat k) Mx, t⟩
theorem NInn.pushed (h : NInn A w0 b v0 v1 v2 v3 x1 x2 g ln D lev bef dis prev stv k S s t nds wr) (hc : NC A w0 la ba da ta pa ln D lev bef dis prev lat) (hlv : ∀ x ∈ S, lev k < x.lv) (hk : k < ln) :
    Stk dis D lev bef prev nds (k + 1) (newG dis D lev lat k s t :: S) (k + 1) := h.2.1.push hlv (hc.lat0 k hk).1 (hc.lat0 k hk).2
/-- insert, of the new block's line. -/
theorem NInn.insert {bz : Nat} (h : NInn A w0 b v0 v1 v2 v3 x1 x2 g ln D lev bef dis prev stv k S s t nds wr) (hc : NC A w0 la ba da ta pa ln D lev bef dis prev lat) (hln : 0 < ln) (hln2 : ln ≤ 1024) (hk : k < ln)
    (hp : P2 A W b v0 v1 v2 v3 x1 nds (.slice (some ⟨ba, 1, none⟩) ln bz) (chain (bX bef) ln S).1 (chain (bX bef) ln S).2) (hx : Xs W ba 1 ln (bX bef)) :
    Calls Try.prog 51 #[.pointer (some ⟨b, 8, none⟩), .int .i64 0, .int .i64 0, .int .i64 ((ln : Int) - 1), .agg #[.int .i64 (lst dis t 0 (D - 1) (lat k) Mx), .int .i64 (lev k)]] W
      (POut A b v0 v1 v2 v3 x1 nds (.slice (some ⟨ba, 1, none⟩) ln bz) (chain (bX bef) ln (newG dis D lev lat k s t :: S)).1 (chain (bX bef) ln (newG dis D lev lat k s t :: S)).2 (.tuple #[]) W) := by
  obtain ⟨-, hi, hsf, hl1, hl⟩ := h
  obtain ⟨tc, htc⟩ := hc.chn hln (Nat.le_of_lt hk) hi.stk hi.le
  obtain ⟨q1, q2⟩ := hc.lens hln hln2 (Nat.le_of_lt hk) hi.stk hi.le (by omega)
  have := insert2_p2 hp hx hc.ab htc.safe 0 htc.pos 0 (ln - 1) (Nat.zero_le _) (by omega) (by omega) (lst dis t 0 (D - 1) (lat k) Mx) (lev k) ln (by omega) (by omega) (by omega)
  rw [show ((ln - 1 : Nat) : Int) = (ln : Int) - 1 by omega] at this
  exact this
/-- least, of the ends: the next row's cell. -/
theorem NInn.ends {bz : Nat} (h : NInn A w0 b v0 v1 v2 v3 x1 x2 g ln D lev bef dis prev stv k S s t nds wr) (hc : NC A w0 la ba da ta pa ln D lev bef dis prev lat) (hlv : ∀ x ∈ S, lev k < x.lv) (hln : 0 < ln) (hln2 : ln ≤ 1024) (hk : k < ln)
    (hp : P2 A W b v0 v1 v2 v3 x1 nds (.slice (some ⟨ba, 1, none⟩) ln bz) (chain (bX bef) ln (newG dis D lev lat k s t :: S)).1 (chain (bX bef) ln (newG dis D lev lat k s t :: S)).2) (hx : Xs W ba 1 ln (bX bef)) :
    Calls Try.prog 49 #[.pointer (some ⟨b, 8, none⟩), .int .i64 0, .int .i64 (k : Int)] W (LeastEnd (nxt lev bef prev (k + 1)) W) := by
  have hst := h.pushed hc hlv hk
  have hl := h.2.2.2.2
  obtain ⟨tc, htc⟩ := hc.chn hln (by omega) hst (by omega)
  obtain ⟨q1, q2⟩ := hc.lens hln hln2 (by omega) hst (by omega) (by simp; omega)
  have := least2_p2 hp hx tc htc.rep k hk (by omega) (by omega)
  rw [htc.root] at this
  have e : lst (bX bef) tc 0 (ln - 1) k 9223372036854775807 = nxt lev bef prev (k + 1) := by
    rw [show (9223372036854775807 : Int) = Mx from rfl, htc.val k hk, nxt, if_neg (by omega)]
    exact Stk.ends hc.bd (by omega) hst (Nat.le_refl _)
  rw [e] at this
  exact this
theorem NC.xX {nds2 : List Nd} {lg2 : List Chg} {f : Nat → Int} {L2 : List Bk} (h : NC A w0 la ba da ta pa ln D lev bef dis prev lat) (hw : NW A w0 b v0 v1 v2 v3 x1 x2 g (ln + 1) nds nds2 lg2 f stv L2 W) : Xs W ba 1 ln (bX bef) := by
  intro j hj
  have := hw.xs h.ab h.xb (1 + j) (by omega)
  rw [Nat.zero_add] at this
  rw [this, bX, Nat.add_comm]
theorem NInn.round {stv' : Value} (h : NInn A w0 b v0 v1 v2 v3 x1 x2 g ln D lev bef dis prev stv k S s t nds wr) (hc : NC A w0 la ba da ta pa ln D lev bef dis prev lat) (hlv : ∀ x ∈ S, lev k < x.lv) (hk : k < ln)
    (hw : NW A w0 b v0 v1 v2 v3 x1 x2 g (ln + 1) nds (chain (bX bef) ln (newG dis D lev lat k s t :: S)).1 (chain (bX bef) ln (newG dis D lev lat k s t :: S)).2 (fun q => if q = k + 1 then nxt lev bef prev (k + 1) else if q ≤ k then nxt lev bef prev q else 0) stv' (stk (bX bef) ln (newG dis D lev lat k s t :: S)) W) :
    NInv A w0 b v0 v1 v2 v3 x1 x2 g ln D lev bef dis prev stv' (k + 1) W := by
  have hst := h.pushed hc hlv hk
  obtain ⟨-, hi, hsf, hl1, hl⟩ := h
  refine ⟨_, nds, ?_, hst, hsf, ?_, by simp; omega⟩
  · have e : (fun q => if q = k + 1 then nxt lev bef prev (k + 1) else if q ≤ k then nxt lev bef prev q else 0) = (fun q => if q ≤ k + 1 then nxt lev bef prev q else 0) := by
      funext q
      by_cases e1 : q = k + 1
      · rw [if_pos e1, if_pos (by omega), e1]
      · rw [if_neg e1]
        by_cases e2 : q ≤ k
        · rw [if_pos e2, if_pos (by omega)]
        · rw [if_neg e2, if_neg (by omega)]
    rw [← e]
    exact hw
  · simp only [List.length_cons, Nat.add_mul] at hl1 ⊢
    omega
end
end Go.Proofs.Qxb6614303a
