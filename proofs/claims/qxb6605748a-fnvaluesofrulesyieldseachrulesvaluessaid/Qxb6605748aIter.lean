/-
  Seat b6605748a. A law for 'for x := range seq { .. }' over an iterator that keeps a counter of its own in a captured cell, and whose rounds may be another loop's rounds.
  'Iter': the iterator's word: it hands out enc 0, .., enc (N - 1), one by one; T: what it does to a cell of its own between two rounds; Kp: what each round must keep, whichever way it ends; Z k: what its own cell says when k have come.
-/
import Derived.RangeFuncNested
import Derived.RangeFuncLeaves
namespace Go.Proofs.Qxb6605748a
open Go.RowKit

/-- The iterator's word, at the wide fence. -/
def Iter (P : Program) (g : Nat) (lb : Array Value) (N : Nat) (enc : Nat → Array Value) (T : World → World → Prop) (Kp : Nat → World → World → Prop) (Z : Nat → World → Prop) (w0 : World) : Prop :=
  ∀ (l : Nat) (J Jx : Nat → World → Prop) (W : World), Below w0.heap.size w0 W → l < W.heap.size → OwnFrom W.heap.size J → OwnFrom W.heap.size Jx → (∀ k A B, J k A → T A B → J k B) →
    (∀ k W1, k < N → J k W1 → YieldAt Fence.wide 0 P l (enc k) W1 fun e W' => Kp l W1 W' ∧ ((e = .returned (.bool true) ∧ J (k + 1) W') ∨ (e = .returned (.bool false) ∧ Jx (k + 1) W'))) →
    J 0 W →
    CallsIn Fence.wide 0 P g (#[.func (.yield l) #[] #[]] ++ lb) W fun e W' => (∃ v, e = .returned v) ∧ ((J N W' ∧ Z N W') ∨ ∃ k, k ≤ N ∧ Jx k W' ∧ Z k W')

/-- How the body of a round may be left. -/
def roundEnds (B : Nat) (Kp : World → World → Prop) (I : Nat → World → Prop) (Ix : Code → Nat → World → Prop) (k : Nat) (W : World) : Exit → Act → World → Prop
  | .normal, _, W' => KeepsFrom B W W' ∧ Kp W W' ∧ I k W'
  | .ret, _, W' => KeepsFrom B W W' ∧ Kp W W' ∧ Ix .ret k W'
  | .exit id, _, W' => KeepsFrom B W W' ∧ Kp W W' ∧ Ix (.exit id) k W'
  | .goto t, _, W' => KeepsFrom B W W' ∧ Kp W W' ∧ Ix (.goto t) k W'
  | .panic _, _, _ => False
  | .outgrown, _, _ => False

variable {P : Program}

theorem wpIn_rangeFunc_iter {g : Operand} {ps : Array Tmp} {assign body : Code} {Q : Exit → Act → World → Prop} {a : Act} {w : World}
    {gf : Nat} {lb : Array Value} (hg : a.eval g = .func (.func gf) #[] lb) (eg : ∀ args w, (callFunc gf args).run P w = .ok (.enter gf args) w)
    {N : Nat} {enc : Nat → Array Value} {T : World → World → Prop} {Kp : Nat → World → World → Prop} {Z : Nat → World → Prop} {w0 : World} (hseq : Iter P gf lb N enc T Kp Z w0)
    (hKt : ∀ {A B C : World}, Kp (w.heap.size + 1) A B → Kp (w.heap.size + 1) B C → Kp (w.heap.size + 1) A C) (hKb : ∀ (W : World) (o o' : Obj), W.heap[w.heap.size + 1]? = some o → o.isCells = false → Kp (w.heap.size + 1) W (W.putObj (w.heap.size + 1) o'))
    (hb0 : Below w0.heap.size w0 w) (hps : ∀ k, (enc k).size = ps.size) (hTo : ∀ (A B : World) (k : Nat) (o : Obj), T A B → A.heap[k]? = some o → o.isCells = false → B.heap[k]? = some o)
    (I : Nat → World → Prop) (Ix : Code → Nat → World → Prop) (hI : OwnFrom w.heap.size I) (hIx : ∀ c, OwnFrom w.heap.size (Ix c)) (hZ : OwnFrom w.heap.size Z) (hIT : ∀ k A B, I k A → T A B → I k B) (h0 : I 0 w)
    (Ax : Nat → Act → World → Prop) (hAx : ∀ k a', OwnFrom w.heap.size (fun (_ : Unit) W => Ax k a' W))
    (hassign : ∀ (l k : Nat) (W : World) (K : Act → World → Prop), k < N → I k W → (∀ a' W', KeepsFrom w.heap.size W W' → Kp (w.heap.size + 1) W W' → I k W' → Ax k a' W' → K a' W') →
      assign.wpIn (Fence.wide.inRound l) 0 P (Exit.then K (fun _ _ _ => False)) { tmps := (ps.zip (enc k)).foldl (fun t (p, v) => t.setIfInBounds p v) a.tmps, defers := [] } W)
    (hbody : ∀ (l k : Nat) (a' : Act) (W : World), k < N → I k W → Ax k a' W → body.wpIn (Fence.wide.inRound l) 0 P (roundEnds w.heap.size (Kp (w.heap.size + 1)) I Ix (k + 1) W) a' W)
    (hdone : ∀ (D : Nat) (W : World), w.heap.size ≤ D → I N W → Z N W → W.heap[D]? = some (.deferred (some [])) → Q .normal { a with defers := { target := .collected D, args := #[] } :: a.defers } W)
    (hstop : ∀ (D : Nat) (c : Code) (k : Nat) (W : World), w.heap.size ≤ D → k ≤ N → Ix c k W → Z k W → W.heap[D]? = some (.deferred (some [])) → c.wpIn Fence.wide 0 P Q { a with defers := { target := .collected D, args := #[] } :: a.defers } W) :
    (Code.rangeFunc g ps assign body).wpIn Fence.wide 0 P Q a w := by
  refine wpIn_rangeFunc ?_
  intro fn hfn
  rw [show Fence.wide.round = none from rfl]
  obtain ⟨rec, hrec⟩ : ∃ rec : LoopState → Option Code → Loop, rec = fun st pe => { state := st, pending := pe, fn, tmps := a.tmps, params := ps, assign, body, defers := w.heap.size } := ⟨_, rfl⟩
  obtain ⟨W1, hW1⟩ : ∃ W1, (w.alloc (.deferred (some []))).alloc (.loop (rec .ready none)) = W1 := ⟨_, rfl⟩
  have hL1 : W1.heap[w.heap.size + 1]? = some (.loop (rec .ready none)) := by
    rw [← hW1]; have := World.alloc_heap_new (w.alloc (.deferred (some []))) (.loop (rec .ready none)); rwa [World.size_alloc] at this
  have hK1 : W1.heap[w.heap.size]? = some (.deferred (some [])) := by
    rw [← hW1]; exact (Below.heap_alloc _ _ _ (by simp)).trans (World.alloc_heap_new w _)
  have hI1 : I 0 W1 := by rw [← hW1]; exact hI.alloc _ (hI.alloc _ h0)
  have hz1 : W1.heap.size = w.heap.size + 2 := by rw [← hW1]; simp
  have hb1 : Below w0.heap.size w0 W1 := by
    rw [← hW1]; exact hb0.trans ((((Below.refl _ w).alloc (Nat.le_refl _) _).alloc (by simp) _).mono hb0.size)
  -- what an iterator's step, a turn of a block that is no cells and lies beyond the two that were laid here, leaves of those two
  have far : ∀ {A B : World} {row : Option Nat} {k : Nat} {o : Obj}, A.grownBy B row → (∀ r, row = some r → W1.heap.size ≤ r ∧ ∃ o : Obj, A.heap[r]? = some o ∧ o.isCells = false) → k < W1.heap.size → A.heap[k]? = some o → B.heap[k]? = some o :=
    fun hgr hr hk ho => (hgr.block _ (Array.getElem?_eq_some_iff.1 ho).1 (fun e => by have := (hr _ e.symm).1; omega)).trans ho
  have near : ∀ {A : World} {row : Option Nat}, (∀ r, row = some r → W1.heap.size ≤ r ∧ ∃ o : Obj, A.heap[r]? = some o ∧ o.isCells = false) → (∀ r, row = some r → w.heap.size ≤ r ∧ ∃ o : Obj, A.heap[r]? = some o ∧ o.isCells = false) :=
    fun hr r e => ⟨by have := (hr r e).1; omega, (hr r e).2⟩
  refine ⟨w.heap.size + 1, [{ target := .collected w.heap.size, args := #[] }], W1, { target := .fn (.func gf) lb, args := #[.func (.yield (w.heap.size + 1)) #[] #[]] }, W1, gf,
    #[.func (.yield (w.heap.size + 1)) #[] #[]] ++ lb, W1, ?_, ?_, ?_, ?_, fun h => by simp [Fence.wide] at h, ?_⟩
  · rw [← hW1, hrec]; exact run_enterLoop_outer _ _ _ _ _
  · simp only [resolve, hg]
    simp [go_sem]
  · intro f' _; exact trivial
  · simp [invoke, go_sem, eg]
  · refine (hseq (w.heap.size + 1)
      (fun k W => I k W ∧ W.heap[w.heap.size + 1]? = some (.loop (rec .ready none)) ∧ W.heap[w.heap.size]? = some (.deferred (some [])))
      (fun k W => ∃ c, Ix c k W ∧ W.heap[w.heap.size + 1]? = some (.loop (rec .done (some c))) ∧ W.heap[w.heap.size]? = some (.deferred (some [])))
      W1 hb1 (by omega)
      (fun s A B row hs hg' hr => ⟨hI s A B row hs.1 hg' (near hr), far hg' hr (by omega) hs.2.1, far hg' hr (by omega) hs.2.2⟩)
      (fun s A B row hs hg' hr => by
        obtain ⟨c, hc, hl, hk⟩ := hs
        exact ⟨c, hIx c s A B row hc hg' (near hr), far hg' hr (by omega) hl, far hg' hr (by omega) hk⟩)
      (fun k A B hs hT => ⟨hIT k A B hs.1 hT, hTo A B _ _ hT hs.2.1 rfl, hTo A B _ _ hT hs.2.2 rfl⟩)
      ?_ ⟨hI1, hL1, hK1⟩).mono ?_
    · rintro k W hkN ⟨hi, hl, hk⟩
      have hy := run_yield (P := P) (args := enc k) hl (by rw [hrec]; exact hps k)
      rw [hrec] at hy
      refine ⟨fn, _, assign, body, hy, roundIn_of_wpIn hfn (hassign _ k W _ hkN hi ?_)⟩
      clear hy
      intro a' Wa hkfa hkpa hia hax
      have hla := hkfa.same _ _ (by omega) hl rfl
      have hka := hkfa.same _ _ (Nat.le_refl _) hk rfl
      have hlt : w.heap.size + 1 < Wa.heap.size := (Array.getElem?_eq_some_iff.1 hla).1
      refine ⟨_, run_beginRound hla (by rw [hrec]), ?_⟩
      have hl2 : (Wa.putObj (w.heap.size + 1) (.loop { rec .ready none with state := .busy })).heap[w.heap.size + 1]? = some (.loop { rec .ready none with state := .busy }) := World.putObj_heap_same hlt
      have hk2 : (Wa.putObj (w.heap.size + 1) (.loop { rec .ready none with state := .busy })).heap[w.heap.size]? = some (.deferred (some [])) := (World.putObj_heap_other (by omega)).trans hka
      have hw2 : Kp (w.heap.size + 1) Wa (Wa.putObj (w.heap.size + 1) (.loop { rec .ready none with state := .busy })) := hKb _ _ _ hla rfl
      refine wpIn_mono (hbody _ k a' _ hkN (hI.putObj _ hia (by omega) hla rfl) ((hAx k a').putObj (s := ()) _ hax (by omega) hla rfl)) ?_
      have fin : ∀ (jump : Option Code) (W3 : World), KeepsFrom w.heap.size (Wa.putObj (w.heap.size + 1) (.loop { rec .ready none with state := .busy })) W3 →
          Kp (w.heap.size + 1) (Wa.putObj (w.heap.size + 1) (.loop { rec .ready none with state := .busy })) W3 →
          (Instr.endRound (w.heap.size + 1) jump).run P W3 = .ok (.bool jump.isNone) (W3.putObj (w.heap.size + 1) (.loop (rec (if jump.isNone then .ready else .done) jump))) ∧
          W3.heap[w.heap.size + 1]? = some (.loop { rec .ready none with state := .busy }) ∧
          (W3.putObj (w.heap.size + 1) (.loop (rec (if jump.isNone then .ready else .done) jump))).heap[w.heap.size + 1]? = some (.loop (rec (if jump.isNone then .ready else .done) jump)) ∧
          (W3.putObj (w.heap.size + 1) (.loop (rec (if jump.isNone then .ready else .done) jump))).heap[w.heap.size]? = some (.deferred (some [])) ∧
          Kp (w.heap.size + 1) W (W3.putObj (w.heap.size + 1) (.loop (rec (if jump.isNone then .ready else .done) jump))) := fun jump W3 hk3 hkp3 => by
        have hl3 := hk3.same _ _ (by omega) hl2 rfl
        have hend := run_endRound (P := P) jump hl3
        have hkp := hKt hkpa (hKt (hKt hw2 hkp3) (hKb W3 _ (.loop (rec (if jump.isNone then .ready else .done) jump)) hl3 rfl))
        rw [hrec] at hend hkp ⊢
        exact ⟨hend, by rw [hrec] at hl3; exact hl3, World.putObj_heap_same (Array.getElem?_eq_some_iff.1 hl3).1, (World.putObj_heap_other (by omega)).trans (hk3.same _ _ (Nat.le_refl _) hk2 rfl), hkp⟩
      rintro e a3 W3 hp
      cases e with
      | normal =>
        obtain ⟨hk3, hkp3, hi3⟩ := hp
        obtain ⟨hr, hl3, hl4, hk4, hkp⟩ := fin none W3 hk3 hkp3
        exact ⟨_, _, hr, hkp, .inl ⟨rfl, hI.putObj _ hi3 (by omega) hl3 rfl, hl4, hk4⟩⟩
      | ret =>
        obtain ⟨hk3, hkp3, hi3⟩ := hp
        obtain ⟨hr, hl3, hl4, hk4, hkp⟩ := fin (some .ret) W3 hk3 hkp3
        exact ⟨_, _, hr, hkp, .inr ⟨rfl, .ret, (hIx _).putObj _ hi3 (by omega) hl3 rfl, hl4, hk4⟩⟩
      | exit id =>
        obtain ⟨hk3, hkp3, hi3⟩ := hp
        obtain ⟨hr, hl3, hl4, hk4, hkp⟩ := fin (some (.exit id)) W3 hk3 hkp3
        exact ⟨_, _, hr, hkp, .inr ⟨rfl, .exit id, (hIx _).putObj _ hi3 (by omega) hl3 rfl, hl4, hk4⟩⟩
      | goto t =>
        obtain ⟨hk3, hkp3, hi3⟩ := hp
        obtain ⟨hr, hl3, hl4, hk4, hkp⟩ := fin (some (.goto t)) W3 hk3 hkp3
        exact ⟨_, _, hr, hkp, .inr ⟨rfl, .goto t, (hIx _).putObj _ hi3 (by omega) hl3 rfl, hl4, hk4⟩⟩
      | panic ch => exact hp.elim
      | outgrown => exact hp.elim
    · rintro e W2 ⟨⟨v, rfl⟩, (⟨⟨hi, hl, hk⟩, hz⟩ | ⟨k, hkN, ⟨c, hi, hl, hk⟩, hz⟩)⟩
      · exact ⟨none, _, by have := run_endLoop (P := P) hl (by rw [hrec]; simp); rw [hrec] at this; exact this, hdone _ _ (Nat.le_refl _) (hI.putObj _ hi (by omega) hl rfl) (hZ.putObj _ hz (by omega) hl rfl) ((World.putObj_heap_other (by omega)).trans hk)⟩
      · exact ⟨some c, _, by have := run_endLoop (P := P) hl (by rw [hrec]; simp); rw [hrec] at this; exact this, hstop _ c k _ (Nat.le_refl _) hkN ((hIx c).putObj _ hi (by omega) hl rfl) (hZ.putObj _ hz (by omega) hl rfl) ((World.putObj_heap_other (by omega)).trans hk)⟩

end Go.Proofs.Qxb6605748a
