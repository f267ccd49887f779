/-
  Seat b6605748a. ZZvaluesOfRules (9): the caller that collects.
-/
import Derived.Maps.AppendAt
import Derived.Test.Qxb6605748aSeq
namespace Go.Proofs.Qxb6605748a
open Go.RowKit Go.Shelf

attribute [local go_sem] Oper.semAt_some

theorem info30 : (Try.prog.info? 30).map (fun i => (i.zero, i.size, i.bytes)) = some (some (.slice none 0 0), 1, 24) := by kernel_rfl

theorem run_eql_func_nil {P : Program} (w : World) (t : TypeId) (ps rs : Array TypeId) (v : Bool) (g : Fn) (x y : Array Value) (h : P.underlying t = some (.func ps rs v)) :
    (binOp .eql t (.func g x y) .nilFunc).run P w = .ok (.bool false) w := by
  have h1 : ∀ d : Nat, (Op.equalIn (d + 1) t (.func g x y) .nilFunc).run P w = .ok false w := fun d => by simp [Op.equalIn, run_underlying h]
  simp only [binOp]
  simp [Op.equal, Op.maxDepth, h1 9999]

/-- Six boxes laid one behind the other. -/
theorem six (w : World) (v1 v2 v3 v4 v5 v6 : Value) (t1 t2 t3 t4 t5 t6 : TypeId) (W : World)
    (hW : (((((w.alloc (.cells #[v1] t1)).alloc (.cells #[v2] t2)).alloc (.cells #[v3] t3)).alloc (.cells #[v4] t4)).alloc (.cells #[v5] t5)).alloc (.cells #[v6] t6) = W) :
    Boxed W w.heap.size t1 v1 ∧ Boxed W (w.heap.size + 1) t2 v2 ∧ Boxed W (w.heap.size + 1 + 1) t3 v3 ∧ Boxed W (w.heap.size + 1 + 1 + 1) t4 v4 ∧ Boxed W (w.heap.size + 1 + 1 + 1 + 1) t5 v5 ∧
      Boxed W (w.heap.size + 1 + 1 + 1 + 1 + 1) t6 v6 ∧ W.heap.size = w.heap.size + 6 ∧ Below w.heap.size w W := by
  subst hW
  have B1 := Boxed.new w t1 v1
  have B2 := Boxed.new (w.alloc (.cells #[v1] t1)) t2 v2
  have B3 := Boxed.new ((w.alloc (.cells #[v1] t1)).alloc (.cells #[v2] t2)) t3 v3
  have B4 := Boxed.new (((w.alloc (.cells #[v1] t1)).alloc (.cells #[v2] t2)).alloc (.cells #[v3] t3)) t4 v4
  have B5 := Boxed.new ((((w.alloc (.cells #[v1] t1)).alloc (.cells #[v2] t2)).alloc (.cells #[v3] t3)).alloc (.cells #[v4] t4)) t5 v5
  have B6 := Boxed.new (((((w.alloc (.cells #[v1] t1)).alloc (.cells #[v2] t2)).alloc (.cells #[v3] t3)).alloc (.cells #[v4] t4)).alloc (.cells #[v5] t5)) t6 v6
  simp only [World.size_alloc] at B2 B3 B4 B5 B6
  exact ⟨((((B1.alloc _).alloc _).alloc _).alloc _).alloc _, (((B2.alloc _).alloc _).alloc _).alloc _, ((B3.alloc _).alloc _).alloc _, (B4.alloc _).alloc _, B5.alloc _, B6, by simp,
    ((((((Below.refl _ w).alloc (Nat.le_refl _) _).alloc (by simp) _).alloc (by simp; omega) _).alloc (by simp; omega) _).alloc (by simp; omega) _).alloc (by simp; omega) _⟩

theorem ownsRow_base {W : World} {b b' : Nat} {e : TypeId} {size : Nat} {v : Value} {k : Nat} {xs : List Value} (h : W.ownsRow b e size v k xs) (hb : b' ≤ b) : W.ownsRow b' e size v k xs := by
  refine ⟨h.1, ?_⟩
  rcases h.2 with h | ⟨g, cap, cur, h1, h2, h3⟩
  · exact .inl h
  · exact .inr ⟨g, cap, cur, h1, Nat.le_trans hb h2, h3⟩

theorem boxed_below {W W' : World} {n B : Nat} {t : TypeId} {v : Value} (h : Boxed W B t v) (hb : Below n W W') (hlt : B < n) : Boxed W' B t v := (hb.block B hlt).trans h

/-- What the collecting round keeps for the iterator: an append into the variable's box. -/
theorem kept_append {W w1 : World} {n₀ l : Nat} {v v' : Value} {k m : Nat} {xs ys : List Value} {tmp : Obj}
    (hv : Boxed W n₀ 22 v) (hrow : W.ownsRow n₀ 30 1 v k xs) (hgrow : (W.alloc tmp).grownBy w1 v.ownBlock) (hown' : w1.ownsRow n₀ 30 1 v' m ys) : Kept n₀ l W (w1.setCell ⟨n₀, 0, none⟩ v') := by
  obtain ⟨hv1, hv2, hr2, hk2, hb2⟩ := hv.appended (by decide) hrow (Nat.le_of_lt hv.lt) (Nat.le_refl _) hown' hgrow
  refine ⟨hb2, hk2.from _, fun B u hB => ?_⟩
  have h1 : Boxed w1 B 42 u := (hB.alloc tmp).kept hgrow (hB.not_row (by decide) hrow)
  refine h1.other (fun e => ?_) v'
  subst e
  have := (show W.heap[B]? = _ from hB).symm.trans hv
  simp at this

theorem kept_trans {n₀ l : Nat} {A B C : World} (h : Kept n₀ l A B) (k : Kept n₀ l B C) : Kept n₀ l A C :=
  ⟨h.below.trans k.below, h.others.trans k.others, fun b v hb => k.yields b v (h.yields b v hb)⟩

theorem kept_put {n₀ l : Nat} (hl : n₀ ≤ l) (W : World) (o o' : Obj) (h : W.heap[l]? = some o) (hc : o.isCells = false) : Kept n₀ l W (W.putObj l o') :=
  ⟨(Below.refl n₀ W).grown (grownBy_putObj' W l o') (by have := (Array.getElem?_eq_some_iff.1 h).1; omega) (fun k e => by cases e; omega),
   KeepsFrom.of_grownBy (grownBy_putObj' W l o') (fun j e => by cases e; omega),
   fun B v hB => hB.kept (grownBy_putObj' W l o') (fun e => by cases e; rw [show W.heap[l]? = _ from hB] at h; cases h; cases hc)⟩

theorem kept_refl {n₀ l : Nat} (W : World) : Kept n₀ l W W := ⟨Below.refl _ _, KeepsFrom.refl _ _, fun _ _ h => h⟩

theorem zz_end {w W2 : World} {v : Value} {k D : Nat} {xs : List Value} (hB : Below w.heap.size w W2) (hrow : W2.ownsRow (w.heap.size + 1 + 1 + 1 + 1 + 1) 30 1 v k xs) (hK : W2.heap[D]? = some (.deferred (some [])))
    (hD : w.heap.size ≤ D) (nq : Nat) : ((W2.drewN nq).putObj D (.deferred none)).ownsRow w.heap.size 30 1 v k xs ∧ Below w.heap.size w ((W2.drewN nq).putObj D (.deferred none)) := by
  have hB' : Below w.heap.size w (W2.drewN nq) := ⟨hB.os, hB.tape, hB.output, hB.size, hB.block⟩
  have hr' : (W2.drewN nq).ownsRow (w.heap.size + 1 + 1 + 1 + 1 + 1) 30 1 v k xs := hrow
  exact ⟨ownsRow_base (ownsRow_putObj hr' _ (show (W2.drewN nq).heap[D]? = _ from hK) rfl) (by omega), hB'.trans (belowK_b (w := w) (Nat.le_refl _) _ D _ _ hD (show (W2.drewN nq).heap[D]? = _ from hK) rfl rfl)⟩

/-- What the collector's own cells say when k have come. -/
def Got (w : World) (lim : Int) (row : Nat → Value) (k : Nat) (W : World) : Prop :=
  ((∃ v, Boxed W (w.heap.size + 1 + 1 + 1 + 1 + 1) 22 v ∧ W.ownsRow (w.heap.size + 1 + 1 + 1 + 1 + 1) 30 1 v k ((List.range k).map row) ∧ True) ∧ Boxed W (w.heap.size + 1 + 1) 3 (.int .i64 lim)) ∧ Below w.heap.size w W

theorem got_own (w : World) (lim : Int) (row : Nat → Value) {B : Nat} (hB : w.heap.size ≤ B) : OwnFrom B (Got w lim row) :=
  OwnFrom.and (OwnFrom.and (Own.from (holdsRow_own _ _ 22 30 1 (fun k => k) (fun k => (List.range k).map row) (fun _ _ => True)) _) (Own.from (boxed_own _ _ _) _)) (ownFrom_below (Nat.le_refl _) hB)

theorem got_turn {w : World} {lim : Int} {row : Nat → Value} {k : Nat} {A B : World} (h : Got w lim row k A) (hT : Turn (w.heap.size + 1 + 1 + 1) A B) : Got w lim row k B := by
  obtain ⟨u, rfl⟩ := hT
  obtain ⟨⟨⟨v, h1, h2, _⟩, h3⟩, h4⟩ := h
  exact ⟨⟨⟨v, h1.other (by omega) u, ownsRow_setCell_below h2 (by simp) u, trivial⟩, h3.other (by omega) u⟩, h4.setCell (by simp; omega) u⟩

set_option maxRecDepth 100000 in
set_option maxHeartbeats 1000000 in
theorem zz_in (a0 a1 : Option Addr) (c0 c1 N : Nat) (lim : Int) (row : Nat → Value) (zs : Nat → Int) (w : World) (hN : N ≤ 65536)
    (hv : (N = 0 ∧ a0 = none ∧ c0 = 0) ∨ ∃ bv, bv < w.heap.size ∧ a0 = some ⟨bv, 0, none⟩ ∧ ∀ j, j < N → w.cell? ⟨bv, j, none⟩ = some (row j))
    (ha : 0 < N → ∃ ba, ba < w.heap.size ∧ a1 = some ⟨ba, 0, none⟩ ∧ ∀ j, j < N → w.cell? ⟨ba, j, none⟩ = some (.int .i64 (zs j)))
    (hs : ∀ j, j < N → ∃ a n c, row j = .slice a n c) :
    CallsIn Fence.wide 0 Try.prog 9 #[.slice a0 N c0, .slice a1 N c1, .int .i64 lim] w fun e W' => ∃ (v : Value) (K : Nat), e = .returned (.tuple #[v, .int .i64 K, .bool false]) ∧
      ((1 ≤ lim ∧ lim < N ∧ (K : Int) = lim) ∨ (¬ (1 ≤ lim ∧ lim < N) ∧ K = N)) ∧ W'.ownsRow w.heap.size 30 1 v K ((List.range K).map row) ∧ Below w.heap.size w W' := by
  obtain ⟨i0, hi, hz0, hz1, hz2⟩ := info_parts info30
  refine callsIn_of_wp_marks Try.func9 rfl trivial ?_ rfl
  simp only [Try.ntmps9, List.size_toArray, List.length_cons, List.length_nil, Nat.reduceAdd, Nat.reduceSub, Array.replicate_succ, Array.replicate_zero, List.push_toArray, List.append_toArray, List.nil_append, List.cons_append]
  have HV : Hid _ := hv
  have HA : Hid _ := ha
  have HS : Hid _ := hs
  clear hv ha hs
  have qf : ∀ (w : World) (x y : Array Value) (g : Fn), (binOp .eql 38 (.func g x y) .nilFunc).run Try.prog w = .ok (.bool false) w := fun w x y g => run_eql_func_nil w _ _ _ _ g x y Try.underlying38
  gi_wp2_with (refine ⟨trivial, rfl, ?_⟩; gi_at_call 14; refine (values_in _ _ _ _ rfl _).mono ?_; rintro e w' ⟨rfl, rfl⟩)
  clear qf
  obtain ⟨W0, hW0⟩ : ∃ W0, (((((w.alloc (.cells #[.slice a0 N c0] 22)).alloc (.cells #[.slice a1 N c1] 23)).alloc (.cells #[.int .i64 lim] 3)).alloc (.cells #[.int .i64 0] 3)).alloc (.cells #[.func (.func 13) #[] #[.pointer (some ⟨w.heap.size, 0, none⟩), .pointer (some ⟨w.heap.size + 1 + 1 + 1, 0, none⟩), .pointer (some ⟨w.heap.size + 1, 0, none⟩)]] 41)).alloc (.cells #[.slice none 0 0] 22) = W0 := ⟨_, rfl⟩
  rw [hW0]
  obtain ⟨b0, b1, b2, b3, b4, b5, hsz, hB0⟩ := six w _ _ _ _ _ _ _ _ _ _ _ _ W0 hW0
  clear hW0
  have hsrc : Source (w.heap.size + 1 + 1 + 1 + 1 + 1) w.heap.size (w.heap.size + 1) (w.heap.size + 1 + 1 + 1) N row zs W0 := by
    refine ⟨hN, by omega, by omega, by omega, by omega, by omega, by omega, b3, ?_, ?_, HS.out⟩
    · rcases HV.out with ⟨rfl, rfl, rfl⟩ | ⟨bv, hbv, rfl, hc⟩
      · exact .inl ⟨rfl, b0.cell⟩
      · exact .inr ⟨bv, c0, by omega, by omega, b0.cell, fun j hj => (hB0.cell (p := ⟨bv, j, none⟩) hbv).trans (hc j hj)⟩
    · intro h0
      obtain ⟨ba, hba, rfl, hc⟩ := HA.out h0
      exact ⟨ba, c1, by omega, by omega, b1.cell, fun j hj => (hB0.cell (p := ⟨ba, j, none⟩) hba).trans (hc j hj)⟩
  refine wpIn_rangeFunc_iter (gf := 15) (lb := #[.pointer (some ⟨w.heap.size + 1 + 1 + 1 + 1, 0, none⟩)]) rfl (enters_of Try.func15 (by kernel_rfl) rfl)
    (vals_iter hsrc (by omega) b4.cell) (fun h k => kept_trans h k) (fun W' o o' ho hc => kept_put (by omega) W' o o' ho hc)
    (Below.refl _ _) (fun _ => rfl)
    (fun A B k o hT ho hc => by obtain ⟨v, rfl⟩ := hT; exact (KeepsOthers.setCell A _ v).same k o ho hc)
    (fun k W' => ¬ (1 ≤ lim ∧ lim ≤ k) ∧ Got w lim row k W')
    (fun c k W' => (c = .exit 0 ∧ 1 ≤ lim ∧ lim = k) ∧ Got w lim row k W')
    (OwnFrom.and (ownFrom_pure _ _) (got_own w lim row (by omega)))
    (fun c => OwnFrom.and (ownFrom_pure _ _) (got_own w lim row (by omega)))
    (count_own _ _)
    (fun k A B hs hT => ⟨hs.1, got_turn hs.2 hT⟩)
    ⟨by omega, ⟨⟨_, b5, World.ownsRow_nil _ _ _ _, trivial⟩, b2⟩, hB0⟩
    (fun k a' W' => ∃ ra rn rc, row k = .slice ra rn rc ∧ a' = { tmps := #[.slice a0 N c0, .slice a1 N c1, .int .i64 lim, .pointer (some ⟨w.heap.size, 0, none⟩), .pointer (some ⟨w.heap.size + 1, 0, none⟩), .pointer (some ⟨w.heap.size + 1 + 1, 0, none⟩), .slice none 0 0, .int .i64 0, .bool false, .pointer (some ⟨w.heap.size + 1 + 1 + 1, 0, none⟩),
      .func (.func 13) #[] #[.pointer (some ⟨w.heap.size, 0, none⟩), .pointer (some ⟨w.heap.size + 1 + 1 + 1, 0, none⟩), .pointer (some ⟨w.heap.size + 1, 0, none⟩)], .func (.func 15) #[] #[.pointer (some ⟨w.heap.size + 1 + 1 + 1 + 1, 0, none⟩)], .pointer (some ⟨w.heap.size + 1 + 1 + 1 + 1 + 1, 0, none⟩), .slice ra rn rc,
      .func (.func 13) #[] #[.pointer (some ⟨w.heap.size, 0, none⟩), .pointer (some ⟨w.heap.size + 1 + 1 + 1, 0, none⟩), .pointer (some ⟨w.heap.size + 1, 0, none⟩)], .func (.func 13) #[] #[.pointer (some ⟨w.heap.size, 0, none⟩), .pointer (some ⟨w.heap.size + 1 + 1 + 1, 0, none⟩), .pointer (some ⟨w.heap.size + 1, 0, none⟩)],
      .func (.func 15) #[] #[.pointer (some ⟨w.heap.size + 1 + 1 + 1 + 1, 0, none⟩)], .func (.func 15) #[] #[.pointer (some ⟨w.heap.size + 1 + 1 + 1 + 1, 0, none⟩)], .bool false, undef, .func (.func 15) #[] #[.pointer (some ⟨w.heap.size + 1 + 1 + 1 + 1, 0, none⟩)], .slice ra rn rc, undef, undef, undef, undef, undef, undef, undef, undef, undef, undef], defers := [] })
    (fun k a' _ X Y row' hs hg hr => hs)
    ?assign ?body ?done ?stop
  case assign =>
    rintro l2 k W2 K hk hi hK
    obtain ⟨ra, rn, rc, hre⟩ := HS.out k hk
    simp only [hre] at hK ⊢
    gi_wp2
    exact hK _ _ (KeepsFrom.refl _ _) (kept_refl _) hi ⟨ra, rn, rc, rfl, rfl⟩
  case body =>
    rintro l2 k a' W2 hk ⟨hlm, ⟨⟨v, hv, hrow, _⟩, hlb⟩, hB2⟩ ⟨ra, rn, rc, hre, rfl⟩
    have c1 := hv.cell
    have c2 := hlb.cell
    have hlt5 := hv.lt
    have hre' : Hid _ := hre
    have hlm' : Hid _ := hlm
    clear hre hlm
    by_cases hq : (k : Int) + 1 = lim
    · have hqb : (((k : Int) + 1) == lim) = true := by simp [hq]
      have hq' : Hid _ := hq
      clear hq
      gi_wp2_with (gi_at_builtin; refine wpListIn_append_own _ rfl _ _ 22 rfl (w.heap.size + 1 + 1 + 1 + 1 + 1) 30 i0 (.slice none 0 0) 1 24 Try.underlying22 hi hz0 hz1 hz2 rfl (by decide) _ _ _ rfl (hrow.alloc _) ⟨W2.heap.size, 0, none⟩ 1 1 [.slice ra rn rc] rfl rfl (cell_one_new _ _ _) (by simp [Value.oneCell']) (by unfold maxLen; omega) (by omega) (by simp; omega) ?_; intro v' w1 hown' hgrow _; obtain ⟨g', cap', rfl⟩ := ownsRow_succ hown'; obtain ⟨hv1, hv2, hr2, hk2, hb2⟩ := hv.appended (by decide) hrow (Nat.le_of_lt hv.lt) (Nat.le_refl _) hown' hgrow; have hkp := kept_append (l := W0.heap.size + 1) hv hrow hgrow hown'; have hc1 := hv1.cell; have hf1 := hv1.frozen; have c3 := hv2.cell; have c4 := (hb2.cell (p := ⟨w.heap.size + 1 + 1, 0, none⟩) (by simp)).trans c2)
      obtain hreo := hre'.out
      exact ⟨hk2.from _, hkp, ⟨rfl, by have := hq'.out; omega, by have := hq'.out; omega⟩, ⟨⟨_, hv2, by rw [List.range_succ, List.map_append, List.map_singleton, hreo]; exact hr2, trivial⟩, (boxed_below hlb hb2 (by omega))⟩, hB2.trans (hb2.mono (by omega))⟩
    · have hqb : (((k : Int) + 1) == lim) = false := by simp [hq]
      have hq' : Hid _ := hq
      clear hq
      gi_wp2_with (gi_at_builtin; refine wpListIn_append_own _ rfl _ _ 22 rfl (w.heap.size + 1 + 1 + 1 + 1 + 1) 30 i0 (.slice none 0 0) 1 24 Try.underlying22 hi hz0 hz1 hz2 rfl (by decide) _ _ _ rfl (hrow.alloc _) ⟨W2.heap.size, 0, none⟩ 1 1 [.slice ra rn rc] rfl rfl (cell_one_new _ _ _) (by simp [Value.oneCell']) (by unfold maxLen; omega) (by omega) (by simp; omega) ?_; intro v' w1 hown' hgrow _; obtain ⟨g', cap', rfl⟩ := ownsRow_succ hown'; obtain ⟨hv1, hv2, hr2, hk2, hb2⟩ := hv.appended (by decide) hrow (Nat.le_of_lt hv.lt) (Nat.le_refl _) hown' hgrow; have hkp := kept_append (l := W0.heap.size + 1) hv hrow hgrow hown'; have hc1 := hv1.cell; have hf1 := hv1.frozen; have c3 := hv2.cell; have c4 := (hb2.cell (p := ⟨w.heap.size + 1 + 1, 0, none⟩) (by simp)).trans c2)
      obtain hreo := hre'.out
      exact ⟨hk2.from _, hkp, by have h1 : ¬ ((k : Int) + 1 = lim) := hq'.out; have h2 : ¬ (1 ≤ lim ∧ lim ≤ (k : Int)) := hlm'.out; rw [Int.natCast_add]; omega, ⟨⟨_, hv2, by rw [List.range_succ, List.map_append, List.map_singleton, hreo]; exact hr2, trivial⟩, (boxed_below hlb hb2 (by omega))⟩, hB2.trans (hb2.mono (by omega))⟩
  case done =>
    rintro D W2 hD ⟨hlm, ⟨⟨v, hv, hrow, _⟩, hlb⟩, hB2⟩ hZ hK
    have c1 := hv.cell
    have c2 := (show Boxed _ _ _ _ from hZ).cell
    gi_wp2
    gi_quiet (fail)
    gi_wp2
    refine ⟨by simp, .inl ⟨_, _, rfl, run_takeDeferred (show (W2.drewN nq).heap[D]? = _ from hK), ?_⟩⟩
    exact ⟨_, by simp [results, Try.results9, go_sem], v, N, rfl, .inr ⟨by omega, rfl⟩, zz_end hB2 hrow hK (by omega) nq⟩
  case stop =>
    rintro D c k W2 hD hk ⟨⟨rfl, hl1, hl2⟩, ⟨⟨v, hv, hrow, _⟩, hlb⟩, hB2⟩ hZ hK
    have c1 := hv.cell
    have c2 := (show Boxed _ _ _ _ from hZ).cell
    have hl2' : Hid _ := hl2
    clear hl2
    gi_wp2
    gi_quiet (fail)
    gi_wp2
    refine ⟨by simp, .inl ⟨_, _, rfl, run_takeDeferred (show (W2.drewN nq).heap[D]? = _ from hK), ?_⟩⟩
    exact ⟨_, by simp [results, Try.results9, go_sem], v, k, rfl, by have h2 : lim = (k : Int) := hl2'.out; omega, zz_end hB2 hrow hK (by omega) nq⟩

end Go.Proofs.Qxb6605748a
