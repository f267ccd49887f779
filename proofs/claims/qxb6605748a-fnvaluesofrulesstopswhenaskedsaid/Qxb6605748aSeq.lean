/-
  Seat b6605748a. The sequence of rules as an iterator; valuesOfRules (14) and its closure (15): an iterator over an iterator.
-/
import Derived.Test.Qxb6605748aSrc
namespace Go.Proofs.Qxb6605748a
open Go.RowKit Go.Shelf

attribute [local go_sem] Oper.semAt_some

theorem grownBy_drew (W : World) : W.grownBy W.drew none := ⟨rfl, rfl, rfl, Nat.le_refl _, fun _ _ _ => rfl⟩

theorem cell_up {W : World} {a : Addr} {v : Value} (o : Obj) (h : W.cell? a = some v) : (W.alloc o).cell? a = some v := (World.grownBy_alloc W o none).cell h (by simp)

theorem ownFrom_mono {β : Type} {B B' : Nat} {I : β → World → Prop} (h : OwnFrom B I) (hB : B ≤ B') : OwnFrom B' I :=
  fun s X Y row hs hg hr => h s X Y row hs hg (fun r e => ⟨Nat.le_trans hB (hr r e).1, (hr r e).2⟩)

theorem keepsFrom_mono {B B' : Nat} {X Y : World} (h : KeepsFrom B X Y) (hB : B ≤ B') : KeepsFrom B' X Y :=
  ⟨h.size, fun k o hk => h.same k o (Nat.le_trans hB hk)⟩

theorem count_own (bp B : Nat) : OwnFrom B (Count bp) := Own.from (boxed_own bp 3 (fun k : Nat => Value.int .i64 (k : Int))) B

/-- What the source of rules finds in memory. -/
structure Source (n₀ Bv Ba bp N : Nat) (row : Nat → Value) (zs : Nat → Int) (w : World) : Prop where
  hN : N ≤ 65536
  n0 : n₀ ≤ w.heap.size
  hBv : Bv < n₀
  hBa : Ba < n₀
  hbp : bp < n₀
  nBv : Bv ≠ bp
  nBa : Ba ≠ bp
  cp : Count bp 0 w
  rows : (N = 0 ∧ w.cell? ⟨Bv, 0, none⟩ = some (.slice none 0 0)) ∨ ∃ bv cv, bv < n₀ ∧ bv ≠ bp ∧ w.cell? ⟨Bv, 0, none⟩ = some (.slice (some ⟨bv, 0, none⟩) N cv) ∧ ∀ j, j < N → w.cell? ⟨bv, j, none⟩ = some (row j)
  adds : 0 < N → ∃ ba ca, ba < n₀ ∧ ba ≠ bp ∧ w.cell? ⟨Ba, 0, none⟩ = some (.slice (some ⟨ba, 0, none⟩) N ca) ∧ ∀ j, j < N → w.cell? ⟨ba, j, none⟩ = some (.int .i64 (zs j))
  slices : ∀ j, j < N → ∃ a n c, row j = .slice a n c

set_option maxRecDepth 100000 in
set_option maxHeartbeats 1000000 in
theorem src_nil_in (l Bv Ba bp : Nat) (J : Nat → World → Prop) (W : World) (cBv : W.cell? ⟨Bv, 0, none⟩ = some (.slice none 0 0)) (cbp : Count bp 0 W) (h0 : J 0 W) :
    CallsIn Fence.wide 0 Try.prog 13 #[.func (.yield l) #[] #[], .pointer (some ⟨Bv, 0, none⟩), .pointer (some ⟨bp, 0, none⟩), .pointer (some ⟨Ba, 0, none⟩)] W fun e W' => (∃ v, e = .returned v) ∧ J 0 W' ∧ Count bp 0 W' := by
  refine callsIn_of_wp Try.func13 rfl trivial ?_ rfl
  simp only [Try.ntmps13, List.size_toArray, List.length_cons, List.length_nil, Nat.reduceAdd, Nat.reduceSub, Array.replicate_succ, Array.replicate_zero, List.push_toArray, List.append_toArray, List.nil_append, List.cons_append]
  gi_wp2
  gi_loopw [8] (fun i wr => i = .int .i64 0 ∧ J 0 wr ∧ Count bp 0 wr) (fun _ _ => 0)
  case atStart => exact ⟨rfl, h0, cbp⟩
  case round =>
    obtain ⟨rfl, hJs, hc⟩ := hrel
    gi_wp2
    go_end0
    exact ⟨⟨_, rfl⟩, hJs, hc⟩

theorem src_iter {n₀ Bv Ba bp N : Nat} {row : Nat → Value} {zs : Nat → Int} {w0 : World} (h : Source n₀ Bv Ba bp N row zs w0) :
    Iter Try.prog 13 #[.pointer (some ⟨Bv, 0, none⟩), .pointer (some ⟨bp, 0, none⟩), .pointer (some ⟨Ba, 0, none⟩)] N (fun k => #[.agg #[row k, .int .i64 (zs k)]]) (Turn bp) (fun _ => Below n₀) (Count bp) w0 := by
  intro l J Jx W hW _ hJ _ hJT hY h0
  have hd : ∀ k (W : World), J k W → J k W.drew := fun k W h => hJ k W _ none h (grownBy_drew W) (fun _ e => by cases e)
  have lt : ∀ {b : Nat}, b < n₀ → b < w0.heap.size := fun hb => Nat.lt_of_lt_of_le hb h.n0
  have cc : ∀ {b o : Nat} {v : Value}, b < n₀ → w0.cell? ⟨b, o, none⟩ = some v → W.cell? ⟨b, o, none⟩ = some v := fun {b o v} hb hv => (hW.cell (p := ⟨b, o, none⟩) (lt hb)).trans hv
  have ck : Count bp 0 W := (hW.block bp (lt h.hbp)).trans h.cp
  rcases h.rows with ⟨rfl, hc⟩ | ⟨bv, cv, hbv, nbv, hc, hr⟩
  · exact (src_nil_in l Bv Ba bp J W (cc h.hBv hc) ck h0).mono fun e W' ⟨h1, h2, h3⟩ => ⟨h1, .inl ⟨h2, h3⟩⟩
  · by_cases hN0 : 0 < N
    · obtain ⟨ba, ca, hba, nba, hca, hz⟩ := h.adds hN0
      exact src_in l Bv Ba bp n₀ bv ba N cv ca row zs h.hN J Jx h.hBv h.hBa h.hbp hbv hba h.nBv h.nBa nbv nba hd hJT hY W (cc h.hBv hc) (fun _ => cc h.hBa hca) ck (fun j hj => cc hbv (hr j hj)) (fun j hj => cc hba (hz j hj)) h.slices h0
    · obtain rfl : N = 0 := by omega
      exact src_in l Bv Ba bp n₀ bv bv 0 cv 0 row zs h.hN J Jx h.hBv h.hBa h.hbp hbv hbv h.nBv h.nBa nbv nbv hd hJT hY W (cc h.hBv hc) (fun h => absurd h hN0) ck (fun j hj => absurd hj (by omega)) (fun j hj => absurd hj (by omega)) h.slices h0

set_option maxHeartbeats 1000000 in
/-- valuesOfRules: the sequence is boxed; the function value captures the box. -/
theorem values_in (v : Value) (g : Fn) (x y : Array Value) (hv : v = .func g x y) (w : World) :
    CallsIn Fence.wide 0 Try.prog 14 #[v] w fun e w' => e = .returned (.func (.func 15) #[] #[.pointer (some ⟨w.heap.size, 0, none⟩)]) ∧ w' = w.alloc (.cells #[v] 41) := by
  subst hv
  refine callsIn_of_wp Try.func14 rfl trivial ?_ rfl
  simp only [Try.ntmps14, List.size_toArray, List.length_cons, List.length_nil, Nat.reduceAdd, Nat.reduceSub, Array.replicate_succ, Array.replicate_zero, List.push_toArray, List.append_toArray, List.nil_append, List.cons_append]
  gi_wp2
  go_ret
  exact ⟨rfl, rfl⟩

/-- What valuesOfRules' closure wants of its caller's round. -/
structure Kept (n₀ l : Nat) (W W' : World) : Prop where
  below : Below n₀ W W'
  others : KeepsFrom (l + 1) W W'
  yields : ∀ B v, Boxed W B 42 v → Boxed W' B 42 v

set_option maxRecDepth 100000 in
set_option maxHeartbeats 1000000 in
theorem vals_iter {n₀ Bv Ba bp N Br : Nat} {row : Nat → Value} {zs : Nat → Int} {w0 : World} (h : Source n₀ Bv Ba bp N row zs w0) (hBr : Br < w0.heap.size)
    (cBr : w0.cell? ⟨Br, 0, none⟩ = some (.func (.func 13) #[] #[.pointer (some ⟨Bv, 0, none⟩), .pointer (some ⟨bp, 0, none⟩), .pointer (some ⟨Ba, 0, none⟩)])) :
    Iter Try.prog 15 #[.pointer (some ⟨Br, 0, none⟩)] N (fun k => #[row k]) (Turn bp) (Kept n₀) (Count bp) w0 := by
  intro l J Jx W hW hl hJ hJx hJT hY h0
  have cB := (hW.cell (p := ⟨Br, 0, none⟩) hBr).trans cBr
  have hn0 := Nat.le_trans h.n0 hW.size
  refine callsIn_of_wp_marks Try.func15 rfl trivial ?_ rfl
  simp only [Try.ntmps15, List.size_toArray, List.length_cons, List.length_nil, Nat.reduceAdd, Nat.reduceSub, Array.replicate_succ, Array.replicate_zero, List.push_toArray, List.append_toArray, List.nil_append, List.cons_append]
  have cB' := cell_up (.cells #[.func (.yield l) #[] #[]] 42) cB
  gi_wp2
  have bY := Boxed.new W 42 (.func (.yield l) #[] #[])
  have hz : (W.alloc (.cells #[.func (.yield l) #[] #[]] 42)).heap.size = W.heap.size + 1 := by simp
  have hbW : Below W.heap.size W (W.alloc (.cells #[.func (.yield l) #[] #[]] 42)) := (Below.refl _ W).alloc (Nat.le_refl _) _
  have h0' := hJ.alloc (.cells #[.func (.yield l) #[] #[]] 42) h0
  obtain ⟨w, hw⟩ : ∃ w, W.alloc (.cells #[.func (.yield l) #[] #[]] 42) = w := ⟨_, rfl⟩
  rw [hw] at bY hz hbW h0' ⊢
  clear hw cB' cB h0
  refine wpIn_rangeFunc_iter (gf := 13) (lb := #[.pointer (some ⟨Bv, 0, none⟩), .pointer (some ⟨bp, 0, none⟩), .pointer (some ⟨Ba, 0, none⟩)]) rfl (enters_of Try.func13 (by kernel_rfl) rfl)
    (src_iter h) (fun h k => h.trans k)
    (fun W' o o' ho hc => (Below.refl n₀ W').grown (grownBy_putObj' W' _ o') (by have := (Array.getElem?_eq_some_iff.1 ho).1; omega) (fun k e => by cases e; omega))
    (hW.trans (hbW.mono hW.size)) (fun _ => rfl)
    (fun A B k o hT ho hc => by obtain ⟨v, rfl⟩ := hT; exact (KeepsOthers.setCell A _ v).same k o ho hc)
    (fun k W' => J k W' ∧ Boxed W' W.heap.size 42 (.func (.yield l) #[] #[]))
    (fun c k W' => c = .ret ∧ Jx k W')
    (OwnFrom.and (ownFrom_mono hJ (by omega)) (Own.from (boxed_own _ _ _) _))
    (fun c => OwnFrom.and (ownFrom_pure _ _) (ownFrom_mono hJx (by omega)))
    (count_own bp _)
    (fun k A B hs hT => ⟨hJT k A B hs.1 hT, by obtain ⟨v, rfl⟩ := hT; exact hs.2.other (by have := h.hbp; omega) v⟩)
    ⟨h0', bY⟩
    (fun k a' W' => ∃ Bx, W'.heap[Bx]? = some (.cells #[row k, .int .i64 (zs k)] 35 (0, 0)) ∧ a' = { tmps := #[.func (.yield l) #[] #[], .pointer (some ⟨Br, 0, none⟩), .pointer (some ⟨W.heap.size, 0, none⟩), .pointer (some ⟨Bx, 0, none⟩), .func (.func 13) #[] #[.pointer (some ⟨Bv, 0, none⟩), .pointer (some ⟨bp, 0, none⟩), .pointer (some ⟨Ba, 0, none⟩)], .agg #[row k, .int .i64 (zs k)], undef, undef, undef, undef, undef], defers := [] })
    (fun k a' _ X Y row' hs hg hr => by
      obtain ⟨Bx, h1, h2⟩ := hs
      exact ⟨Bx, (grownBy_keeps_cells hg (fun r e => (hr r e).2) h1 rfl).trans h1, h2⟩)
    ?assign ?body ?done ?stop
  case assign =>
    rintro l2 k W2 K hk ⟨hJ2, hB2⟩ hK
    obtain ⟨ra, rn, rc, hre⟩ := h.slices k hk
    simp only [hre] at hK ⊢
    gi_wp2
    have hlt := hB2.lt
    exact hK _ _ ((KeepsOthers.alloc _ _).from _) ((Below.refl _ W2).alloc (by omega) _) ⟨hJ.alloc _ hJ2, hB2.alloc _⟩ ⟨W2.heap.size, World.alloc_heap_new W2 _, rfl⟩
  case body =>
    rintro l2 k a' W2 hk ⟨hJ2, hB2⟩ ⟨Bx, hX, rfl⟩
    obtain ⟨ra, rn, rc, hre⟩ := h.slices k hk
    obtain ⟨fn, tmps, assign, body, hy, hR⟩ := hY k W2 hk hJ2
    rw [hre] at hy hX ⊢
    have c1 := hB2.cell
    have c2 : W2.cell? ⟨Bx, 0, none⟩ = some (.slice ra rn rc) := by simp [World.cell?, hX]
    have HR : Hid _ := hR
    have HY : Hid _ := hY
    clear hR hY hX hre
    gi_wp2
    refine ⟨rfl, RoundIn.mono HR.out ?_⟩
    rintro e W3 ⟨hKe, (⟨rfl, hJ3⟩ | ⟨rfl, hJ3⟩)⟩
    · gi_wp2
      exact ⟨keepsFrom_mono hKe.others (by omega), hKe.below, hJ3, hKe.yields _ _ hB2⟩
    · gi_wp2
      exact ⟨keepsFrom_mono hKe.others (by omega), hKe.below, rfl, hJ3⟩
  case done =>
    rintro D W2 hD ⟨hJ2, _⟩ hZ hK
    gi_wp2
    refine ⟨by simp, .inl ⟨_, _, rfl, run_takeDeferred hK, ?_⟩⟩
    exact ⟨_, results_none rfl _ _ _, ⟨_, rfl⟩, .inl ⟨hJ.putObj _ hJ2 (by omega) hK rfl, (count_own bp _).putObj _ hZ (Nat.zero_le _) hK rfl⟩⟩
  case stop =>
    rintro D c k W2 hD hk ⟨rfl, hJ2⟩ hZ hK
    gi_wp2
    refine ⟨by simp, .inl ⟨_, _, rfl, run_takeDeferred hK, ?_⟩⟩
    exact ⟨_, results_none rfl _ _ _, ⟨_, rfl⟩, .inr ⟨k, hk, hJx.putObj _ hJ2 (by omega) hK rfl, (count_own bp _).putObj _ hZ (Nat.zero_le _) hK rfl⟩⟩

end Go.Proofs.Qxb6605748a
