/-
  Seat b6605768a. ZZsnapshotTake (19) by take's three contracts.
-/
import Derived.Test.Qxb6605768aTake2
namespace Go.Proofs.Qxb6605768a
open Go.RowKit
set_option linter.unusedVariables false

theorem Piece.later {w w' : World} {pa : Option Addr} {pn pc : Nat} {ys : List Value} (h : Piece w pa pn pc ys) (hb : Below w.heap.size w w') : Piece w' pa pn pc ys := by
  rcases h with h | ⟨ad, h1, h2, h3, h4⟩
  · exact .inl h
  · exact .inr ⟨ad, h1, h2, fun j u hu => (hb.cell (World.block_lt_of_cell? _ _ (h3 j u hu))).trans (h3 j u hu), h4⟩

theorem owns_base {W : World} {b b' : Nat} {e : TypeId} {size : Nat} {v : Value} {k : Nat} {xs : List Value} (h : W.ownsRow b e size v k xs) (hb : b' ≤ b) : W.ownsRow b' e size v k xs := by
  refine ⟨h.1, ?_⟩
  rcases h.2 with h | ⟨g, cap, cur, h1, h2, h3⟩
  · exact .inl h
  · exact .inr ⟨g, cap, cur, h1, Nat.le_trans hb h2, h3⟩

theorem KeptBut.after {B b : Nat} {w X Y : World} (h : Below w.heap.size w X) (k : KeptBut X.heap.size b X Y) (hB : B ≤ w.heap.size) : KeptBut B b w Y :=
  ⟨k.os.trans h.os, k.tape.trans h.tape, k.output.trans h.output, Nat.le_trans h.size k.size, fun i hi hne => (k.block i (by have := h.size; omega) hne).trans (h.block i (by omega))⟩
theorem KeptBut.after' {B b : Nat} {w X Y : World} (h : Below w.heap.size w X) (k : KeptBut B b X Y) (hB : B ≤ w.heap.size) : KeptBut B b w Y :=
  ⟨k.os.trans h.os, k.tape.trans h.tape, k.output.trans h.output, Nat.le_trans h.size k.size, fun i hi hne => (k.block i hi hne).trans (h.block i (by omega))⟩

theorem size59 : (Try.prog.info? 59).map (·.size) = some 23 := by kernel_rfl

theorem alloc_range (w : World) (C : List Value) (t : TypeId) : (w.alloc (.cells C.toArray t)).rangeAt w.heap.size 0 C := fun j v hv => by
  simpa using hv

set_option maxRecDepth 100000 in
set_option maxHeartbeats 1000000 in
theorem zzA_any (b : Nat) (ix tm : Int) (vd vm0 vr0 : Value) (u : Nat → Value) (li lt sz : Int) (pa : Option Addr) (pn pc : Nat) (ys : List Value) (ma : Option Addr) (mn mc : Nat) (ra : Option Addr) (w : World)
    (hs : SnapAt w b ix tm vd vm0 vr0) (hsz : 0 ≤ sz) (hsz2 : sz ≤ 65536) (hp : Piece w pa pn pc ys) (hpn : pn ≤ 1048576) :
    Calls Try.prog 19 #[.pointer (some ⟨b, 0, none⟩), .agg (msg u li lt 0 sz pa pn pc (.slice ma mn mc) (.pointer ra))] w (TakeAEnd b li lt pn ys (.slice ma mn mc) (.pointer ra) w) := by
  have HS : Hid _ := hs
  have HP : Hid _ := hp
  clear hs hp
  go_enter Try.func19, Try.ntmps19
  go_wp2_with (refine wpList_load_mid rfl 59 _ rfl w.heap.size 0 rfl [u 0, u 1, u 2, u 3, .int .u64 li, .int .u64 lt, u 6, u 7, u 8, u 9, u 10, u 11, u 12, u 13, u 14, .int .u64 0, .int .u64 sz, .slice pa pn pc, u 18, .slice ma mn mc, .pointer ra, u 21, u 22] _ (alloc_range w _ 59) Try.underlying59 rfl size59 ?_)
  have hB : Below w.heap.size w (w.alloc (.cells (msg u li lt 0 sz pa pn pc (.slice ma mn mc) (.pointer ra)) 59)) := (Below.refl _ _).alloc (Nat.le_refl _) _
  refine (takeA_any b ix tm vd vm0 vr0 u li lt sz pa pn pc ys ma mn mc ra _ (SnapAt.later HS.out hB) hsz hsz2 (Piece.later HP.out hB) hpn).mono ?_
  rintro e w' ⟨rfl, hk, x, z, h1, h2⟩
  go_wp2
  go_ret
  exact ⟨rfl, hk.after hB (Nat.le_refl _), x, z, h1, owns_base h2 hB.size⟩

set_option maxRecDepth 100000 in
set_option maxHeartbeats 1000000 in
theorem zzB_any (base b : Nat) (ix tm : Int) (x : Option Addr) (n z : Nat) (xs : List Value) (vm vr : Value) (u : Nat → Value) (off sz : Int) (pa : Option Addr) (pn pc : Nat) (ys : List Value) (vm1 vr1 : Value) (w : World)
    (hs : SnapAt w b ix tm (.slice x n z) vm vr) (hown : w.ownsRow base 5 1 (.slice x n z) n xs) (hbb : b < base) (hbw : base ≤ w.heap.size) (hoff : off = n) (hn0 : 0 < n) (hp : Piece w pa pn pc ys) (hnp : n + pn ≤ 1048576) :
    Calls Try.prog 19 #[.pointer (some ⟨b, 0, none⟩), .agg (msg u ix tm off sz pa pn pc vm1 vr1)] w (TakeBEnd base b ix tm n pn xs ys vm vr w) := by
  have HS : Hid _ := hs
  have HP : Hid _ := hp
  have HO : Hid _ := hown
  have HF : Hid _ := hoff
  clear hs hp hown hoff
  go_enter Try.func19, Try.ntmps19
  go_wp2_with (refine wpList_load_mid rfl 59 _ rfl w.heap.size 0 rfl [u 0, u 1, u 2, u 3, .int .u64 ix, .int .u64 tm, u 6, u 7, u 8, u 9, u 10, u 11, u 12, u 13, u 14, .int .u64 off, .int .u64 sz, .slice pa pn pc, u 18, vm1, vr1, u 21, u 22] _ (alloc_range w _ 59) Try.underlying59 rfl size59 ?_)
  have hB : Below w.heap.size w (w.alloc (.cells (msg u ix tm off sz pa pn pc vm1 vr1) 59)) := (Below.refl _ _).alloc (Nat.le_refl _) _
  refine (takeB_any base b ix tm x n z xs vm vr u off sz pa pn pc ys vm1 vr1 _ (SnapAt.later HS.out hB) (owns_below HO.out hB) hbb (by simp; omega) HF.out hn0 (Piece.later HP.out hB) hnp).mono ?_
  rintro e w' ⟨rfl, hk, x', z', h1, h2⟩
  go_wp2
  go_ret
  exact ⟨rfl, hk.after' hB hbw, x', z', h1, h2⟩

set_option maxRecDepth 100000 in
set_option maxHeartbeats 1000000 in
theorem zzC_any (b : Nat) (ix tm : Int) (x : Option Addr) (n z : Nat) (vm vr : Value) (u : Nat → Value) (li lt off sz : Int) (pa : Option Addr) (pn pc : Nat) (vm1 vr1 : Value) (w : World)
    (hs : SnapAt w b ix tm (.slice x n z) vm vr) (hoff : off ≠ 0) (hne : ix ≠ li ∨ tm ≠ lt ∨ off ≠ n) (hn : n ≤ 1048576) :
    Calls Try.prog 19 #[.pointer (some ⟨b, 0, none⟩), .agg (msg u li lt off sz pa pn pc vm1 vr1)] w (TakeCEnd w) := by
  have HS : Hid _ := hs
  have HF : Hid _ := hoff
  have HN : Hid _ := hne
  clear hs hoff hne
  go_enter Try.func19, Try.ntmps19
  go_wp2_with (refine wpList_load_mid rfl 59 _ rfl w.heap.size 0 rfl [u 0, u 1, u 2, u 3, .int .u64 li, .int .u64 lt, u 6, u 7, u 8, u 9, u 10, u 11, u 12, u 13, u 14, .int .u64 off, .int .u64 sz, .slice pa pn pc, u 18, vm1, vr1, u 21, u 22] _ (alloc_range w _ 59) Try.underlying59 rfl size59 ?_)
  have hB : Below w.heap.size w (w.alloc (.cells (msg u li lt off sz pa pn pc vm1 vr1) 59)) := (Below.refl _ _).alloc (Nat.le_refl _) _
  refine (takeC_any b ix tm x n z vm vr u li lt off sz pa pn pc vm1 vr1 _ (SnapAt.later HS.out hB) HF.out HN.out hn).mono ?_
  rintro e w' ⟨rfl, hk⟩
  go_wp2
  go_ret
  exact ⟨rfl, hB.trans (hk.mono hB.size)⟩

end Go.Proofs.Qxb6605768a
