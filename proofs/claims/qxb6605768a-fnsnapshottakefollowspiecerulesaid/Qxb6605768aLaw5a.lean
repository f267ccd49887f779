/-
  Seat b6605768a. What the law on one piece (5) needs: the message's boxes, and what a take keeps.
-/
import Derived.Test.Qxb6605768aConcat
import Derived.Test.Qxb6605768aBytesM
import Derived.Test.Qxb6605768aZMessage
import Derived.Test.Qxb6605768aLaw6
namespace Go.Proofs.Qxb6605768a
open Go.RowKit
set_option linter.unusedVariables false

theorem hid {p : Prop} (h : p) : Hid p := h
/-- A ZMessage as a value, shut. -/
def MZ (z : ZM) : Value := .agg z.val
/-- The block of a ZMessage parameter, whole. -/
def Box42 (W : World) (b : Nat) (z : ZM) : Prop := W.heap[b]? = some (.cells z.val 42 (0, 0))
theorem Box42.later {w w' : World} {b : Nat} {z : ZM} (h : Box42 w b z) (hb : Below w.heap.size w w') : Box42 w' b z := (hb.block b (Array.getElem?_eq_some_iff.1 h).1).trans h
theorem Box42.cells {w : World} {b : Nat} {z : ZM} (h : Box42 w b z) :
    w.cell? ⟨b, 4, none⟩ = some (.int .u64 z.li) ∧ w.cell? ⟨b, 5, none⟩ = some (.int .u64 z.lt) ∧ w.cell? ⟨b, 15, none⟩ = some (.int .u64 z.off) ∧ w.cell? ⟨b, 16, none⟩ = some (.int .u64 z.sz) ∧ w.cell? ⟨b, 17, none⟩ = some (.slice z.pa z.pn z.pc) ∧ w.cell? ⟨b, 19, none⟩ = some (.slice z.ma z.mn z.mc) ∧ w.cell? ⟨b, 20, none⟩ = some (.pointer z.rp) := by
  have h' : w.heap[b]? = _ := h
  refine ⟨?_, ?_, ?_, ?_, ?_, ?_, ?_⟩ <;> simp [World.cell?, h']
theorem size42 : (Try.prog.info? 42).map (·.size) = some 23 := by kernel_rfl
theorem Box42.range {w : World} {b : Nat} {z : ZM} (h : Box42 w b z) : w.rangeAt b 0 z.val.toList := fun j v hv => by
  have h' : w.heap[b]? = _ := h
  simp only [World.cell?, h', Nat.zero_add]
  simpa using hv
theorem run_load_z (z : ZM) (b : Nat) (X : World) (h : Box42 X b z) : (Instr.loadAt 42 (.pointer (some ⟨b, 0, none⟩))).run Try.prog X = .ok (MZ z) X :=
  run_loadAt_mid X b 0 42 z.val.toList _ h.range Try.underlying42 rfl size42
theorem wpList_load_z {ops : Array Oper} {rest : List Oper} {op : Oper} {a : Act} {w : World} {Q : Exit → Act → World → Prop} (hgd : op.guard = none) (x : Operand) (ho : op.op = .load 42 x)
    (b : Nat) (hx : a.eval x = .pointer (some ⟨b, 0, none⟩)) (z : ZM) (hm : Box42 w b z) (h : wpList Try.prog ops Q rest (a.put op.dst (MZ z)) w) : wpList Try.prog ops Q (op :: rest) a w :=
  wpList_load_mid hgd 42 x ho b 0 hx _ _ hm.range Try.underlying42 rfl size42 h

theorem yields_load_z {ops : Array Oper} {S : World → Prop} {op : Oper} {a : Act} (hw : Region.wanted op (yielded ops a.tmps) = true) (x : Operand) (ho : op.op = .load 42 x)
    (b : Nat) (hx : a.eval x = .pointer (some ⟨b, 0, none⟩)) (z : ZM) (hS : ∀ w, S w → Box42 w b z) : YieldsIf Try.prog ops S op (MZ z) a :=
  yieldsIf_load_mid hw 42 x ho b 0 hx z.val.toList _ (fun w h => (hS w h).range) Try.underlying42 rfl size42

theorem bytes5_z (ix tm : Int) (da : Option Addr) (dn dc : Nat) (ma : Option Addr) (mn mc : Nat) (ms : Nat → Mem) (rp : Option Addr) (rm : Mem) (z : ZM) (es : Nat → Ent) (ms2 : Nat → Mem) (rm2 : Mem) (w : World)
    (hd : dn ≤ 9223372036854775807) (hm : Mems w ma mn ms) (hr : MemPtr w rp rm) (he : Ents w z.ea z.en es) (hp : z.pn ≤ 9223372036854775807) (hm2 : Mems w z.ma z.mn ms2) (hr2 : MemPtr w z.rp rm2) :
    Calls Try.prog 13 #[.agg #[.int .u64 ix, .int .u64 tm, .slice da dn dc, .slice ma mn mc, .pointer rp], MZ z] w (BMEnd dn mn z.en es z.pn z.mn w) :=
  bytes5_any ix tm da dn dc ma mn mc ms rp rm z es ms2 rm2 w hd hm hr he hp hm2 hr2
theorem msgsize_z (z : ZM) (es : Nat → Ent) (ms : Nat → Mem) (rm : Mem) (w : World) (he : Ents w z.ea z.en es) (hp : z.pn ≤ 9223372036854775807) (hm : Mems w z.ma z.mn ms) (hr : MemPtr w z.rp rm) :
    Calls Try.prog 16 #[MZ z] w (U64End w) := msgsize_any z es ms rm w he hp hm hr
theorem zmessage_z (z : ZM) (es : Nat → Ent) (bs : Nat → Int) (ms : Nat → Mem) (rm : Mem) (w : World) (he : Ents w z.ea z.en es) (hen : z.en ≤ 1048576) (hes : ∀ j, j < z.en → (es j).mn ≤ 1048576) (hp : Bytes w z.pa z.pn bs) (hpn : z.pn ≤ 1048576) (hm : Mems w z.ma z.mn ms) (hmn : z.mn ≤ 1048576) (hr : MemPtr w z.rp rm) :
    Calls Try.prog 18 #[MZ z] w (MsgEnd z bs ms rm w) := zmessage_any z es bs ms rm w he hen hes hp hpn hm hmn hr

/-- A message's cells lie in block b. -/
def MuAt (w : World) (b : Nat) (u : Nat → Value) (li lt off sz : Int) (pa : Option Addr) (pn pc : Nat) (vm vr : Value) : Prop := w.rangeAt b 0 (msg u li lt off sz pa pn pc vm vr).toList
theorem MuAt.data {w : World} {b : Nat} {u : Nat → Value} {li lt off sz : Int} {pa : Option Addr} {pn pc : Nat} {vm vr : Value} (h : MuAt w b u li lt off sz pa pn pc vm vr) : w.cell? ⟨b, 17, none⟩ = some (.slice pa pn pc) := by
  simpa using h 17 (.slice pa pn pc) rfl
theorem MuAt.lt {w : World} {b : Nat} {u : Nat → Value} {li lt off sz : Int} {pa : Option Addr} {pn pc : Nat} {vm vr : Value} (h : MuAt w b u li lt off sz pa pn pc vm vr) : b < w.heap.size := World.block_lt_of_cell? _ _ h.data
theorem zmu_one (z : ZM) (xe : Option Addr) (ye ze : Nat) (i : Nat) : (zmu z xe ye ze i).oneCell' = true := by
  by_cases h : i < 23
  · have : i = 0 ∨ i = 1 ∨ i = 2 ∨ i = 3 ∨ i = 4 ∨ i = 5 ∨ i = 6 ∨ i = 7 ∨ i = 8 ∨ i = 9 ∨ i = 10 ∨ i = 11 ∨ i = 12 ∨ i = 13 ∨ i = 14 ∨ i = 15 ∨ i = 16 ∨ i = 17 ∨ i = 18 ∨ i = 19 ∨ i = 20 ∨ i = 21 ∨ i = 22 := by omega
    rcases this with rfl | rfl | rfl | rfl | rfl | rfl | rfl | rfl | rfl | rfl | rfl | rfl | rfl | rfl | rfl | rfl | rfl | rfl | rfl | rfl | rfl | rfl | rfl <;> rfl
  · unfold zmu
    rw [List.getD, List.getElem?_eq_none (by simp; omega)]
    rfl

theorem wpList_store_mu {ops : Array Oper} {rest : List Oper} {op : Oper} {a : Act} {w0 : World} {Q : Exit → Act → World → Prop} (hgd : op.guard = none) (x y : Operand) (ho : op.op = .store 59 x y)
    (old : Array Value) (hx : a.eval x = .pointer (some ⟨w0.heap.size, 0, none⟩)) (z : ZM) (xe : Option Addr) (ye ze : Nat) (li lt off sz : Int) (pa : Option Addr) (pn pc : Nat) (ma : Option Addr) (mn mc : Nat) (rp : Option Addr) (hy : a.eval y = MU (zmu z xe ye ze) li lt off sz pa pn pc (.slice ma mn mc) (.pointer rp))
    (hold : old.size = 23)
    (h : ∀ W', Below w0.heap.size w0 W' → w0.heap.size < W'.heap.size → MuAt W' w0.heap.size (zmu z xe ye ze) li lt off sz pa pn pc (.slice ma mn mc) (.pointer rp) → wpList Try.prog ops Q rest (a.put op.dst undef) W') :
    wpList Try.prog ops Q (op :: rest) a (w0.alloc (.cells old 59)) :=
  wpList_store_msg hgd x y ho old (msg (zmu z xe ye ze) li lt off sz pa pn pc (.slice ma mn mc) (.pointer rp)) hx hy rfl hold (by simp [msg, zmu, Value.oneCell']) h
theorem wpList_load_mu {ops : Array Oper} {rest : List Oper} {op : Oper} {a : Act} {w : World} {Q : Exit → Act → World → Prop} (hgd : op.guard = none) (x : Operand) (ho : op.op = .load 59 x)
    (b : Nat) (hx : a.eval x = .pointer (some ⟨b, 0, none⟩)) (u : Nat → Value) (li lt off sz : Int) (pa : Option Addr) (pn pc : Nat) (vm vr : Value) (hm : MuAt w b u li lt off sz pa pn pc vm vr)
    (h : wpList Try.prog ops Q rest (a.put op.dst (MU u li lt off sz pa pn pc vm vr)) w) : wpList Try.prog ops Q (op :: rest) a w :=
  wpList_load_mid hgd 59 x ho b 0 hx _ _ hm Try.underlying59 rfl size59 h

theorem zzA_mu (b : Nat) (ix tm : Int) (vd vm0 vr0 : Value) (u : Nat → Value) (li lt off sz : Int) (h0 : off = 0) (pa : Option Addr) (pn pc : Nat) (ys : List Value) (ma : Option Addr) (mn mc : Nat) (ra : Option Addr) (w : World)
    (hs : SnapAt w b ix tm vd vm0 vr0) (hsz : 0 ≤ sz) (hsz2 : sz ≤ 65536) (hp : Piece w pa pn pc ys) (hpn : pn ≤ 1048576) :
    Calls Try.prog 19 #[.pointer (some ⟨b, 0, none⟩), MU u li lt off sz pa pn pc (.slice ma mn mc) (.pointer ra)] w (TakeAEnd b li lt pn ys (.slice ma mn mc) (.pointer ra) w) := by
  subst h0
  exact zzA_any b ix tm vd vm0 vr0 u li lt sz pa pn pc ys ma mn mc ra w hs hsz hsz2 hp hpn
theorem zzD_mu (base b : Nat) (ix tm : Int) (x : Option Addr) (n z : Nat) (xs : List Value) (vm vr : Value) (u : Nat → Value) (li lt off sz : Int) (hli : ix = li) (hlt : tm = lt) (pa : Option Addr) (pn pc : Nat) (ys : List Value) (vm1 vr1 : Value) (w : World)
    (hs : SnapAt w b ix tm (.slice x n z) vm vr) (hown : w.ownsRow base 5 1 (.slice x n z) n xs) (hbw : base ≤ w.heap.size) (hoff : off = n) (hn0 : 0 < n) (hp : Piece w pa pn pc ys) (hnp : n + pn ≤ 1048576) :
    Calls Try.prog 19 #[.pointer (some ⟨b, 0, none⟩), MU u li lt off sz pa pn pc vm1 vr1] w (TakeDEnd base b ix tm n pn xs ys vm vr (Value.slice x n z).ownBlock w) := by
  subst hli hlt
  exact zzD_any base b ix tm x n z xs vm vr u off sz pa pn pc ys vm1 vr1 w hs hown hbw hoff hn0 hp hnp
theorem zzC_mu (b : Nat) (ix tm : Int) (x : Option Addr) (n z : Nat) (vm vr : Value) (u : Nat → Value) (li lt off sz : Int) (pa : Option Addr) (pn pc : Nat) (vm1 vr1 : Value) (w : World)
    (hs : SnapAt w b ix tm (.slice x n z) vm vr) (hoff : off ≠ 0) (hne : ix ≠ li ∨ tm ≠ lt ∨ off ≠ n) (hn : n ≤ 1048576) :
    Calls Try.prog 19 #[.pointer (some ⟨b, 0, none⟩), MU u li lt off sz pa pn pc vm1 vr1] w (TakeCEnd w) :=
  zzC_any b ix tm x n z vm vr u li lt off sz pa pn pc vm1 vr1 w hs hoff hne hn

/-- A copied row as a piece. -/
theorem Dat.piece {w : World} {x : Option Addr} {n z : Nat} {bs : Nat → Int} (h : Dat w x n z bs) : Piece w x n z (seg bs 0 n) := by
  rcases h with ⟨rfl, rfl, rfl⟩ | ⟨b, rfl, rfl, hr⟩
  · exact .inl ⟨rfl, rfl, rfl, seg_nil _ _⟩
  · refine .inr ⟨_, rfl, by rw [seg_len]; omega, fun j u hu => ?_, seg_one bs 0 z⟩
    have hj : j < z - 0 := by
      have := (List.getElem?_eq_some_iff.1 hu).1
      rwa [seg_len] at this
    rw [seg_at bs 0 z j hj] at hu
    cases hu
    rw [Addr.add_mid]
    have := hr.cell (show j < z by omega)
    simpa using this
/-- A copied row as one's own row. -/
theorem Dat.owns {w : World} {x : Option Addr} {n z : Nat} {bs : Nat → Int} {base : Nat} (h : Dat w x n z bs) (hb : ∀ b, x = some ⟨b, 0, none⟩ → base ≤ b) (hn : n ≤ 1048576) : w.ownsRow base 5 1 (.slice x n z) n (seg bs 0 n) := by
  refine ⟨by rw [seg_len]; omega, ?_⟩
  rcases h with ⟨rfl, rfl, rfl⟩ | ⟨b, rfl, rfl, hr⟩
  · exact .inl ⟨rfl, rfl⟩
  · obtain ⟨c, h1, h2, h3⟩ := hr
    refine .inr ⟨b, z, c, rfl, hb b rfl, h1, Nat.le_refl _, by unfold maxLen; omega, by omega, ?_⟩
    apply List.ext_getElem?
    intro j
    by_cases hj : j < z
    · rw [List.getElem?_take_of_lt (by omega), seg_at bs 0 z j (by omega)]
      have := h3 j hj
      simpa using this
    · rw [List.getElem?_eq_none (by simp; omega), List.getElem?_eq_none (by rw [seg_len]; omega)]
theorem CopyB.atleast {a : Option Addr} {n : Nat} {bs : Nat → Int} {B : Nat} {x : Option Addr} {y z : Nat} {w : World} (h : CopyB a n bs B (.slice x y z) w) : ∀ b, x = some ⟨b, 0, none⟩ → B ≤ b := by
  intro b hb
  rcases h with ⟨_, h⟩ | ⟨_, b', hB, h, _⟩
  · cases h; cases hb
  · cases h; cases hb; exact hB

theorem seg_cat (bs : Nat → Int) (n : Nat) (bs2 : Nat → Int) (n2 : Nat) : seg bs 0 n ++ seg bs2 0 n2 = seg (cat bs n bs2) 0 (n + n2) := by
  rw [← seg_append (cat bs n bs2) n (n + n2) (by omega)]
  congr 1
  · unfold seg
    apply List.map_congr_left
    intro j hj
    have : j < n := by simpa using hj
    simp [cat, this]
  · unfold seg
    rw [show n + n2 - n = n2 by omega, show n2 - 0 = n2 by omega]
    apply List.map_congr_left
    intro j hj
    simp only [cat, Nat.zero_add]
    rw [if_neg (by omega), Nat.add_sub_cancel_left]

theorem Mems.keep2 {w w' : World} {a : Option Addr} {n : Nat} {ms : Nat → Mem} {bS : Nat} {row : Option Nat} (h : Mems w a n ms) (hne : ∀ b o m, MemAt w b o m → b ≠ bS ∧ some b ≠ row) (hb : Kept2 bS row w w') : Mems w' a n ms := by
  refine ⟨h.1, h.2.1, fun h0 => ?_⟩
  obtain ⟨b, o, e, hm⟩ := h.2.2 h0
  exact ⟨b, o, e, fun j hj => (hm j hj).keep2 (hne _ _ _ (hm j hj)).1 (hne _ _ _ (hm j hj)).2 hb⟩
theorem SamePtr.keep2 {w w' : World} {p1 p2 : Option Addr} {m : Mem} {bS : Nat} {row : Option Nat} (h : SamePtr w p1 p2 m) (hne : ∀ b o m, MemAt w b o m → b ≠ bS ∧ some b ≠ row) (hb : Kept2 bS row w w') : SamePtr w' p1 p2 m := by
  rcases h with h | ⟨b1, o1, b2, o2, e1, e2, h1, h2⟩
  · exact .inl h
  · exact .inr ⟨b1, o1, b2, o2, e1, e2, h1.keep2 (hne _ _ _ h1).1 (hne _ _ _ h1).2 hb, h2.keep2 (hne _ _ _ h2).1 (hne _ _ _ h2).2 hb⟩
/-- No member lies in the snapshot's block or in the data's own block. -/
theorem mem_apart {w : World} {bS : Nat} {ix tm : Int} {x : Option Addr} {n z : Nat} {bs : Nat → Int} {vr : Value} {xm : Option Addr} {nm zm : Nat} (hs : SnapAt w bS ix tm (.slice x n z) (.slice xm nm zm) vr) (hd : Dat w x n z bs) :
    ∀ b o m, MemAt w b o m → b ≠ bS ∧ some b ≠ (Value.slice x n z).ownBlock := by
  intro b o m h
  refine ⟨h.ne hs, ?_⟩
  rcases hd with ⟨rfl, rfl, rfl⟩ | ⟨g, rfl, rfl, hr⟩
  · simp [Value.ownBlock]
  · intro e
    have e2 : b = g := by simpa [Value.ownBlock] using e
    exact h.ne_row hr e2
theorem own_base {x : Option Addr} {n z : Nat} {base : Nat} {w : World} {bs : Nat → Int} (hd : Dat w x n z bs) (hb : ∀ b, x = some ⟨b, 0, none⟩ → base ≤ b) : ∀ k, (Value.slice x n z).ownBlock = some k → base ≤ k := by
  intro k hk
  rcases hd with ⟨rfl, rfl, rfl⟩ | ⟨g, rfl, rfl, hr⟩
  · simp [Value.ownBlock] at hk
  · have e2 : g = k := by simpa [Value.ownBlock] using hk
    subst e2
    exact hb g rfl
theorem below_of_kept2 {B bS : Nat} {row : Option Nat} {w X Y : World} (h : Below B w X) (k : Kept2 bS row X Y) (hB : B ≤ bS) (hr : ∀ i, row = some i → B ≤ i) (hX : B ≤ X.heap.size) : Below B w Y :=
  ⟨k.os.trans h.os, k.tape.trans h.tape, k.output.trans h.output, Nat.le_trans h.size k.size, fun i hi => (k.block i (by omega) (by omega) (fun e => by have := hr i e.symm; omega)).trans (h.block i hi)⟩
theorem Box28.block {w w' : World} {b : Nat} {ix tm : Int} {da : Option Addr} {dn dc : Nat} {ma : Option Addr} {mn mc : Nat} {rp : Option Addr} (h : Box28 w b ix tm da dn dc ma mn mc rp) {B : Nat} {w0 : World} (h0 : Below B w w') (hb : b < B) : Box28 w' b ix tm da dn dc ma mn mc rp := (h0.block b hb).trans h
theorem Box42.block {w w' : World} {b : Nat} {z : ZM} (h : Box42 w b z) {B : Nat} (h0 : Below B w w') (hb : b < B) : Box42 w' b z := (h0.block b hb).trans h

end Go.Proofs.Qxb6605768a
