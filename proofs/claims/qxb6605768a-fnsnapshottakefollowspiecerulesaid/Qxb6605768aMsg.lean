/-
  Seat b6605768a. A piece of the data by a slice expression; a message laid into a new block.
-/
import Derived.Test.Qxb6605768aTake3
import Derived.Laws.CopyOwn
import Derived.Laws.Bits64
import Derived.RangeFuncRecord
namespace Go.Proofs.Qxb6605768a
open Go.RowKit
set_option linter.unusedVariables false

/-- The bytes l .. h as cells. -/
def seg (bs : Nat → Int) (l h : Nat) : List Value := (List.range (h - l)).map fun j => .int .u8 (bs (l + j))

theorem seg_len (bs : Nat → Int) (l h : Nat) : (seg bs l h).length = h - l := by simp [seg]
theorem seg_at (bs : Nat → Int) (l h j : Nat) (hj : j < h - l) : (seg bs l h)[j]? = some (.int .u8 (bs (l + j))) := by
  simp [seg, List.getElem?_range hj]
theorem seg_nil (bs : Nat → Int) (l : Nat) : seg bs l l = [] := by simp [seg]
theorem seg_append (bs : Nat → Int) (l h : Nat) (hlh : l ≤ h) : seg bs 0 l ++ seg bs l h = seg bs 0 h := by
  apply List.ext_getElem?
  intro j
  by_cases h1 : j < l
  · rw [List.getElem?_append_left (by rw [seg_len]; omega), seg_at bs 0 l j (by omega), seg_at bs 0 h j (by omega)]
  · rw [List.getElem?_append_right (by rw [seg_len]; omega), seg_len]
    by_cases h2 : j < h
    · rw [seg_at bs l h _ (by omega), seg_at bs 0 h j (by omega)]
      rw [show l + (j - (l - 0)) = 0 + j by omega]
    · rw [List.getElem?_eq_none (by rw [seg_len]; omega), List.getElem?_eq_none (by rw [seg_len]; omega)]
theorem seg_one (bs : Nat → Int) (l h : Nat) : ∀ u ∈ seg bs l h, u.oneCell' = true := by
  intro u hu
  obtain ⟨j, _, rfl⟩ := List.mem_map.1 hu
  rfl

/-- A copy of the data: nil, or a block of its own. -/
def Dat (w : World) (x : Option Addr) (n z : Nat) (bs : Nat → Int) : Prop :=
  (x = none ∧ n = 0 ∧ z = 0) ∨ ∃ b, x = some ⟨b, 0, none⟩ ∧ z = n ∧ w.rowIs b 5 n (fun j => .int .u8 (bs j))
theorem CopyB.dat {a : Option Addr} {n : Nat} {bs : Nat → Int} {B : Nat} {x : Option Addr} {y z : Nat} {w : World} (h : CopyB a n bs B (.slice x y z) w) (h0 : a = none → n = 0) : Dat w x n z bs := by
  rcases h with ⟨ha, h⟩ | ⟨_, b, _, h, hr⟩
  · cases h; exact .inl ⟨rfl, h0 ha, rfl⟩
  · cases h; exact .inr ⟨b, rfl, rfl, hr⟩

theorem wpList_slice_piece {ops : Array Oper} {rest : List Oper} {op : Oper} {a : Act} {w : World} {Q : Exit → Act → World → Prop} (hgd : op.guard = none) (x lo hi : Operand) (ho : op.op = .slice 24 x (some lo) (some hi) none)
    (x8 : Option Addr) (n z : Nat) (bs : Nat → Int) (kl kh : IntKind) (l h : Nat) (hx : a.eval x = .slice x8 n z) (hlo : a.eval lo = .int kl l) (hhi : a.eval hi = .int kh h) (hlh : l ≤ h) (hhn : h ≤ n) (hd : Dat w x8 n z bs)
    (hk : ∀ pa pc, Piece w pa (h - l) pc (seg bs l h) → wpList Try.prog ops Q rest (a.put op.dst (.slice pa (h - l) pc)) w) : wpList Try.prog ops Q (op :: rest) a w := by
  have hz : n ≤ z := by rcases hd with ⟨_, h1, h2⟩ | ⟨b, _, h2, _⟩ <;> omega
  have hp : Piece w (if z = l then x8 else x8.map (·.add (l * 1))) (h - l) (z - l) (seg bs l h) := by
    rcases hd with ⟨rfl, rfl, rfl⟩ | ⟨b, rfl, rfl, hr⟩
    · have h1 : h = 0 := by omega
      have h2 : l = 0 := by omega
      subst h1 h2
      exact .inl ⟨by simp, rfl, rfl, seg_nil _ _⟩
    · by_cases hzl : z = l
      · have h2 : h = l := by omega
        subst h2
        rw [if_pos hzl]
        exact .inr ⟨_, rfl, by rw [seg_nil]; simp, fun j u hu => by rw [seg_nil] at hu; simp at hu, seg_one bs h h⟩
      · rw [if_neg hzl]
        refine .inr ⟨_, rfl, seg_len _ _ _, fun j u hu => ?_, seg_one bs l h⟩
        have hj : j < h - l := by
          have := (List.getElem?_eq_some_iff.1 hu).1
          rwa [seg_len] at this
        rw [seg_at bs l h j hj] at hu
        cases hu
        have := hr.cell (show l + j < z by omega)
        show w.cell? (((⟨b, 0, none⟩ : Addr).add (l * 1)).add j) = _
        rw [Addr.add_mid, Addr.add_mid]
        simpa using this
  refine wpList_plain hgd fun K hK => ?_
  have hk' := hK _ _ (hk _ _ hp)
  have hu : Try.prog.underlying 24 = some (.slice (Try.prog.elem 24)) := by kernel_rfl
  have hs : (sizeOf (Try.prog.elem 24)).run Try.prog w = .ok 1 w := by kernel_rfl
  have hr : (Instr.sliceAt 24 (.slice x8 n z) (some (.int kl l)) (some (.int kh h)) none).run Try.prog w = .ok (.slice (if z = l then x8 else x8.map (·.add (l * 1))) (h - l) (z - l)) w := by
    rw [run_sliceAt_slice w 24 _ _ _ _ hu, run_slice_lh w 24 x8 n z hu kl kh l h (by omega) (by omega) (by omega), hs]
    simp [sliced, Result.andThen]
  unfold Oper.wp execOp
  simp only [ho, hx, hlo, hhi, Option.map, hr, Sem.run_bind, Sem.run_pure, Result.andThen_ok]
  exact hk'

theorem wpList_store_msg {ops : Array Oper} {rest : List Oper} {op : Oper} {a : Act} {w0 : World} {Q : Exit → Act → World → Prop} (hgd : op.guard = none) (x y : Operand) (ho : op.op = .store 59 x y)
    (old cells : Array Value) (hx : a.eval x = .pointer (some ⟨w0.heap.size, 0, none⟩)) (hy : a.eval y = .agg cells)
    (hc : cells.size = 23) (hold : old.size = 23) (h1 : cells.all (·.oneCell') = true)
    (h : ∀ W', Below w0.heap.size w0 W' → w0.heap.size < W'.heap.size → W'.rangeAt w0.heap.size 0 cells.toList → wpList Try.prog ops Q rest (a.put op.dst undef) W') :
    wpList Try.prog ops Q (op :: rest) a (w0.alloc (.cells old 59)) := by
  have hb : (w0.alloc (.cells old 59)).heap[w0.heap.size]? = some (.cells old 59 (0, 0)) := World.alloc_heap_new w0 _
  refine wpList_store_row hgd 59 x y ho w0.heap.size cells hx hy 59 old hb (by rw [size59, hc]) (by omega) h1 ?_
  refine h _ (below_setRow ((Below.refl _ _).alloc (Nat.le_refl _) _) (Nat.le_refl _) _) ?_ ?_
  · rw [size_setRow]; simp
  · intro j v hv
    rw [Nat.zero_add, cell_setRow_same _ _ j old cells 59 (0, 0) hb]
    simpa using hv

/-- The message's other fields: zero. -/
def zu (i : Nat) : Value := ([.int .u8 0, .int .i64 0, .int .i64 0, .int .u64 0, .int .u64 0, .int .u64 0, .int .u64 0, .int .u64 0, .slice none 0 0, .int .u64 0, .bool false, .bool false, .bool false, .int .u64 0, .int .u64 0, .int .u64 0, .int .u64 0, .slice none 0 0, .bool false, .slice none 0 0, .pointer none, .int .u64 0, .int .u64 0] : List Value).getD i undef

theorem wpList_build_a {ops : Array Oper} {rest : List Oper} {op : Oper} {a : Act} {w : World} {Q : Exit → Act → World → Prop} (hgd : op.guard = none) (x4 x5 x15 x16 x17 x19 x20 : Operand)
    (ho : op.op = .build 59 #[(4, x4), (5, x5), (15, x15), (16, x16), (17, x17), (19, x19), (20, x20)]) (li lt off sz : Int) (pa : Option Addr) (pn pc : Nat) (ma : Option Addr) (mn mc : Nat) (rp : Option Addr)
    (h4 : a.eval x4 = .int .u64 li) (h5 : a.eval x5 = .int .u64 lt) (h15 : a.eval x15 = .int .u64 off) (h16 : a.eval x16 = .int .u64 sz) (h17 : a.eval x17 = .slice pa pn pc) (h19 : a.eval x19 = .slice ma mn mc) (h20 : a.eval x20 = .pointer rp)
    (h : wpList Try.prog ops Q rest (a.put op.dst (.agg (msg zu li lt off sz pa pn pc (.slice ma mn mc) (.pointer rp)))) w) : wpList Try.prog ops Q (op :: rest) a w := by
  have hb : Try.prog.built 59 [(4, .int .u64 li), (5, .int .u64 lt), (15, .int .u64 off), (16, .int .u64 sz), (17, .slice pa pn pc), (19, .slice ma mn mc), (20, .pointer rp)] = some (msg zu li lt off sz pa pn pc (.slice ma mn mc) (.pointer rp)) := by kernel_rfl
  have he : (Array.map (fun (q : Nat × Operand) => (q.1, a.eval q.2)) #[(4, x4), (5, x5), (15, x15), (16, x16), (17, x17), (19, x19), (20, x20)]).toList = [(4, .int .u64 li), (5, .int .u64 lt), (15, .int .u64 off), (16, .int .u64 sz), (17, .slice pa pn pc), (19, .slice ma mn mc), (20, .pointer rp)] := by
    simp [h4, h5, h15, h16, h17, h19, h20]
  refine wpList_build hgd 59 _ ho ?_ ?_
  · exact (by rw [he, hb]; rfl)
  · have : (Try.prog.built 59 (Array.map (fun (q : Nat × Operand) => (q.1, a.eval q.2)) #[(4, x4), (5, x5), (15, x15), (16, x16), (17, x17), (19, x19), (20, x20)]).toList).getD #[] = msg zu li lt off sz pa pn pc (.slice ma mn mc) (.pointer rp) := by rw [he, hb]; rfl
    rw [← this] at h
    exact h

theorem wpList_build_b {ops : Array Oper} {rest : List Oper} {op : Oper} {a : Act} {w : World} {Q : Exit → Act → World → Prop} (hgd : op.guard = none) (x4 x5 x15 x16 x17 : Operand)
    (ho : op.op = .build 59 #[(4, x4), (5, x5), (15, x15), (16, x16), (17, x17)]) (li lt off sz : Int) (pa : Option Addr) (pn pc : Nat)
    (h4 : a.eval x4 = .int .u64 li) (h5 : a.eval x5 = .int .u64 lt) (h15 : a.eval x15 = .int .u64 off) (h16 : a.eval x16 = .int .u64 sz) (h17 : a.eval x17 = .slice pa pn pc)
    (h : wpList Try.prog ops Q rest (a.put op.dst (.agg (msg zu li lt off sz pa pn pc (.slice none 0 0) (.pointer none)))) w) : wpList Try.prog ops Q (op :: rest) a w := by
  have hb : Try.prog.built 59 [(4, .int .u64 li), (5, .int .u64 lt), (15, .int .u64 off), (16, .int .u64 sz), (17, .slice pa pn pc)] = some (msg zu li lt off sz pa pn pc (.slice none 0 0) (.pointer none)) := by kernel_rfl
  have he : (Array.map (fun (q : Nat × Operand) => (q.1, a.eval q.2)) #[(4, x4), (5, x5), (15, x15), (16, x16), (17, x17)]).toList = [(4, .int .u64 li), (5, .int .u64 lt), (15, .int .u64 off), (16, .int .u64 sz), (17, .slice pa pn pc)] := by
    simp [h4, h5, h15, h16, h17]
  refine wpList_build hgd 59 _ ho ?_ ?_
  · exact (by rw [he, hb]; rfl)
  · have : (Try.prog.built 59 (Array.map (fun (q : Nat × Operand) => (q.1, a.eval q.2)) #[(4, x4), (5, x5), (15, x15), (16, x16), (17, x17)]).toList).getD #[] = msg zu li lt off sz pa pn pc (.slice none 0 0) (.pointer none) := by rw [he, hb]; rfl
    rw [← this] at h
    exact h

/-- 'Value.agg' of a message, shut: the walk's simp does not open it. -/
def M59 (li lt off sz : Int) (pa : Option Addr) (pn pc : Nat) (vm vr : Value) : Value := .agg (msg zu li lt off sz pa pn pc vm vr)
/-- A message's cells lie in block b. -/
def MsgAt (w : World) (b : Nat) (li lt off sz : Int) (pa : Option Addr) (pn pc : Nat) (vm vr : Value) : Prop := w.rangeAt b 0 (msg zu li lt off sz pa pn pc vm vr).toList

theorem wpList_msg_a {ops : Array Oper} {rest : List Oper} {op : Oper} {a : Act} {w : World} {Q : Exit → Act → World → Prop} (hgd : op.guard = none) (x4 x5 x15 x16 x17 x19 x20 : Operand)
    (ho : op.op = .build 59 #[(4, x4), (5, x5), (15, x15), (16, x16), (17, x17), (19, x19), (20, x20)]) (li lt off sz : Int) (pa : Option Addr) (pn pc : Nat) (ma : Option Addr) (mn mc : Nat) (rp : Option Addr)
    (h4 : a.eval x4 = .int .u64 li) (h5 : a.eval x5 = .int .u64 lt) (h15 : a.eval x15 = .int .u64 off) (h16 : a.eval x16 = .int .u64 sz) (h17 : a.eval x17 = .slice pa pn pc) (h19 : a.eval x19 = .slice ma mn mc) (h20 : a.eval x20 = .pointer rp)
    (h : wpList Try.prog ops Q rest (a.put op.dst (M59 li lt off sz pa pn pc (.slice ma mn mc) (.pointer rp))) w) : wpList Try.prog ops Q (op :: rest) a w :=
  wpList_build_a hgd x4 x5 x15 x16 x17 x19 x20 ho li lt off sz pa pn pc ma mn mc rp h4 h5 h15 h16 h17 h19 h20 h
theorem wpList_msg_b {ops : Array Oper} {rest : List Oper} {op : Oper} {a : Act} {w : World} {Q : Exit → Act → World → Prop} (hgd : op.guard = none) (x4 x5 x15 x16 x17 : Operand)
    (ho : op.op = .build 59 #[(4, x4), (5, x5), (15, x15), (16, x16), (17, x17)]) (li lt off sz : Int) (pa : Option Addr) (pn pc : Nat)
    (h4 : a.eval x4 = .int .u64 li) (h5 : a.eval x5 = .int .u64 lt) (h15 : a.eval x15 = .int .u64 off) (h16 : a.eval x16 = .int .u64 sz) (h17 : a.eval x17 = .slice pa pn pc)
    (h : wpList Try.prog ops Q rest (a.put op.dst (M59 li lt off sz pa pn pc (.slice none 0 0) (.pointer none))) w) : wpList Try.prog ops Q (op :: rest) a w :=
  wpList_build_b hgd x4 x5 x15 x16 x17 ho li lt off sz pa pn pc h4 h5 h15 h16 h17 h
theorem wpList_store_m59 {ops : Array Oper} {rest : List Oper} {op : Oper} {a : Act} {w0 : World} {Q : Exit → Act → World → Prop} (hgd : op.guard = none) (x y : Operand) (ho : op.op = .store 59 x y)
    (old : Array Value) (hx : a.eval x = .pointer (some ⟨w0.heap.size, 0, none⟩)) (li lt off sz : Int) (pa : Option Addr) (pn pc : Nat) (ma : Option Addr) (mn mc : Nat) (rp : Option Addr) (hy : a.eval y = M59 li lt off sz pa pn pc (.slice ma mn mc) (.pointer rp))
    (hold : old.size = 23)
    (h : ∀ W', Below w0.heap.size w0 W' → w0.heap.size < W'.heap.size → MsgAt W' w0.heap.size li lt off sz pa pn pc (.slice ma mn mc) (.pointer rp) → wpList Try.prog ops Q rest (a.put op.dst undef) W') :
    wpList Try.prog ops Q (op :: rest) a (w0.alloc (.cells old 59)) :=
  wpList_store_msg hgd x y ho old (msg zu li lt off sz pa pn pc (.slice ma mn mc) (.pointer rp)) hx hy rfl hold (by simp [msg, zu, Value.oneCell']) h
theorem wpList_load_m59 {ops : Array Oper} {rest : List Oper} {op : Oper} {a : Act} {w : World} {Q : Exit → Act → World → Prop} (hgd : op.guard = none) (x : Operand) (ho : op.op = .load 59 x)
    (b : Nat) (hx : a.eval x = .pointer (some ⟨b, 0, none⟩)) (li lt off sz : Int) (pa : Option Addr) (pn pc : Nat) (vm vr : Value) (hm : MsgAt w b li lt off sz pa pn pc vm vr)
    (h : wpList Try.prog ops Q rest (a.put op.dst (M59 li lt off sz pa pn pc vm vr)) w) : wpList Try.prog ops Q (op :: rest) a w :=
  wpList_load_mid hgd 59 x ho b 0 hx _ _ hm Try.underlying59 rfl size59 h

theorem zzA_m (b : Nat) (ix tm : Int) (vd vm0 vr0 : Value) (li lt sz : Int) (pa : Option Addr) (pn pc : Nat) (ys : List Value) (ma : Option Addr) (mn mc : Nat) (ra : Option Addr) (w : World)
    (hs : SnapAt w b ix tm vd vm0 vr0) (hsz : 0 ≤ sz) (hsz2 : sz ≤ 65536) (hp : Piece w pa pn pc ys) (hpn : pn ≤ 1048576) :
    Calls Try.prog 19 #[.pointer (some ⟨b, 0, none⟩), M59 li lt 0 sz pa pn pc (.slice ma mn mc) (.pointer ra)] w (TakeAEnd b li lt pn ys (.slice ma mn mc) (.pointer ra) w) :=
  zzA_any b ix tm vd vm0 vr0 zu li lt sz pa pn pc ys ma mn mc ra w hs hsz hsz2 hp hpn
theorem zzB_m (base b : Nat) (ix tm : Int) (x : Option Addr) (n z : Nat) (xs : List Value) (vm vr : Value) (off sz : Int) (pa : Option Addr) (pn pc : Nat) (ys : List Value) (vm1 vr1 : Value) (w : World)
    (hs : SnapAt w b ix tm (.slice x n z) vm vr) (hown : w.ownsRow base 5 1 (.slice x n z) n xs) (hbb : b < base) (hbw : base ≤ w.heap.size) (hoff : off = n) (hn0 : 0 < n) (hp : Piece w pa pn pc ys) (hnp : n + pn ≤ 1048576) :
    Calls Try.prog 19 #[.pointer (some ⟨b, 0, none⟩), M59 ix tm off sz pa pn pc vm1 vr1] w (TakeBEnd base b ix tm n pn xs ys vm vr w) :=
  zzB_any base b ix tm x n z xs vm vr zu off sz pa pn pc ys vm1 vr1 w hs hown hbb hbw hoff hn0 hp hnp
theorem zzC_m (b : Nat) (ix tm : Int) (x : Option Addr) (n z : Nat) (vm vr : Value) (li lt off sz : Int) (pa : Option Addr) (pn pc : Nat) (vm1 vr1 : Value) (w : World)
    (hs : SnapAt w b ix tm (.slice x n z) vm vr) (hoff : off ≠ 0) (hne : ix ≠ li ∨ tm ≠ lt ∨ off ≠ n) (hn : n ≤ 1048576) :
    Calls Try.prog 19 #[.pointer (some ⟨b, 0, none⟩), M59 li lt off sz pa pn pc vm1 vr1] w (TakeCEnd w) :=
  zzC_any b ix tm x n z vm vr zu li lt off sz pa pn pc vm1 vr1 w hs hoff hne hn

theorem owns_bytes {w : World} {base : Nat} {x : Option Addr} {n z : Nat} {bs : Nat → Int} (h : w.ownsRow base 5 1 (.slice x n z) n (seg bs 0 n)) (hn : n ≤ 1048576) : Bytes w x n bs := by
  obtain ⟨_, ⟨h, h0⟩ | ⟨g, cap, cur, h, _, hg, h1, h2, h3, h4⟩⟩ := h
  · cases h; exact ⟨by omega, fun _ => rfl, fun h => absurd h (by omega)⟩
  · cases h
    refine ⟨by omega, fun h => (by cases h), fun _ => ⟨g, 0, rfl, fun j hj => ?_⟩⟩
    have h5 : (cur.toList.take (n * 1))[j]? = some (.int .u8 (bs (0 + j))) := by rw [h4]; exact seg_at bs 0 n j (by omega)
    rw [List.getElem?_take_of_lt (by omega)] at h5
    simp only [Nat.zero_add] at h5 ⊢
    simp only [World.cell?, hg]
    simpa using h5

theorem Dat.later {w w' : World} {x : Option Addr} {n z : Nat} {bs : Nat → Int} (h : Dat w x n z bs) (hb : Below w.heap.size w w') : Dat w' x n z bs := by
  rcases h with h | ⟨b, h1, h2, h3⟩
  · exact .inl h
  · exact .inr ⟨b, h1, h2, h3.of_block (hb.block _ h3.lt)⟩
theorem Dat.keep {w w' : World} {x : Option Addr} {n z : Nat} {bs : Nat → Int} {bS : Nat} (h : Dat w x n z bs) (hb : KeptBut w.heap.size bS w w') (hne : ∀ b, x = some ⟨b, 0, none⟩ → b ≠ bS) : Dat w' x n z bs := by
  rcases h with h | ⟨b, h1, h2, h3⟩
  · exact .inl h
  · exact .inr ⟨b, h1, h2, h3.of_block (hb.block _ h3.lt (hne b h1))⟩

theorem MemAt.ne {w : World} {b o bS : Nat} {m : Mem} {ix tm : Int} {x : Option Addr} {n z : Nat} {vr : Value} {xm : Option Addr} {nm zm : Nat} (h : MemAt w b o m) (hs : SnapAt w bS ix tm (.slice x n z) (.slice xm nm zm) vr) : b ≠ bS := by
  rintro rfl
  obtain ⟨h1, h2, _⟩ := h
  have hs' : w.heap[b]? = _ := hs
  simp only [World.cell?, hs'] at h1 h2
  rcases o with _ | _ | _ | _ | _ | _ | _ | o <;> simp at h1 h2
theorem MemAt.keep {w w' : World} {b o bS : Nat} {m : Mem} (h : MemAt w b o m) (hne : b ≠ bS) (hb : KeptBut w.heap.size bS w w') : MemAt w' b o m := by
  obtain ⟨h1, h2, h3, h4, h5, h6⟩ := h
  have he : w'.heap[b]? = w.heap[b]? := hb.block b (World.block_lt_of_cell? _ _ h1) hne
  have hc : ∀ j, w'.cell? ⟨b, j, none⟩ = w.cell? ⟨b, j, none⟩ := fun j => by simp only [World.cell?, he]
  exact ⟨(hc _).trans h1, (hc _).trans h2, (hc _).trans h3, (hc _).trans h4, (hc _).trans h5, h6⟩
theorem Mems.keep {w w' : World} {a : Option Addr} {n : Nat} {ms : Nat → Mem} {bS : Nat} {ix tm : Int} {x : Option Addr} {k z : Nat} {vr : Value} {xm : Option Addr} {nm zm : Nat} (h : Mems w a n ms) (hs : SnapAt w bS ix tm (.slice x k z) (.slice xm nm zm) vr) (hb : KeptBut w.heap.size bS w w') : Mems w' a n ms := by
  refine ⟨h.1, h.2.1, fun h0 => ?_⟩
  obtain ⟨b, o, e, hm⟩ := h.2.2 h0
  exact ⟨b, o, e, fun j hj => (hm j hj).keep ((hm j hj).ne hs) hb⟩

/-- The loop's rounds: o bytes are assembled. -/
def Inv6 (bS : Nat) (index term : Int) (y8 : Nat) (bs2 : Nat → Int) (vm vr : Value) (W : World) (o : Nat) (wr : World) : Prop :=
  KeptBut W.heap.size bS W wr ∧ o ≤ y8 ∧ (0 < o ∨ o = y8) ∧ ∃ x z, SnapAt wr bS index term (.slice x o z) vm vr ∧ wr.ownsRow W.heap.size 5 1 (.slice x o z) o (seg bs2 0 o)
theorem Inv6.later {bS : Nat} {index term : Int} {y8 : Nat} {bs2 : Nat → Int} {vm vr : Value} {W : World} {o : Nat} {wr w' : World} (h : Inv6 bS index term y8 bs2 vm vr W o wr) (hb : Below wr.heap.size wr w') : Inv6 bS index term y8 bs2 vm vr W o w' := by
  obtain ⟨h1, h2, h3, x, z, h4, h5⟩ := h
  exact ⟨h1.grown (grown_of_below hb) h1.size (fun k hk => by cases hk), h2, h3, x, z, h4.later hb, owns_below h5 hb⟩
theorem Inv6.step {bS : Nat} {index term : Int} {y8 : Nat} {bs2 : Nat → Int} {vm vr : Value} {W : World} {o : Nat} {wr w' : World} {q : Nat} {e : Ending} (h : Inv6 bS index term y8 bs2 vm vr W o wr) (hoq : o ≤ q) (hq : q ≤ y8) (ho : 0 < o)
    (ht : TakeBEnd W.heap.size bS index term o (q - o) (seg bs2 0 o) (seg bs2 o q) vm vr wr e w') : Inv6 bS index term y8 bs2 vm vr W q w' := by
  obtain ⟨h1, _⟩ := h
  obtain ⟨_, k, x, z, h4, h5⟩ := ht
  rw [seg_append _ _ _ hoq] at h5
  rw [Nat.add_sub_cancel' hoq] at h4 h5
  exact ⟨⟨k.os.trans h1.os, k.tape.trans h1.tape, k.output.trans h1.output, Nat.le_trans h1.size k.size, fun i hi hne => (k.block i hi hne).trans (h1.block i hi hne)⟩, hq, .inl (by omega), x, z, h4, h5⟩
theorem Inv6.step' {bS : Nat} {index term : Int} {y8 : Nat} {bs2 : Nat → Int} {vm vr : Value} {W : World} {o : Nat} {wr w' : World} {q pn : Nat} {e : Ending} (h : Inv6 bS index term y8 bs2 vm vr W o wr) (hpn : o + pn = q) (hq : q ≤ y8) (ho : 0 < o)
    (ht : TakeBEnd W.heap.size bS index term o pn (seg bs2 0 o) (seg bs2 o q) vm vr wr e w') : Inv6 bS index term y8 bs2 vm vr W q w' := by
  obtain rfl : pn = q - o := by omega
  exact h.step (by omega) hq ho ht
theorem Piece.cast {w : World} {pa : Option Addr} {n m pc : Nat} {ys : List Value} (h : Piece w pa n pc ys) (e : n = m) : Piece w pa m pc ys := e ▸ h
theorem xor_one_ne (t : Int) (h0 : 0 ≤ t) (h1 : t < 18446744073709551616) : t ≠ bits .xor .u64 t 1 := by
  obtain ⟨n, rfl⟩ := Int.eq_ofNat_of_zero_le h0
  have := bits_xor_u64_nat n 1 (by omega) (by decide)
  intro h
  have h2 : (n : Int) = ((n ^^^ 1 : Nat) : Int) := h.trans this
  have h3 : n = n ^^^ 1 := by omega
  have h4 : n ^^^ n = n ^^^ (n ^^^ 1) := congrArg (n ^^^ ·) h3
  rw [← Nat.xor_assoc, Nat.xor_self, Nat.zero_xor] at h4
  cases h4
theorem below_of_kept {B bS : Nat} {w X Y : World} (h : Below B w X) (k : KeptBut X.heap.size bS X Y) (hB : B ≤ bS) (hX : B ≤ X.heap.size) : Below B w Y :=
  ⟨k.os.trans h.os, k.tape.trans h.tape, k.output.trans h.output, Nat.le_trans h.size k.size, fun i hi => (k.block i (by omega) (by omega)).trans (h.block i hi)⟩
theorem Dat.bytes {w : World} {x : Option Addr} {n z : Nat} {bs : Nat → Int} (h : Dat w x n z bs) (hn : n ≤ 1048576) : Bytes w x n bs := by
  rcases h with ⟨rfl, rfl, rfl⟩ | ⟨b, rfl, rfl, hr⟩
  · exact ⟨by omega, fun _ => rfl, fun h => absurd h (by omega)⟩
  · exact ⟨by omega, fun h => (by cases h), fun _ => ⟨b, 0, rfl, fun j hj => by rw [Nat.zero_add]; exact hr.cell hj⟩⟩

end Go.Proofs.Qxb6605768a
