/-
  Seat b6605768a. What zMessage (18) builds: the laws.
-/
import Derived.Test.Qxb6605768aZMsg
import Derived.Test.Qxb6605768aTake4
import Derived.RangeFuncRecord
namespace Go.Proofs.Qxb6605768a
open Go.RowKit
set_option linter.unusedVariables false

/-- The fields of a copied message that take does not read. -/
def zmu (z : ZM) (xe : Option Addr) (ye ze : Nat) (i : Nat) : Value := ([.int .u8 z.kind, .int .i64 z.fr, .int .i64 z.to, .int .u64 z.tm, .bool false, .bool false, .int .u64 z.pi, .int .u64 z.pt, .slice xe ye ze, .int .u64 z.cm, .bool z.ok, .bool z.pre, .bool z.tr, .int .u64 z.ix, .int .u64 z.ct, .bool false, .bool false, .bool false, .bool z.done, .bool false, .bool false, .int .u64 z.inc, .int .u64 z.rd] : List Value).getD i (.bool false)
/-- A message as a value, shut. -/
def MU (u : Nat → Value) (li lt off sz : Int) (pa : Option Addr) (pn pc : Nat) (vm vr : Value) : Value := .agg (msg u li lt off sz pa pn pc vm vr)

theorem build_m (X : World) (z : ZM) (xe : Option Addr) (ye ze : Nat) (x : Option Addr) (y zz : Nat) (xm : Option Addr) (ym zm : Nat) (xr : Option Addr) : (Instr.build 59 #[(0, .int .u8 z.kind), (1, .int .i64 z.fr), (2, .int .i64 z.to), (3, .int .u64 z.tm), (4, .int .u64 z.li), (5, .int .u64 z.lt), (6, .int .u64 z.pi), (7, .int .u64 z.pt), (8, .slice xe ye ze), (9, .int .u64 z.cm), (10, .bool z.ok), (11, .bool z.pre), (12, .bool z.tr), (13, .int .u64 z.ix), (14, .int .u64 z.ct), (15, .int .u64 z.off), (16, .int .u64 z.sz), (17, .slice x y zz), (18, .bool z.done), (19, .slice xm ym zm), (20, .pointer xr), (21, .int .u64 z.inc), (22, .int .u64 z.rd)]).run Try.prog X = .ok (MU (zmu z xe ye ze) z.li z.lt z.off z.sz x y zz (.slice xm ym zm) (.pointer xr)) X :=
  run_build X 59 _ _ (by kernel_rfl)

theorem step_build_m {ops : Array Oper} {o : Oper} {a : Act} {w : World} {K : Act → World → Prop} {Q : Exit → Act → World → Prop} {E : Prop} (hgd : o.guard = none) (x0 x1 x2 x3 x4 x5 x6 x7 x8 x9 x10 x11 x12 x13 x14 x15 x16 x17 x18 x19 x20 x21 x22 : Operand)
    (ho : o.op = .build 59 #[(0, x0), (1, x1), (2, x2), (3, x3), (4, x4), (5, x5), (6, x6), (7, x7), (8, x8), (9, x9), (10, x10), (11, x11), (12, x12), (13, x13), (14, x14), (15, x15), (16, x16), (17, x17), (18, x18), (19, x19), (20, x20), (21, x21), (22, x22)]) (z : ZM) (xe : Option Addr) (ye ze : Nat) (x : Option Addr) (y zz : Nat) (xm : Option Addr) (ym zm : Nat) (xr : Option Addr)
    (h0 : a.eval x0 = .int .u8 z.kind) (h1 : a.eval x1 = .int .i64 z.fr) (h2 : a.eval x2 = .int .i64 z.to) (h3 : a.eval x3 = .int .u64 z.tm) (h4 : a.eval x4 = .int .u64 z.li) (h5 : a.eval x5 = .int .u64 z.lt) (h6 : a.eval x6 = .int .u64 z.pi) (h7 : a.eval x7 = .int .u64 z.pt) (h8 : a.eval x8 = .slice xe ye ze) (h9 : a.eval x9 = .int .u64 z.cm) (h10 : a.eval x10 = .bool z.ok) (h11 : a.eval x11 = .bool z.pre) (h12 : a.eval x12 = .bool z.tr) (h13 : a.eval x13 = .int .u64 z.ix) (h14 : a.eval x14 = .int .u64 z.ct) (h15 : a.eval x15 = .int .u64 z.off) (h16 : a.eval x16 = .int .u64 z.sz) (h17 : a.eval x17 = .slice x y zz) (h18 : a.eval x18 = .bool z.done) (h19 : a.eval x19 = .slice xm ym zm) (h20 : a.eval x20 = .pointer xr) (h21 : a.eval x21 = .int .u64 z.inc) (h22 : a.eval x22 = .int .u64 z.rd)
    (h : K (a.put o.dst (MU (zmu z xe ye ze) z.li z.lt z.off z.sz x y zz (.slice xm ym zm) (.pointer xr))) w) :
    if Region.wanted o (yielded ops a.tmps) = true then Oper.wp Try.prog o a w K Q else E := by
  have hw : Region.wanted o (yielded ops a.tmps) = true := by simp [Region.wanted, hgd]
  rw [if_pos hw]
  have hb : Try.prog.built 59 [(0, .int .u8 z.kind), (1, .int .i64 z.fr), (2, .int .i64 z.to), (3, .int .u64 z.tm), (4, .int .u64 z.li), (5, .int .u64 z.lt), (6, .int .u64 z.pi), (7, .int .u64 z.pt), (8, .slice xe ye ze), (9, .int .u64 z.cm), (10, .bool z.ok), (11, .bool z.pre), (12, .bool z.tr), (13, .int .u64 z.ix), (14, .int .u64 z.ct), (15, .int .u64 z.off), (16, .int .u64 z.sz), (17, .slice x y zz), (18, .bool z.done), (19, .slice xm ym zm), (20, .pointer xr), (21, .int .u64 z.inc), (22, .int .u64 z.rd)] = some (msg (zmu z xe ye ze) z.li z.lt z.off z.sz x y zz (.slice xm ym zm) (.pointer xr)) := by kernel_rfl
  have he : (Array.map (fun (q : Nat × Operand) => (q.1, a.eval q.2)) #[(0, x0), (1, x1), (2, x2), (3, x3), (4, x4), (5, x5), (6, x6), (7, x7), (8, x8), (9, x9), (10, x10), (11, x11), (12, x12), (13, x13), (14, x14), (15, x15), (16, x16), (17, x17), (18, x18), (19, x19), (20, x20), (21, x21), (22, x22)]).toList = [(0, .int .u8 z.kind), (1, .int .i64 z.fr), (2, .int .i64 z.to), (3, .int .u64 z.tm), (4, .int .u64 z.li), (5, .int .u64 z.lt), (6, .int .u64 z.pi), (7, .int .u64 z.pt), (8, .slice xe ye ze), (9, .int .u64 z.cm), (10, .bool z.ok), (11, .bool z.pre), (12, .bool z.tr), (13, .int .u64 z.ix), (14, .int .u64 z.ct), (15, .int .u64 z.off), (16, .int .u64 z.sz), (17, .slice x y zz), (18, .bool z.done), (19, .slice xm ym zm), (20, .pointer xr), (21, .int .u64 z.inc), (22, .int .u64 z.rd)] := by
    simp [h0, h1, h2, h3, h4, h5, h6, h7, h8, h9, h10, h11, h12, h13, h14, h15, h16, h17, h18, h19, h20, h21, h22]
  refine wp_build 59 _ ho ?_ ?_
  · exact (by rw [he, hb]; rfl)
  · have : (Try.prog.built 59 (Array.map (fun (q : Nat × Operand) => (q.1, a.eval q.2)) #[(0, x0), (1, x1), (2, x2), (3, x3), (4, x4), (5, x5), (6, x6), (7, x7), (8, x8), (9, x9), (10, x10), (11, x11), (12, x12), (13, x13), (14, x14), (15, x15), (16, x16), (17, x17), (18, x18), (19, x19), (20, x20), (21, x21), (22, x22)]).toList).getD #[] = msg (zmu z xe ye ze) z.li z.lt z.off z.sz x y zz (.slice xm ym zm) (.pointer xr) := by rw [he, hb]; rfl
    unfold MU at h
    rw [← this] at h
    exact h

/-- A row of a message's size. -/
def Row59 (w : World) (b : Nat) : Prop := ∃ old, w.heap[b]? = some (.cells old 59 (0, 0)) ∧ old.size = 23
theorem Row59.lt {w : World} {b : Nat} (h : Row59 w b) : b < w.heap.size := by
  obtain ⟨_, h, _⟩ := h
  exact (Array.getElem?_eq_some_iff.1 h).1
theorem Row59.later {w w' : World} {b : Nat} (h : Row59 w b) (hb : Below w.heap.size w w') : Row59 w' b := by
  have hl := h.lt
  obtain ⟨old, h, h2⟩ := h
  exact ⟨old, (hb.block b hl).trans h, h2⟩
theorem Row59.put {w : World} {b : Nat} (h : Row59 w b) (cs : Array Value) (hc : cs.size = 23) : Row59 (w.setRow b cs) b := by
  obtain ⟨old, h, h2⟩ := h
  exact ⟨cs, setRow_heap w b old cs 59 (0, 0) h, hc⟩

theorem step_store_m {ops : Array Oper} {o : Oper} {a : Act} {w : World} {K : Act → World → Prop} {Q : Exit → Act → World → Prop} {E : Prop} (hgd : o.guard = none) (p q : Operand) (ho : o.op = .store 59 p q)
    (tb : Nat) (hx : a.eval p = .pointer (some ⟨tb, 0, none⟩)) (z : ZM) (xe : Option Addr) (ye ze : Nat) (x : Option Addr) (y zz : Nat) (xm : Option Addr) (ym zm : Nat) (xr : Option Addr)
    (hy : a.eval q = MU (zmu z xe ye ze) z.li z.lt z.off z.sz x y zz (.slice xm ym zm) (.pointer xr)) (hrow : Row59 w tb)
    (h : K (a.put o.dst undef) (w.setRow tb (msg (zmu z xe ye ze) z.li z.lt z.off z.sz x y zz (.slice xm ym zm) (.pointer xr)))) :
    if Region.wanted o (yielded ops a.tmps) = true then Oper.wp Try.prog o a w K Q else E := by
  have hw : Region.wanted o (yielded ops a.tmps) = true := by simp [Region.wanted, hgd]
  rw [if_pos hw]
  obtain ⟨old, hg, hs⟩ := hrow
  exact wp_store_row 59 p q ho tb _ hx hy 59 old hg (by rw [size59]; rfl) hs (by simp [msg, zmu, Value.oneCell']) h

theorem results18_run (tmps : Array Value) (W : World) (tb : Nat) (cells : List Value) (ht : tmps.getD 2 undef = .pointer (some ⟨tb, 0, none⟩)) (hr : W.rangeAt tb 0 cells) (hl : cells.length = 23) :
    (results Try.f18 tmps).run Try.prog W = .ok (.agg cells.toArray) W := by
  have hl' := run_loadVar_mid (P := Try.prog) W tb 0 59 cells _ hr Try.underlying59 rfl (by rw [size59, hl])
  have ht' : tmps[2]?.getD undef = .pointer (some ⟨tb, 0, none⟩) := by simpa using ht
  simp [results, Try.results18, ht', asAddr, hl']

theorem CopyB.row {a : Option Addr} {n : Nat} {bs : Nat → Int} {B : Nat} {v : Value} {w : World} (h : CopyB a n bs B v w) (tb : Nat) (cs : Array Value) (htb : tb < B) : CopyB a n bs B v (w.setRow tb cs) := by
  rcases h with h | ⟨h1, b, h2, h3, h4⟩
  · exact .inl h
  · exact .inr ⟨h1, b, h2, h3, h4.of_block (setRow_other w tb b cs (by omega))⟩
theorem CopyM.row {a : Option Addr} {n : Nat} {ms : Nat → Mem} {B : Nat} {v : Value} {w : World} (h : CopyM a n ms B v w) (tb : Nat) (cs : Array Value) (htb : tb < B) : CopyM a n ms B v (w.setRow tb cs) := by
  rcases h with h | ⟨h1, b, h2, h3, ⟨f, h4⟩, h5⟩
  · exact .inl h
  · exact .inr ⟨h1, b, h2, h3, ⟨f, h4.of_block (setRow_other w tb b cs (by omega))⟩, fun j hj => (h5 j hj).block (setRow_other w tb b cs (by omega))⟩
theorem CopyP.row {p : Option Addr} {m : Mem} {B : Nat} {v : Value} {w : World} (h : CopyP p m B v w) (tb : Nat) (cs : Array Value) (htb : tb < B) : CopyP p m B v (w.setRow tb cs) := by
  rcases h with h | ⟨h1, b, h2, h3, h4⟩
  · exact .inl h
  · exact .inr ⟨h1, b, h2, h3, h4.block (setRow_other w tb b cs (by omega))⟩

def MsgEnd (z : ZM) (bs : Nat → Int) (ms : Nat → Mem) (rm : Mem) (w : World) (e : Ending) (w' : World) : Prop :=
  Below w.heap.size w w' ∧ ∃ xe ye ze x y zz xm ym zm xr B, e = .returned (MU (zmu z xe ye ze) z.li z.lt z.off z.sz x y zz (.slice xm ym zm) (.pointer xr)) ∧ w.heap.size ≤ B ∧ CopyB z.pa z.pn bs B (.slice x y zz) w' ∧ (∃ B, CopyM z.ma z.mn ms B (.slice xm ym zm) w') ∧ ∃ B, CopyP z.rp rm B (.pointer xr) w'

end Go.Proofs.Qxb6605768a
