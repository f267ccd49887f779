/-
  Seat b6605768a. zMessage (18).
-/
import Derived.Test.Qxb6605768aMsgU
namespace Go.Proofs.Qxb6605768a
open Go.RowKit
set_option linter.unusedVariables false

theorem yields_build_m {ops : Array Oper} {S : World → Prop} {o : Oper} {a : Act} (hgd : o.guard = none) (x0 x1 x2 x3 x4 x5 x6 x7 x8 x9 x10 x11 x12 x13 x14 x15 x16 x17 x18 x19 x20 x21 x22 : Operand)
    (ho : o.op = .build 59 #[(0, x0), (1, x1), (2, x2), (3, x3), (4, x4), (5, x5), (6, x6), (7, x7), (8, x8), (9, x9), (10, x10), (11, x11), (12, x12), (13, x13), (14, x14), (15, x15), (16, x16), (17, x17), (18, x18), (19, x19), (20, x20), (21, x21), (22, x22)]) (z : ZM) (xe : Option Addr) (ye ze : Nat) (x : Option Addr) (y zz : Nat) (xm : Option Addr) (ym zm : Nat) (xr : Option Addr)
    (h0 : a.eval x0 = .int .u8 z.kind) (h1 : a.eval x1 = .int .i64 z.fr) (h2 : a.eval x2 = .int .i64 z.to) (h3 : a.eval x3 = .int .u64 z.tm) (h4 : a.eval x4 = .int .u64 z.li) (h5 : a.eval x5 = .int .u64 z.lt) (h6 : a.eval x6 = .int .u64 z.pi) (h7 : a.eval x7 = .int .u64 z.pt) (h8 : a.eval x8 = .slice xe ye ze) (h9 : a.eval x9 = .int .u64 z.cm) (h10 : a.eval x10 = .bool z.ok) (h11 : a.eval x11 = .bool z.pre) (h12 : a.eval x12 = .bool z.tr) (h13 : a.eval x13 = .int .u64 z.ix) (h14 : a.eval x14 = .int .u64 z.ct) (h15 : a.eval x15 = .int .u64 z.off) (h16 : a.eval x16 = .int .u64 z.sz) (h17 : a.eval x17 = .slice x y zz) (h18 : a.eval x18 = .bool z.done) (h19 : a.eval x19 = .slice xm ym zm) (h20 : a.eval x20 = .pointer xr) (h21 : a.eval x21 = .int .u64 z.inc) (h22 : a.eval x22 = .int .u64 z.rd) : YieldsIf Try.prog ops S o (MU (zmu z xe ye ze) z.li z.lt z.off z.sz x y zz (.slice xm ym zm) (.pointer xr)) a := by
  refine .inl ⟨by simp [Region.wanted, hgd], fun w _ => ?_⟩
  have hb : Try.prog.built 59 [(0, .int .u8 z.kind), (1, .int .i64 z.fr), (2, .int .i64 z.to), (3, .int .u64 z.tm), (4, .int .u64 z.li), (5, .int .u64 z.lt), (6, .int .u64 z.pi), (7, .int .u64 z.pt), (8, .slice xe ye ze), (9, .int .u64 z.cm), (10, .bool z.ok), (11, .bool z.pre), (12, .bool z.tr), (13, .int .u64 z.ix), (14, .int .u64 z.ct), (15, .int .u64 z.off), (16, .int .u64 z.sz), (17, .slice x y zz), (18, .bool z.done), (19, .slice xm ym zm), (20, .pointer xr), (21, .int .u64 z.inc), (22, .int .u64 z.rd)] = some (msg (zmu z xe ye ze) z.li z.lt z.off z.sz x y zz (.slice xm ym zm) (.pointer xr)) := by kernel_rfl
  have he : (Array.map (fun (q : Nat × Operand) => (q.1, a.eval q.2)) #[(0, x0), (1, x1), (2, x2), (3, x3), (4, x4), (5, x5), (6, x6), (7, x7), (8, x8), (9, x9), (10, x10), (11, x11), (12, x12), (13, x13), (14, x14), (15, x15), (16, x16), (17, x17), (18, x18), (19, x19), (20, x20), (21, x21), (22, x22)]).toList = [(0, .int .u8 z.kind), (1, .int .i64 z.fr), (2, .int .i64 z.to), (3, .int .u64 z.tm), (4, .int .u64 z.li), (5, .int .u64 z.lt), (6, .int .u64 z.pi), (7, .int .u64 z.pt), (8, .slice xe ye ze), (9, .int .u64 z.cm), (10, .bool z.ok), (11, .bool z.pre), (12, .bool z.tr), (13, .int .u64 z.ix), (14, .int .u64 z.ct), (15, .int .u64 z.off), (16, .int .u64 z.sz), (17, .slice x y zz), (18, .bool z.done), (19, .slice xm ym zm), (20, .pointer xr), (21, .int .u64 z.inc), (22, .int .u64 z.rd)] := by
    simp [h0, h1, h2, h3, h4, h5, h6, h7, h8, h9, h10, h11, h12, h13, h14, h15, h16, h17, h18, h19, h20, h21, h22]
  have hr := run_build (P := Try.prog) w 59 (Array.map (fun (q : Nat × Operand) => (q.1, a.eval q.2)) #[(0, x0), (1, x1), (2, x2), (3, x3), (4, x4), (5, x5), (6, x6), (7, x7), (8, x8), (9, x9), (10, x10), (11, x11), (12, x12), (13, x13), (14, x14), (15, x15), (16, x16), (17, x17), (18, x18), (19, x19), (20, x20), (21, x21), (22, x22)]) (msg (zmu z xe ye ze) z.li z.lt z.off z.sz x y zz (.slice xm ym zm) (.pointer xr)) (by rw [he, hb])
  unfold execOp
  simp only [ho, Sem.run_bind, hr, Result.andThen_ok]
  rfl

theorem step_store_md {ops : Array Oper} {o : Oper} {a : Act} {w : World} {K : Act → World → Prop} {Q : Exit → Act → World → Prop} {E : Prop} (hgd : o.guard = none) (hdst : o.dst = none) (p q : Operand) (ho : o.op = .store 59 p q)
    (tb : Nat) (hx : a.eval p = .pointer (some ⟨tb, 0, none⟩)) (z : ZM) (xe : Option Addr) (ye ze : Nat) (x : Option Addr) (y zz : Nat) (xm : Option Addr) (ym zm : Nat) (xr : Option Addr)
    (hy : a.eval q = MU (zmu z xe ye ze) z.li z.lt z.off z.sz x y zz (.slice xm ym zm) (.pointer xr)) (hrow : Row59 w tb)
    (h : K a (w.setRow tb (msg (zmu z xe ye ze) z.li z.lt z.off z.sz x y zz (.slice xm ym zm) (.pointer xr)))) :
    if Region.wanted o (yielded ops a.tmps) = true then Oper.wp Try.prog o a w K Q else E :=
  step_store_m hgd p q ho tb hx z xe ye ze x y zz xm ym zm xr hy hrow (by rw [hdst]; exact h)

theorem Row59.range {w : World} {b : Nat} (h : Row59 w b) (cs : Array Value) : (w.setRow b cs).rangeAt b 0 cs.toList := by
  obtain ⟨old, h, _⟩ := h
  intro j v hv
  rw [Nat.zero_add, cell_setRow_same _ _ j old cs 59 (0, 0) h]
  simpa using hv

theorem wpAnyH_takeD {P : Program} {md : Region.Mode} {ops : Array Oper} {Q : Exit → Act → World → Prop} {S : World → Prop} {i : Nat} {oi : Oper} (d : Option Tmp) (v : Value) {fuel : Nat} {listed : Array Bool} {a : Act} {w : World} (hi : ops[i]? = some oi) (hd : oi.dst = d)
    (hs : Region.noSelect ops = true) (hf : Region.free md ops listed i = true) (hr : (Region.ready md ops listed).contains i = true)
    (hQ : ∀ c a w, Q (.panic c) (a.put oi.dst v) w → Q (.panic c) a w) (hy : YieldsIf P ops S oi v a) (hS : S w)
    (h : wpAnyH P md ops Q S fuel (listed.setIfInBounds i true) (a.put d v) w) : wpAnyH P md ops Q S (fuel + 1) listed a w := by
  subst hd
  exact wpAnyH_take hi hs hf hr hQ hy hS h

set_option maxRecDepth 100000 in
set_option maxHeartbeats 16000000 in
theorem zmessage_any (z : ZM) (es : Nat → Ent) (bs : Nat → Int) (ms : Nat → Mem) (rm : Mem) (w : World) (he : Ents w z.ea z.en es) (hen : z.en ≤ 1048576) (hes : ∀ j, j < z.en → (es j).mn ≤ 1048576) (hp : Bytes w z.pa z.pn bs) (hpn : z.pn ≤ 1048576) (hm : Mems w z.ma z.mn ms) (hmn : z.mn ≤ 1048576) (hr : MemPtr w z.rp rm) :
    Calls Try.prog 18 #[.agg z.val] w (MsgEnd z bs ms rm w) := by
  go_enter Try.func18, Try.ntmps18
  go_wp2
  have HE : Hid _ := he
  have HES : Hid _ := hes
  have HD : Hid _ := hp
  have HM : Hid _ := hm
  have HR : Hid _ := hr
  clear he hes hp hm hr
  obtain ⟨W, hW⟩ : ∃ W, (w.alloc (.cells z.val 42)).alloc (.cells #[.int .u8 0, .int .i64 0, .int .i64 0, .int .u64 0, .int .u64 0, .int .u64 0, .int .u64 0, .int .u64 0, .slice none 0 0, .int .u64 0, .bool false, .bool false, .bool false, .int .u64 0, .int .u64 0, .int .u64 0, .int .u64 0, .slice none 0 0, .bool false, .slice none 0 0, .pointer none, .int .u64 0, .int .u64 0] 59) = W := ⟨_, rfl⟩
  have HS0 : Hid (Below w.heap.size w W.drew ∧ Row59 W.drew (w.heap.size + 1) ∧ W.drew.cell? ⟨w.heap.size, 0, none⟩ = some (.int .u8 z.kind) ∧ W.drew.cell? ⟨w.heap.size, 1, none⟩ = some (.int .i64 z.fr) ∧ W.drew.cell? ⟨w.heap.size, 2, none⟩ = some (.int .i64 z.to) ∧ W.drew.cell? ⟨w.heap.size, 3, none⟩ = some (.int .u64 z.tm) ∧ W.drew.cell? ⟨w.heap.size, 4, none⟩ = some (.int .u64 z.li) ∧ W.drew.cell? ⟨w.heap.size, 5, none⟩ = some (.int .u64 z.lt) ∧ W.drew.cell? ⟨w.heap.size, 6, none⟩ = some (.int .u64 z.pi) ∧ W.drew.cell? ⟨w.heap.size, 7, none⟩ = some (.int .u64 z.pt) ∧ W.drew.cell? ⟨w.heap.size, 8, none⟩ = some (.slice z.ea z.en z.ec) ∧ W.drew.cell? ⟨w.heap.size, 9, none⟩ = some (.int .u64 z.cm) ∧ W.drew.cell? ⟨w.heap.size, 10, none⟩ = some (.bool z.ok) ∧ W.drew.cell? ⟨w.heap.size, 11, none⟩ = some (.bool z.pre) ∧ W.drew.cell? ⟨w.heap.size, 12, none⟩ = some (.bool z.tr) ∧ W.drew.cell? ⟨w.heap.size, 13, none⟩ = some (.int .u64 z.ix) ∧ W.drew.cell? ⟨w.heap.size, 14, none⟩ = some (.int .u64 z.ct) ∧ W.drew.cell? ⟨w.heap.size, 15, none⟩ = some (.int .u64 z.off) ∧ W.drew.cell? ⟨w.heap.size, 16, none⟩ = some (.int .u64 z.sz) ∧ W.drew.cell? ⟨w.heap.size, 17, none⟩ = some (.slice z.pa z.pn z.pc) ∧ W.drew.cell? ⟨w.heap.size, 18, none⟩ = some (.bool z.done) ∧ W.drew.cell? ⟨w.heap.size, 19, none⟩ = some (.slice z.ma z.mn z.mc) ∧ W.drew.cell? ⟨w.heap.size, 20, none⟩ = some (.pointer z.rp) ∧ W.drew.cell? ⟨w.heap.size, 21, none⟩ = some (.int .u64 z.inc) ∧ W.drew.cell? ⟨w.heap.size, 22, none⟩ = some (.int .u64 z.rd)) := by
    rw [← hW]
    refine ⟨(((Below.refl _ _).alloc (Nat.le_refl _) _).alloc (by simp) _).drew, ?_, by simp, by simp, by simp, by simp, by simp, by simp, by simp, by simp, by simp, by simp, by simp, by simp, by simp, by simp, by simp, by simp, by simp, by simp, by simp, by simp, by simp, by simp, by simp⟩
    have h1 := World.alloc_heap_new (w.alloc (.cells z.val 42)) (.cells #[.int .u8 0, .int .i64 0, .int .i64 0, .int .u64 0, .int .u64 0, .int .u64 0, .int .u64 0, .int .u64 0, .slice none 0 0, .int .u64 0, .bool false, .bool false, .bool false, .int .u64 0, .int .u64 0, .int .u64 0, .int .u64 0, .slice none 0 0, .bool false, .slice none 0 0, .pointer none, .int .u64 0, .int .u64 0] 59)
    rw [World.size_alloc] at h1
    exact ⟨_, h1, rfl⟩
  rw [hW]
  clear hW
  have HK : Hid (∀ X Y : World, (Below w.heap.size w X ∧ Row59 X (w.heap.size + 1) ∧ X.cell? ⟨w.heap.size, 0, none⟩ = some (.int .u8 z.kind) ∧ X.cell? ⟨w.heap.size, 1, none⟩ = some (.int .i64 z.fr) ∧ X.cell? ⟨w.heap.size, 2, none⟩ = some (.int .i64 z.to) ∧ X.cell? ⟨w.heap.size, 3, none⟩ = some (.int .u64 z.tm) ∧ X.cell? ⟨w.heap.size, 4, none⟩ = some (.int .u64 z.li) ∧ X.cell? ⟨w.heap.size, 5, none⟩ = some (.int .u64 z.lt) ∧ X.cell? ⟨w.heap.size, 6, none⟩ = some (.int .u64 z.pi) ∧ X.cell? ⟨w.heap.size, 7, none⟩ = some (.int .u64 z.pt) ∧ X.cell? ⟨w.heap.size, 8, none⟩ = some (.slice z.ea z.en z.ec) ∧ X.cell? ⟨w.heap.size, 9, none⟩ = some (.int .u64 z.cm) ∧ X.cell? ⟨w.heap.size, 10, none⟩ = some (.bool z.ok) ∧ X.cell? ⟨w.heap.size, 11, none⟩ = some (.bool z.pre) ∧ X.cell? ⟨w.heap.size, 12, none⟩ = some (.bool z.tr) ∧ X.cell? ⟨w.heap.size, 13, none⟩ = some (.int .u64 z.ix) ∧ X.cell? ⟨w.heap.size, 14, none⟩ = some (.int .u64 z.ct) ∧ X.cell? ⟨w.heap.size, 15, none⟩ = some (.int .u64 z.off) ∧ X.cell? ⟨w.heap.size, 16, none⟩ = some (.int .u64 z.sz) ∧ X.cell? ⟨w.heap.size, 17, none⟩ = some (.slice z.pa z.pn z.pc) ∧ X.cell? ⟨w.heap.size, 18, none⟩ = some (.bool z.done) ∧ X.cell? ⟨w.heap.size, 19, none⟩ = some (.slice z.ma z.mn z.mc) ∧ X.cell? ⟨w.heap.size, 20, none⟩ = some (.pointer z.rp) ∧ X.cell? ⟨w.heap.size, 21, none⟩ = some (.int .u64 z.inc) ∧ X.cell? ⟨w.heap.size, 22, none⟩ = some (.int .u64 z.rd)) → Below X.heap.size X Y → (Below w.heap.size w Y ∧ Row59 Y (w.heap.size + 1) ∧ Y.cell? ⟨w.heap.size, 0, none⟩ = some (.int .u8 z.kind) ∧ Y.cell? ⟨w.heap.size, 1, none⟩ = some (.int .i64 z.fr) ∧ Y.cell? ⟨w.heap.size, 2, none⟩ = some (.int .i64 z.to) ∧ Y.cell? ⟨w.heap.size, 3, none⟩ = some (.int .u64 z.tm) ∧ Y.cell? ⟨w.heap.size, 4, none⟩ = some (.int .u64 z.li) ∧ Y.cell? ⟨w.heap.size, 5, none⟩ = some (.int .u64 z.lt) ∧ Y.cell? ⟨w.heap.size, 6, none⟩ = some (.int .u64 z.pi) ∧ Y.cell? ⟨w.heap.size, 7, none⟩ = some (.int .u64 z.pt) ∧ Y.cell? ⟨w.heap.size, 8, none⟩ = some (.slice z.ea z.en z.ec) ∧ Y.cell? ⟨w.heap.size, 9, none⟩ = some (.int .u64 z.cm) ∧ Y.cell? ⟨w.heap.size, 10, none⟩ = some (.bool z.ok) ∧ Y.cell? ⟨w.heap.size, 11, none⟩ = some (.bool z.pre) ∧ Y.cell? ⟨w.heap.size, 12, none⟩ = some (.bool z.tr) ∧ Y.cell? ⟨w.heap.size, 13, none⟩ = some (.int .u64 z.ix) ∧ Y.cell? ⟨w.heap.size, 14, none⟩ = some (.int .u64 z.ct) ∧ Y.cell? ⟨w.heap.size, 15, none⟩ = some (.int .u64 z.off) ∧ Y.cell? ⟨w.heap.size, 16, none⟩ = some (.int .u64 z.sz) ∧ Y.cell? ⟨w.heap.size, 17, none⟩ = some (.slice z.pa z.pn z.pc) ∧ Y.cell? ⟨w.heap.size, 18, none⟩ = some (.bool z.done) ∧ Y.cell? ⟨w.heap.size, 19, none⟩ = some (.slice z.ma z.mn z.mc) ∧ Y.cell? ⟨w.heap.size, 20, none⟩ = some (.pointer z.rp) ∧ Y.cell? ⟨w.heap.size, 21, none⟩ = some (.int .u64 z.inc) ∧ Y.cell? ⟨w.heap.size, 22, none⟩ = some (.int .u64 z.rd))) := by
    rintro X Y ⟨s0, s1, s2, s3, s4, s5, s6, s7, s8, s9, s10, s11, s12, s13, s14, s15, s16, s17, s18, s19, s20, s21, s22, s23, s24⟩ hXY
    exact ⟨s0.trans (hXY.mono s0.size), s1.later hXY, keepc s2 hXY, keepc s3 hXY, keepc s4 hXY, keepc s5 hXY, keepc s6 hXY, keepc s7 hXY, keepc s8 hXY, keepc s9 hXY, keepc s10 hXY, keepc s11 hXY, keepc s12 hXY, keepc s13 hXY, keepc s14 hXY, keepc s15 hXY, keepc s16 hXY, keepc s17 hXY, keepc s18 hXY, keepc s19 hXY, keepc s20 hXY, keepc s21 hXY, keepc s22 hXY, keepc s23 hXY, keepc s24 hXY⟩
  have HK2 : Hid (∀ (X : World) (u : Nat → Value) (li lt off sz : Int) (pa : Option Addr) (pn pc : Nat) (vm vr : Value), (Below w.heap.size w X ∧ Row59 X (w.heap.size + 1) ∧ X.cell? ⟨w.heap.size, 0, none⟩ = some (.int .u8 z.kind) ∧ X.cell? ⟨w.heap.size, 1, none⟩ = some (.int .i64 z.fr) ∧ X.cell? ⟨w.heap.size, 2, none⟩ = some (.int .i64 z.to) ∧ X.cell? ⟨w.heap.size, 3, none⟩ = some (.int .u64 z.tm) ∧ X.cell? ⟨w.heap.size, 4, none⟩ = some (.int .u64 z.li) ∧ X.cell? ⟨w.heap.size, 5, none⟩ = some (.int .u64 z.lt) ∧ X.cell? ⟨w.heap.size, 6, none⟩ = some (.int .u64 z.pi) ∧ X.cell? ⟨w.heap.size, 7, none⟩ = some (.int .u64 z.pt) ∧ X.cell? ⟨w.heap.size, 8, none⟩ = some (.slice z.ea z.en z.ec) ∧ X.cell? ⟨w.heap.size, 9, none⟩ = some (.int .u64 z.cm) ∧ X.cell? ⟨w.heap.size, 10, none⟩ = some (.bool z.ok) ∧ X.cell? ⟨w.heap.size, 11, none⟩ = some (.bool z.pre) ∧ X.cell? ⟨w.heap.size, 12, none⟩ = some (.bool z.tr) ∧ X.cell? ⟨w.heap.size, 13, none⟩ = some (.int .u64 z.ix) ∧ X.cell? ⟨w.heap.size, 14, none⟩ = some (.int .u64 z.ct) ∧ X.cell? ⟨w.heap.size, 15, none⟩ = some (.int .u64 z.off) ∧ X.cell? ⟨w.heap.size, 16, none⟩ = some (.int .u64 z.sz) ∧ X.cell? ⟨w.heap.size, 17, none⟩ = some (.slice z.pa z.pn z.pc) ∧ X.cell? ⟨w.heap.size, 18, none⟩ = some (.bool z.done) ∧ X.cell? ⟨w.heap.size, 19, none⟩ = some (.slice z.ma z.mn z.mc) ∧ X.cell? ⟨w.heap.size, 20, none⟩ = some (.pointer z.rp) ∧ X.cell? ⟨w.heap.size, 21, none⟩ = some (.int .u64 z.inc) ∧ X.cell? ⟨w.heap.size, 22, none⟩ = some (.int .u64 z.rd)) → (Below w.heap.size w (X.setRow (w.heap.size + 1) (msg u li lt off sz pa pn pc vm vr)) ∧ Row59 (X.setRow (w.heap.size + 1) (msg u li lt off sz pa pn pc vm vr)) (w.heap.size + 1) ∧ (X.setRow (w.heap.size + 1) (msg u li lt off sz pa pn pc vm vr)).cell? ⟨w.heap.size, 0, none⟩ = some (.int .u8 z.kind) ∧ (X.setRow (w.heap.size + 1) (msg u li lt off sz pa pn pc vm vr)).cell? ⟨w.heap.size, 1, none⟩ = some (.int .i64 z.fr) ∧ (X.setRow (w.heap.size + 1) (msg u li lt off sz pa pn pc vm vr)).cell? ⟨w.heap.size, 2, none⟩ = some (.int .i64 z.to) ∧ (X.setRow (w.heap.size + 1) (msg u li lt off sz pa pn pc vm vr)).cell? ⟨w.heap.size, 3, none⟩ = some (.int .u64 z.tm) ∧ (X.setRow (w.heap.size + 1) (msg u li lt off sz pa pn pc vm vr)).cell? ⟨w.heap.size, 4, none⟩ = some (.int .u64 z.li) ∧ (X.setRow (w.heap.size + 1) (msg u li lt off sz pa pn pc vm vr)).cell? ⟨w.heap.size, 5, none⟩ = some (.int .u64 z.lt) ∧ (X.setRow (w.heap.size + 1) (msg u li lt off sz pa pn pc vm vr)).cell? ⟨w.heap.size, 6, none⟩ = some (.int .u64 z.pi) ∧ (X.setRow (w.heap.size + 1) (msg u li lt off sz pa pn pc vm vr)).cell? ⟨w.heap.size, 7, none⟩ = some (.int .u64 z.pt) ∧ (X.setRow (w.heap.size + 1) (msg u li lt off sz pa pn pc vm vr)).cell? ⟨w.heap.size, 8, none⟩ = some (.slice z.ea z.en z.ec) ∧ (X.setRow (w.heap.size + 1) (msg u li lt off sz pa pn pc vm vr)).cell? ⟨w.heap.size, 9, none⟩ = some (.int .u64 z.cm) ∧ (X.setRow (w.heap.size + 1) (msg u li lt off sz pa pn pc vm vr)).cell? ⟨w.heap.size, 10, none⟩ = some (.bool z.ok) ∧ (X.setRow (w.heap.size + 1) (msg u li lt off sz pa pn pc vm vr)).cell? ⟨w.heap.size, 11, none⟩ = some (.bool z.pre) ∧ (X.setRow (w.heap.size + 1) (msg u li lt off sz pa pn pc vm vr)).cell? ⟨w.heap.size, 12, none⟩ = some (.bool z.tr) ∧ (X.setRow (w.heap.size + 1) (msg u li lt off sz pa pn pc vm vr)).cell? ⟨w.heap.size, 13, none⟩ = some (.int .u64 z.ix) ∧ (X.setRow (w.heap.size + 1) (msg u li lt off sz pa pn pc vm vr)).cell? ⟨w.heap.size, 14, none⟩ = some (.int .u64 z.ct) ∧ (X.setRow (w.heap.size + 1) (msg u li lt off sz pa pn pc vm vr)).cell? ⟨w.heap.size, 15, none⟩ = some (.int .u64 z.off) ∧ (X.setRow (w.heap.size + 1) (msg u li lt off sz pa pn pc vm vr)).cell? ⟨w.heap.size, 16, none⟩ = some (.int .u64 z.sz) ∧ (X.setRow (w.heap.size + 1) (msg u li lt off sz pa pn pc vm vr)).cell? ⟨w.heap.size, 17, none⟩ = some (.slice z.pa z.pn z.pc) ∧ (X.setRow (w.heap.size + 1) (msg u li lt off sz pa pn pc vm vr)).cell? ⟨w.heap.size, 18, none⟩ = some (.bool z.done) ∧ (X.setRow (w.heap.size + 1) (msg u li lt off sz pa pn pc vm vr)).cell? ⟨w.heap.size, 19, none⟩ = some (.slice z.ma z.mn z.mc) ∧ (X.setRow (w.heap.size + 1) (msg u li lt off sz pa pn pc vm vr)).cell? ⟨w.heap.size, 20, none⟩ = some (.pointer z.rp) ∧ (X.setRow (w.heap.size + 1) (msg u li lt off sz pa pn pc vm vr)).cell? ⟨w.heap.size, 21, none⟩ = some (.int .u64 z.inc) ∧ (X.setRow (w.heap.size + 1) (msg u li lt off sz pa pn pc vm vr)).cell? ⟨w.heap.size, 22, none⟩ = some (.int .u64 z.rd))) := by
    rintro X u li lt off sz pa pn pc vm vr ⟨s0, s1, s2, s3, s4, s5, s6, s7, s8, s9, s10, s11, s12, s13, s14, s15, s16, s17, s18, s19, s20, s21, s22, s23, s24⟩
    exact ⟨below_setRow s0 (by omega) _, s1.put _ rfl, (cell_setRow_other _ _ _ _ (by simp)).trans s2, (cell_setRow_other _ _ _ _ (by simp)).trans s3, (cell_setRow_other _ _ _ _ (by simp)).trans s4, (cell_setRow_other _ _ _ _ (by simp)).trans s5, (cell_setRow_other _ _ _ _ (by simp)).trans s6, (cell_setRow_other _ _ _ _ (by simp)).trans s7, (cell_setRow_other _ _ _ _ (by simp)).trans s8, (cell_setRow_other _ _ _ _ (by simp)).trans s9, (cell_setRow_other _ _ _ _ (by simp)).trans s10, (cell_setRow_other _ _ _ _ (by simp)).trans s11, (cell_setRow_other _ _ _ _ (by simp)).trans s12, (cell_setRow_other _ _ _ _ (by simp)).trans s13, (cell_setRow_other _ _ _ _ (by simp)).trans s14, (cell_setRow_other _ _ _ _ (by simp)).trans s15, (cell_setRow_other _ _ _ _ (by simp)).trans s16, (cell_setRow_other _ _ _ _ (by simp)).trans s17, (cell_setRow_other _ _ _ _ (by simp)).trans s18, (cell_setRow_other _ _ _ _ (by simp)).trans s19, (cell_setRow_other _ _ _ _ (by simp)).trans s20, (cell_setRow_other _ _ _ _ (by simp)).trans s21, (cell_setRow_other _ _ _ _ (by simp)).trans s22, (cell_setRow_other _ _ _ _ (by simp)).trans s23, (cell_setRow_other _ _ _ _ (by simp)).trans s24⟩
  refine wp_region_noPanic ?_
  refine wp_region_held_drew (S := fun w' => (Below w.heap.size w w' ∧ Row59 w' (w.heap.size + 1) ∧ w'.cell? ⟨w.heap.size, 0, none⟩ = some (.int .u8 z.kind) ∧ w'.cell? ⟨w.heap.size, 1, none⟩ = some (.int .i64 z.fr) ∧ w'.cell? ⟨w.heap.size, 2, none⟩ = some (.int .i64 z.to) ∧ w'.cell? ⟨w.heap.size, 3, none⟩ = some (.int .u64 z.tm) ∧ w'.cell? ⟨w.heap.size, 4, none⟩ = some (.int .u64 z.li) ∧ w'.cell? ⟨w.heap.size, 5, none⟩ = some (.int .u64 z.lt) ∧ w'.cell? ⟨w.heap.size, 6, none⟩ = some (.int .u64 z.pi) ∧ w'.cell? ⟨w.heap.size, 7, none⟩ = some (.int .u64 z.pt) ∧ w'.cell? ⟨w.heap.size, 8, none⟩ = some (.slice z.ea z.en z.ec) ∧ w'.cell? ⟨w.heap.size, 9, none⟩ = some (.int .u64 z.cm) ∧ w'.cell? ⟨w.heap.size, 10, none⟩ = some (.bool z.ok) ∧ w'.cell? ⟨w.heap.size, 11, none⟩ = some (.bool z.pre) ∧ w'.cell? ⟨w.heap.size, 12, none⟩ = some (.bool z.tr) ∧ w'.cell? ⟨w.heap.size, 13, none⟩ = some (.int .u64 z.ix) ∧ w'.cell? ⟨w.heap.size, 14, none⟩ = some (.int .u64 z.ct) ∧ w'.cell? ⟨w.heap.size, 15, none⟩ = some (.int .u64 z.off) ∧ w'.cell? ⟨w.heap.size, 16, none⟩ = some (.int .u64 z.sz) ∧ w'.cell? ⟨w.heap.size, 17, none⟩ = some (.slice z.pa z.pn z.pc) ∧ w'.cell? ⟨w.heap.size, 18, none⟩ = some (.bool z.done) ∧ w'.cell? ⟨w.heap.size, 19, none⟩ = some (.slice z.ma z.mn z.mc) ∧ w'.cell? ⟨w.heap.size, 20, none⟩ = some (.pointer z.rp) ∧ w'.cell? ⟨w.heap.size, 21, none⟩ = some (.int .u64 z.inc) ∧ w'.cell? ⟨w.heap.size, 22, none⟩ = some (.int .u64 z.rd))) (by kernel_rfl) (by exact HS0.out) (fun hHeld => ?_)
  refine wpAnyH_takeD (i := 0) (some 3) (.pointer (some ⟨w.heap.size, 0, none⟩)) rfl rfl (by kernel_rfl) (by kernel_rfl) (by kernel_rfl) (fun _ _ _ h => h) (Or.inl ⟨by rfl, ?_⟩) hHeld ?_
  · (intro X hSw; (try dsimp only at hSw); go_simp)
  simp only [Act.put, List.setIfInBounds_toArray, List.set_cons_zero, List.set_cons_succ]
  refine wpAnyH_takeD (i := 1) (some 4) (.int .u8 z.kind) rfl rfl (by kernel_rfl) (by kernel_rfl) (by kernel_rfl) (fun _ _ _ h => h) (Or.inl ⟨by rfl, ?_⟩) hHeld ?_
  · (intro X hSw; (try dsimp only at hSw); go_simp)
  simp only [Act.put, List.setIfInBounds_toArray, List.set_cons_zero, List.set_cons_succ]
  refine wpAnyH_takeD (i := 2) (some 5) (.pointer (some ⟨w.heap.size, 1, none⟩)) rfl rfl (by kernel_rfl) (by kernel_rfl) (by kernel_rfl) (fun _ _ _ h => h) (Or.inl ⟨by rfl, ?_⟩) hHeld ?_
  · (intro X hSw; (try dsimp only at hSw); go_simp)
  simp only [Act.put, List.setIfInBounds_toArray, List.set_cons_zero, List.set_cons_succ]
  refine wpAnyH_takeD (i := 3) (some 6) (.int .i64 z.fr) rfl rfl (by kernel_rfl) (by kernel_rfl) (by kernel_rfl) (fun _ _ _ h => h) (Or.inl ⟨by rfl, ?_⟩) hHeld ?_
  · (intro X hSw; (try dsimp only at hSw); go_simp)
  simp only [Act.put, List.setIfInBounds_toArray, List.set_cons_zero, List.set_cons_succ]
  refine wpAnyH_takeD (i := 4) (some 7) (.pointer (some ⟨w.heap.size, 2, none⟩)) rfl rfl (by kernel_rfl) (by kernel_rfl) (by kernel_rfl) (fun _ _ _ h => h) (Or.inl ⟨by rfl, ?_⟩) hHeld ?_
  · (intro X hSw; (try dsimp only at hSw); go_simp)
  simp only [Act.put, List.setIfInBounds_toArray, List.set_cons_zero, List.set_cons_succ]
  refine wpAnyH_takeD (i := 5) (some 8) (.int .i64 z.to) rfl rfl (by kernel_rfl) (by kernel_rfl) (by kernel_rfl) (fun _ _ _ h => h) (Or.inl ⟨by rfl, ?_⟩) hHeld ?_
  · (intro X hSw; (try dsimp only at hSw); go_simp)
  simp only [Act.put, List.setIfInBounds_toArray, List.set_cons_zero, List.set_cons_succ]
  refine wpAnyH_takeD (i := 6) (some 9) (.pointer (some ⟨w.heap.size, 3, none⟩)) rfl rfl (by kernel_rfl) (by kernel_rfl) (by kernel_rfl) (fun _ _ _ h => h) (Or.inl ⟨by rfl, ?_⟩) hHeld ?_
  · (intro X hSw; (try dsimp only at hSw); go_simp)
  simp only [Act.put, List.setIfInBounds_toArray, List.set_cons_zero, List.set_cons_succ]
  refine wpAnyH_takeD (i := 7) (some 10) (.int .u64 z.tm) rfl rfl (by kernel_rfl) (by kernel_rfl) (by kernel_rfl) (fun _ _ _ h => h) (Or.inl ⟨by rfl, ?_⟩) hHeld ?_
  · (intro X hSw; (try dsimp only at hSw); go_simp)
  simp only [Act.put, List.setIfInBounds_toArray, List.set_cons_zero, List.set_cons_succ]
  refine wpAnyH_takeD (i := 8) (some 11) (.pointer (some ⟨w.heap.size, 4, none⟩)) rfl rfl (by kernel_rfl) (by kernel_rfl) (by kernel_rfl) (fun _ _ _ h => h) (Or.inl ⟨by rfl, ?_⟩) hHeld ?_
  · (intro X hSw; (try dsimp only at hSw); go_simp)
  simp only [Act.put, List.setIfInBounds_toArray, List.set_cons_zero, List.set_cons_succ]
  refine wpAnyH_takeD (i := 9) (some 12) (.int .u64 z.li) rfl rfl (by kernel_rfl) (by kernel_rfl) (by kernel_rfl) (fun _ _ _ h => h) (Or.inl ⟨by rfl, ?_⟩) hHeld ?_
  · (intro X hSw; (try dsimp only at hSw); go_simp)
  simp only [Act.put, List.setIfInBounds_toArray, List.set_cons_zero, List.set_cons_succ]
  refine wpAnyH_takeD (i := 10) (some 13) (.pointer (some ⟨w.heap.size, 5, none⟩)) rfl rfl (by kernel_rfl) (by kernel_rfl) (by kernel_rfl) (fun _ _ _ h => h) (Or.inl ⟨by rfl, ?_⟩) hHeld ?_
  · (intro X hSw; (try dsimp only at hSw); go_simp)
  simp only [Act.put, List.setIfInBounds_toArray, List.set_cons_zero, List.set_cons_succ]
  refine wpAnyH_takeD (i := 11) (some 14) (.int .u64 z.lt) rfl rfl (by kernel_rfl) (by kernel_rfl) (by kernel_rfl) (fun _ _ _ h => h) (Or.inl ⟨by rfl, ?_⟩) hHeld ?_
  · (intro X hSw; (try dsimp only at hSw); go_simp)
  simp only [Act.put, List.setIfInBounds_toArray, List.set_cons_zero, List.set_cons_succ]
  refine wpAnyH_takeD (i := 12) (some 15) (.pointer (some ⟨w.heap.size, 6, none⟩)) rfl rfl (by kernel_rfl) (by kernel_rfl) (by kernel_rfl) (fun _ _ _ h => h) (Or.inl ⟨by rfl, ?_⟩) hHeld ?_
  · (intro X hSw; (try dsimp only at hSw); go_simp)
  simp only [Act.put, List.setIfInBounds_toArray, List.set_cons_zero, List.set_cons_succ]
  refine wpAnyH_takeD (i := 13) (some 16) (.int .u64 z.pi) rfl rfl (by kernel_rfl) (by kernel_rfl) (by kernel_rfl) (fun _ _ _ h => h) (Or.inl ⟨by rfl, ?_⟩) hHeld ?_
  · (intro X hSw; (try dsimp only at hSw); go_simp)
  simp only [Act.put, List.setIfInBounds_toArray, List.set_cons_zero, List.set_cons_succ]
  refine wpAnyH_takeD (i := 14) (some 17) (.pointer (some ⟨w.heap.size, 7, none⟩)) rfl rfl (by kernel_rfl) (by kernel_rfl) (by kernel_rfl) (fun _ _ _ h => h) (Or.inl ⟨by rfl, ?_⟩) hHeld ?_
  · (intro X hSw; (try dsimp only at hSw); go_simp)
  simp only [Act.put, List.setIfInBounds_toArray, List.set_cons_zero, List.set_cons_succ]
  refine wpAnyH_takeD (i := 15) (some 18) (.int .u64 z.pt) rfl rfl (by kernel_rfl) (by kernel_rfl) (by kernel_rfl) (fun _ _ _ h => h) (Or.inl ⟨by rfl, ?_⟩) hHeld ?_
  · (intro X hSw; (try dsimp only at hSw); go_simp)
  simp only [Act.put, List.setIfInBounds_toArray, List.set_cons_zero, List.set_cons_succ]
  refine wpAnyH_takeD (i := 16) (some 19) (.pointer (some ⟨w.heap.size, 8, none⟩)) rfl rfl (by kernel_rfl) (by kernel_rfl) (by kernel_rfl) (fun _ _ _ h => h) (Or.inl ⟨by rfl, ?_⟩) hHeld ?_
  · (intro X hSw; (try dsimp only at hSw); go_simp)
  simp only [Act.put, List.setIfInBounds_toArray, List.set_cons_zero, List.set_cons_succ]
  refine wpAnyH_takeD (i := 17) (some 20) (.slice z.ea z.en z.ec) rfl rfl (by kernel_rfl) (by kernel_rfl) (by kernel_rfl) (fun _ _ _ h => h) (Or.inl ⟨by rfl, ?_⟩) hHeld ?_
  · (intro X hSw; (try dsimp only at hSw); go_simp)
  simp only [Act.put, List.setIfInBounds_toArray, List.set_cons_zero, List.set_cons_succ]
  refine wpAnyH_takeD (i := 19) (some 22) (.pointer (some ⟨w.heap.size, 9, none⟩)) rfl rfl (by kernel_rfl) (by kernel_rfl) (by kernel_rfl) (fun _ _ _ h => h) (Or.inl ⟨by rfl, ?_⟩) hHeld ?_
  · (intro X hSw; (try dsimp only at hSw); go_simp)
  simp only [Act.put, List.setIfInBounds_toArray, List.set_cons_zero, List.set_cons_succ]
  refine wpAnyH_takeD (i := 20) (some 23) (.int .u64 z.cm) rfl rfl (by kernel_rfl) (by kernel_rfl) (by kernel_rfl) (fun _ _ _ h => h) (Or.inl ⟨by rfl, ?_⟩) hHeld ?_
  · (intro X hSw; (try dsimp only at hSw); go_simp)
  simp only [Act.put, List.setIfInBounds_toArray, List.set_cons_zero, List.set_cons_succ]
  refine wpAnyH_takeD (i := 21) (some 24) (.pointer (some ⟨w.heap.size, 10, none⟩)) rfl rfl (by kernel_rfl) (by kernel_rfl) (by kernel_rfl) (fun _ _ _ h => h) (Or.inl ⟨by rfl, ?_⟩) hHeld ?_
  · (intro X hSw; (try dsimp only at hSw); go_simp)
  simp only [Act.put, List.setIfInBounds_toArray, List.set_cons_zero, List.set_cons_succ]
  refine wpAnyH_takeD (i := 22) (some 25) (.bool z.ok) rfl rfl (by kernel_rfl) (by kernel_rfl) (by kernel_rfl) (fun _ _ _ h => h) (Or.inl ⟨by rfl, ?_⟩) hHeld ?_
  · (intro X hSw; (try dsimp only at hSw); go_simp)
  simp only [Act.put, List.setIfInBounds_toArray, List.set_cons_zero, List.set_cons_succ]
  refine wpAnyH_takeD (i := 23) (some 26) (.pointer (some ⟨w.heap.size, 11, none⟩)) rfl rfl (by kernel_rfl) (by kernel_rfl) (by kernel_rfl) (fun _ _ _ h => h) (Or.inl ⟨by rfl, ?_⟩) hHeld ?_
  · (intro X hSw; (try dsimp only at hSw); go_simp)
  simp only [Act.put, List.setIfInBounds_toArray, List.set_cons_zero, List.set_cons_succ]
  refine wpAnyH_takeD (i := 24) (some 27) (.bool z.pre) rfl rfl (by kernel_rfl) (by kernel_rfl) (by kernel_rfl) (fun _ _ _ h => h) (Or.inl ⟨by rfl, ?_⟩) hHeld ?_
  · (intro X hSw; (try dsimp only at hSw); go_simp)
  simp only [Act.put, List.setIfInBounds_toArray, List.set_cons_zero, List.set_cons_succ]
  refine wpAnyH_takeD (i := 25) (some 28) (.pointer (some ⟨w.heap.size, 12, none⟩)) rfl rfl (by kernel_rfl) (by kernel_rfl) (by kernel_rfl) (fun _ _ _ h => h) (Or.inl ⟨by rfl, ?_⟩) hHeld ?_
  · (intro X hSw; (try dsimp only at hSw); go_simp)
  simp only [Act.put, List.setIfInBounds_toArray, List.set_cons_zero, List.set_cons_succ]
  refine wpAnyH_takeD (i := 26) (some 29) (.bool z.tr) rfl rfl (by kernel_rfl) (by kernel_rfl) (by kernel_rfl) (fun _ _ _ h => h) (Or.inl ⟨by rfl, ?_⟩) hHeld ?_
  · (intro X hSw; (try dsimp only at hSw); go_simp)
  simp only [Act.put, List.setIfInBounds_toArray, List.set_cons_zero, List.set_cons_succ]
  refine wpAnyH_takeD (i := 27) (some 30) (.pointer (some ⟨w.heap.size, 13, none⟩)) rfl rfl (by kernel_rfl) (by kernel_rfl) (by kernel_rfl) (fun _ _ _ h => h) (Or.inl ⟨by rfl, ?_⟩) hHeld ?_
  · (intro X hSw; (try dsimp only at hSw); go_simp)
  simp only [Act.put, List.setIfInBounds_toArray, List.set_cons_zero, List.set_cons_succ]
  refine wpAnyH_takeD (i := 28) (some 31) (.int .u64 z.ix) rfl rfl (by kernel_rfl) (by kernel_rfl) (by kernel_rfl) (fun _ _ _ h => h) (Or.inl ⟨by rfl, ?_⟩) hHeld ?_
  · (intro X hSw; (try dsimp only at hSw); go_simp)
  simp only [Act.put, List.setIfInBounds_toArray, List.set_cons_zero, List.set_cons_succ]
  refine wpAnyH_takeD (i := 29) (some 32) (.pointer (some ⟨w.heap.size, 14, none⟩)) rfl rfl (by kernel_rfl) (by kernel_rfl) (by kernel_rfl) (fun _ _ _ h => h) (Or.inl ⟨by rfl, ?_⟩) hHeld ?_
  · (intro X hSw; (try dsimp only at hSw); go_simp)
  simp only [Act.put, List.setIfInBounds_toArray, List.set_cons_zero, List.set_cons_succ]
  refine wpAnyH_takeD (i := 30) (some 33) (.int .u64 z.ct) rfl rfl (by kernel_rfl) (by kernel_rfl) (by kernel_rfl) (fun _ _ _ h => h) (Or.inl ⟨by rfl, ?_⟩) hHeld ?_
  · (intro X hSw; (try dsimp only at hSw); go_simp)
  simp only [Act.put, List.setIfInBounds_toArray, List.set_cons_zero, List.set_cons_succ]
  refine wpAnyH_takeD (i := 31) (some 34) (.pointer (some ⟨w.heap.size, 15, none⟩)) rfl rfl (by kernel_rfl) (by kernel_rfl) (by kernel_rfl) (fun _ _ _ h => h) (Or.inl ⟨by rfl, ?_⟩) hHeld ?_
  · (intro X hSw; (try dsimp only at hSw); go_simp)
  simp only [Act.put, List.setIfInBounds_toArray, List.set_cons_zero, List.set_cons_succ]
  refine wpAnyH_takeD (i := 32) (some 35) (.int .u64 z.off) rfl rfl (by kernel_rfl) (by kernel_rfl) (by kernel_rfl) (fun _ _ _ h => h) (Or.inl ⟨by rfl, ?_⟩) hHeld ?_
  · (intro X hSw; (try dsimp only at hSw); go_simp)
  simp only [Act.put, List.setIfInBounds_toArray, List.set_cons_zero, List.set_cons_succ]
  refine wpAnyH_takeD (i := 33) (some 36) (.pointer (some ⟨w.heap.size, 16, none⟩)) rfl rfl (by kernel_rfl) (by kernel_rfl) (by kernel_rfl) (fun _ _ _ h => h) (Or.inl ⟨by rfl, ?_⟩) hHeld ?_
  · (intro X hSw; (try dsimp only at hSw); go_simp)
  simp only [Act.put, List.setIfInBounds_toArray, List.set_cons_zero, List.set_cons_succ]
  refine wpAnyH_takeD (i := 34) (some 37) (.int .u64 z.sz) rfl rfl (by kernel_rfl) (by kernel_rfl) (by kernel_rfl) (fun _ _ _ h => h) (Or.inl ⟨by rfl, ?_⟩) hHeld ?_
  · (intro X hSw; (try dsimp only at hSw); go_simp)
  simp only [Act.put, List.setIfInBounds_toArray, List.set_cons_zero, List.set_cons_succ]
  refine wpAnyH_takeD (i := 35) (some 38) (.pointer (some ⟨w.heap.size, 17, none⟩)) rfl rfl (by kernel_rfl) (by kernel_rfl) (by kernel_rfl) (fun _ _ _ h => h) (Or.inl ⟨by rfl, ?_⟩) hHeld ?_
  · (intro X hSw; (try dsimp only at hSw); go_simp)
  simp only [Act.put, List.setIfInBounds_toArray, List.set_cons_zero, List.set_cons_succ]
  refine wpAnyH_takeD (i := 36) (some 39) (.slice z.pa z.pn z.pc) rfl rfl (by kernel_rfl) (by kernel_rfl) (by kernel_rfl) (fun _ _ _ h => h) (Or.inl ⟨by rfl, ?_⟩) hHeld ?_
  · (intro X hSw; (try dsimp only at hSw); go_simp)
  simp only [Act.put, List.setIfInBounds_toArray, List.set_cons_zero, List.set_cons_succ]
  refine wpAnyH_takeD (i := 38) (some 41) (.pointer (some ⟨w.heap.size, 18, none⟩)) rfl rfl (by kernel_rfl) (by kernel_rfl) (by kernel_rfl) (fun _ _ _ h => h) (Or.inl ⟨by rfl, ?_⟩) hHeld ?_
  · (intro X hSw; (try dsimp only at hSw); go_simp)
  simp only [Act.put, List.setIfInBounds_toArray, List.set_cons_zero, List.set_cons_succ]
  refine wpAnyH_takeD (i := 39) (some 42) (.bool z.done) rfl rfl (by kernel_rfl) (by kernel_rfl) (by kernel_rfl) (fun _ _ _ h => h) (Or.inl ⟨by rfl, ?_⟩) hHeld ?_
  · (intro X hSw; (try dsimp only at hSw); go_simp)
  simp only [Act.put, List.setIfInBounds_toArray, List.set_cons_zero, List.set_cons_succ]
  refine wpAnyH_takeD (i := 40) (some 43) (.pointer (some ⟨w.heap.size, 19, none⟩)) rfl rfl (by kernel_rfl) (by kernel_rfl) (by kernel_rfl) (fun _ _ _ h => h) (Or.inl ⟨by rfl, ?_⟩) hHeld ?_
  · (intro X hSw; (try dsimp only at hSw); go_simp)
  simp only [Act.put, List.setIfInBounds_toArray, List.set_cons_zero, List.set_cons_succ]
  refine wpAnyH_takeD (i := 41) (some 44) (.slice z.ma z.mn z.mc) rfl rfl (by kernel_rfl) (by kernel_rfl) (by kernel_rfl) (fun _ _ _ h => h) (Or.inl ⟨by rfl, ?_⟩) hHeld ?_
  · (intro X hSw; (try dsimp only at hSw); go_simp)
  simp only [Act.put, List.setIfInBounds_toArray, List.set_cons_zero, List.set_cons_succ]
  refine wpAnyH_takeD (i := 43) (some 46) (.pointer (some ⟨w.heap.size, 20, none⟩)) rfl rfl (by kernel_rfl) (by kernel_rfl) (by kernel_rfl) (fun _ _ _ h => h) (Or.inl ⟨by rfl, ?_⟩) hHeld ?_
  · (intro X hSw; (try dsimp only at hSw); go_simp)
  simp only [Act.put, List.setIfInBounds_toArray, List.set_cons_zero, List.set_cons_succ]
  refine wpAnyH_takeD (i := 44) (some 47) (.pointer z.rp) rfl rfl (by kernel_rfl) (by kernel_rfl) (by kernel_rfl) (fun _ _ _ h => h) (Or.inl ⟨by rfl, ?_⟩) hHeld ?_
  · (intro X hSw; (try dsimp only at hSw); go_simp)
  simp only [Act.put, List.setIfInBounds_toArray, List.set_cons_zero, List.set_cons_succ]
  refine wpAnyH_takeD (i := 46) (some 49) (.pointer (some ⟨w.heap.size, 21, none⟩)) rfl rfl (by kernel_rfl) (by kernel_rfl) (by kernel_rfl) (fun _ _ _ h => h) (Or.inl ⟨by rfl, ?_⟩) hHeld ?_
  · (intro X hSw; (try dsimp only at hSw); go_simp)
  simp only [Act.put, List.setIfInBounds_toArray, List.set_cons_zero, List.set_cons_succ]
  refine wpAnyH_takeD (i := 47) (some 50) (.int .u64 z.inc) rfl rfl (by kernel_rfl) (by kernel_rfl) (by kernel_rfl) (fun _ _ _ h => h) (Or.inl ⟨by rfl, ?_⟩) hHeld ?_
  · (intro X hSw; (try dsimp only at hSw); go_simp)
  simp only [Act.put, List.setIfInBounds_toArray, List.set_cons_zero, List.set_cons_succ]
  refine wpAnyH_takeD (i := 48) (some 51) (.pointer (some ⟨w.heap.size, 22, none⟩)) rfl rfl (by kernel_rfl) (by kernel_rfl) (by kernel_rfl) (fun _ _ _ h => h) (Or.inl ⟨by rfl, ?_⟩) hHeld ?_
  · (intro X hSw; (try dsimp only at hSw); go_simp)
  simp only [Act.put, List.setIfInBounds_toArray, List.set_cons_zero, List.set_cons_succ]
  refine wpAnyH_takeD (i := 49) (some 52) (.int .u64 z.rd) rfl rfl (by kernel_rfl) (by kernel_rfl) (by kernel_rfl) (fun _ _ _ h => h) (Or.inl ⟨by rfl, ?_⟩) hHeld ?_
  · (intro X hSw; (try dsimp only at hSw); go_simp)
  simp only [Act.put, List.setIfInBounds_toArray, List.set_cons_zero, List.set_cons_succ]
  refine wpAnyH_ready (rs := [18]) (by kernel_rfl) (by simp) ?_
  refine AllReadyH.cons (o := _) rfl (fun K hK => ?_) AllReadyH.nil
  replace hHeld : (Below w.heap.size w W.drew ∧ Row59 W.drew (w.heap.size + 1) ∧ W.drew.cell? ⟨w.heap.size, 0, none⟩ = some (.int .u8 z.kind) ∧ W.drew.cell? ⟨w.heap.size, 1, none⟩ = some (.int .i64 z.fr) ∧ W.drew.cell? ⟨w.heap.size, 2, none⟩ = some (.int .i64 z.to) ∧ W.drew.cell? ⟨w.heap.size, 3, none⟩ = some (.int .u64 z.tm) ∧ W.drew.cell? ⟨w.heap.size, 4, none⟩ = some (.int .u64 z.li) ∧ W.drew.cell? ⟨w.heap.size, 5, none⟩ = some (.int .u64 z.lt) ∧ W.drew.cell? ⟨w.heap.size, 6, none⟩ = some (.int .u64 z.pi) ∧ W.drew.cell? ⟨w.heap.size, 7, none⟩ = some (.int .u64 z.pt) ∧ W.drew.cell? ⟨w.heap.size, 8, none⟩ = some (.slice z.ea z.en z.ec) ∧ W.drew.cell? ⟨w.heap.size, 9, none⟩ = some (.int .u64 z.cm) ∧ W.drew.cell? ⟨w.heap.size, 10, none⟩ = some (.bool z.ok) ∧ W.drew.cell? ⟨w.heap.size, 11, none⟩ = some (.bool z.pre) ∧ W.drew.cell? ⟨w.heap.size, 12, none⟩ = some (.bool z.tr) ∧ W.drew.cell? ⟨w.heap.size, 13, none⟩ = some (.int .u64 z.ix) ∧ W.drew.cell? ⟨w.heap.size, 14, none⟩ = some (.int .u64 z.ct) ∧ W.drew.cell? ⟨w.heap.size, 15, none⟩ = some (.int .u64 z.off) ∧ W.drew.cell? ⟨w.heap.size, 16, none⟩ = some (.int .u64 z.sz) ∧ W.drew.cell? ⟨w.heap.size, 17, none⟩ = some (.slice z.pa z.pn z.pc) ∧ W.drew.cell? ⟨w.heap.size, 18, none⟩ = some (.bool z.done) ∧ W.drew.cell? ⟨w.heap.size, 19, none⟩ = some (.slice z.ma z.mn z.mc) ∧ W.drew.cell? ⟨w.heap.size, 20, none⟩ = some (.pointer z.rp) ∧ W.drew.cell? ⟨w.heap.size, 21, none⟩ = some (.int .u64 z.inc) ∧ W.drew.cell? ⟨w.heap.size, 22, none⟩ = some (.int .u64 z.rd)) := hHeld
  go_simp
  go_at_call 30
  have hl1 := Row59.lt hHeld.2.1
  refine Calls.mono (zentries_any _ _ _ es _ hen HES.out (Ents.later HE.out hHeld.1)) ?_
  rintro e w1 ⟨hB1, v1, rfl, hc1⟩
  obtain ⟨x1, y1, z1, rfl⟩ := hc1.shape
  go_wp2_with fail
  refine hK.out _ _ (HK.out _ _ hHeld hB1) (fun hHeld => ?_)
  clear hK K
  try simp only [Act.put, List.setIfInBounds_toArray, List.set_cons_zero, List.set_cons_succ]
  refine wpAnyH_ready (rs := [37]) (by kernel_rfl) (by simp) ?_
  refine AllReadyH.cons (o := _) rfl (fun K hK => ?_) AllReadyH.nil
  replace hHeld : (Below w.heap.size w w1 ∧ Row59 w1 (w.heap.size + 1) ∧ w1.cell? ⟨w.heap.size, 0, none⟩ = some (.int .u8 z.kind) ∧ w1.cell? ⟨w.heap.size, 1, none⟩ = some (.int .i64 z.fr) ∧ w1.cell? ⟨w.heap.size, 2, none⟩ = some (.int .i64 z.to) ∧ w1.cell? ⟨w.heap.size, 3, none⟩ = some (.int .u64 z.tm) ∧ w1.cell? ⟨w.heap.size, 4, none⟩ = some (.int .u64 z.li) ∧ w1.cell? ⟨w.heap.size, 5, none⟩ = some (.int .u64 z.lt) ∧ w1.cell? ⟨w.heap.size, 6, none⟩ = some (.int .u64 z.pi) ∧ w1.cell? ⟨w.heap.size, 7, none⟩ = some (.int .u64 z.pt) ∧ w1.cell? ⟨w.heap.size, 8, none⟩ = some (.slice z.ea z.en z.ec) ∧ w1.cell? ⟨w.heap.size, 9, none⟩ = some (.int .u64 z.cm) ∧ w1.cell? ⟨w.heap.size, 10, none⟩ = some (.bool z.ok) ∧ w1.cell? ⟨w.heap.size, 11, none⟩ = some (.bool z.pre) ∧ w1.cell? ⟨w.heap.size, 12, none⟩ = some (.bool z.tr) ∧ w1.cell? ⟨w.heap.size, 13, none⟩ = some (.int .u64 z.ix) ∧ w1.cell? ⟨w.heap.size, 14, none⟩ = some (.int .u64 z.ct) ∧ w1.cell? ⟨w.heap.size, 15, none⟩ = some (.int .u64 z.off) ∧ w1.cell? ⟨w.heap.size, 16, none⟩ = some (.int .u64 z.sz) ∧ w1.cell? ⟨w.heap.size, 17, none⟩ = some (.slice z.pa z.pn z.pc) ∧ w1.cell? ⟨w.heap.size, 18, none⟩ = some (.bool z.done) ∧ w1.cell? ⟨w.heap.size, 19, none⟩ = some (.slice z.ma z.mn z.mc) ∧ w1.cell? ⟨w.heap.size, 20, none⟩ = some (.pointer z.rp) ∧ w1.cell? ⟨w.heap.size, 21, none⟩ = some (.int .u64 z.inc) ∧ w1.cell? ⟨w.heap.size, 22, none⟩ = some (.int .u64 z.rd)) := hHeld
  go_simp
  go_at_call 26
  have hl2 := Row59.lt hHeld.2.1
  refine Calls.mono (zbytes_any _ _ _ bs _ hpn (Bytes.later HD.out hHeld.1)) ?_
  rintro e w2 ⟨hB2, v2, rfl, hc2⟩
  obtain ⟨x2, y2, z2, rfl⟩ := hc2.shape
  go_wp2_with fail
  refine hK.out _ _ (HK.out _ _ hHeld hB2) (fun hHeld => ?_)
  clear hK K
  try simp only [Act.put, List.setIfInBounds_toArray, List.set_cons_zero, List.set_cons_succ]
  refine wpAnyH_ready (rs := [42]) (by kernel_rfl) (by simp) ?_
  refine AllReadyH.cons (o := _) rfl (fun K hK => ?_) AllReadyH.nil
  replace hHeld : (Below w.heap.size w w2 ∧ Row59 w2 (w.heap.size + 1) ∧ w2.cell? ⟨w.heap.size, 0, none⟩ = some (.int .u8 z.kind) ∧ w2.cell? ⟨w.heap.size, 1, none⟩ = some (.int .i64 z.fr) ∧ w2.cell? ⟨w.heap.size, 2, none⟩ = some (.int .i64 z.to) ∧ w2.cell? ⟨w.heap.size, 3, none⟩ = some (.int .u64 z.tm) ∧ w2.cell? ⟨w.heap.size, 4, none⟩ = some (.int .u64 z.li) ∧ w2.cell? ⟨w.heap.size, 5, none⟩ = some (.int .u64 z.lt) ∧ w2.cell? ⟨w.heap.size, 6, none⟩ = some (.int .u64 z.pi) ∧ w2.cell? ⟨w.heap.size, 7, none⟩ = some (.int .u64 z.pt) ∧ w2.cell? ⟨w.heap.size, 8, none⟩ = some (.slice z.ea z.en z.ec) ∧ w2.cell? ⟨w.heap.size, 9, none⟩ = some (.int .u64 z.cm) ∧ w2.cell? ⟨w.heap.size, 10, none⟩ = some (.bool z.ok) ∧ w2.cell? ⟨w.heap.size, 11, none⟩ = some (.bool z.pre) ∧ w2.cell? ⟨w.heap.size, 12, none⟩ = some (.bool z.tr) ∧ w2.cell? ⟨w.heap.size, 13, none⟩ = some (.int .u64 z.ix) ∧ w2.cell? ⟨w.heap.size, 14, none⟩ = some (.int .u64 z.ct) ∧ w2.cell? ⟨w.heap.size, 15, none⟩ = some (.int .u64 z.off) ∧ w2.cell? ⟨w.heap.size, 16, none⟩ = some (.int .u64 z.sz) ∧ w2.cell? ⟨w.heap.size, 17, none⟩ = some (.slice z.pa z.pn z.pc) ∧ w2.cell? ⟨w.heap.size, 18, none⟩ = some (.bool z.done) ∧ w2.cell? ⟨w.heap.size, 19, none⟩ = some (.slice z.ma z.mn z.mc) ∧ w2.cell? ⟨w.heap.size, 20, none⟩ = some (.pointer z.rp) ∧ w2.cell? ⟨w.heap.size, 21, none⟩ = some (.int .u64 z.inc) ∧ w2.cell? ⟨w.heap.size, 22, none⟩ = some (.int .u64 z.rd)) := hHeld
  go_simp
  go_at_call 27
  have hl3 := Row59.lt hHeld.2.1
  refine Calls.mono (zmembers_any _ _ _ ms _ hmn (Mems.later HM.out hHeld.1)) ?_
  rintro e w3 ⟨hB3, v3, rfl, hc3⟩
  obtain ⟨x3, y3, z3, rfl⟩ := hc3.shape
  go_wp2_with fail
  refine hK.out _ _ (HK.out _ _ hHeld hB3) (fun hHeld => ?_)
  clear hK K
  try simp only [Act.put, List.setIfInBounds_toArray, List.set_cons_zero, List.set_cons_succ]
  refine wpAnyH_ready (rs := [45]) (by kernel_rfl) (by simp) ?_
  refine AllReadyH.cons (o := _) rfl (fun K hK => ?_) AllReadyH.nil
  replace hHeld : (Below w.heap.size w w3 ∧ Row59 w3 (w.heap.size + 1) ∧ w3.cell? ⟨w.heap.size, 0, none⟩ = some (.int .u8 z.kind) ∧ w3.cell? ⟨w.heap.size, 1, none⟩ = some (.int .i64 z.fr) ∧ w3.cell? ⟨w.heap.size, 2, none⟩ = some (.int .i64 z.to) ∧ w3.cell? ⟨w.heap.size, 3, none⟩ = some (.int .u64 z.tm) ∧ w3.cell? ⟨w.heap.size, 4, none⟩ = some (.int .u64 z.li) ∧ w3.cell? ⟨w.heap.size, 5, none⟩ = some (.int .u64 z.lt) ∧ w3.cell? ⟨w.heap.size, 6, none⟩ = some (.int .u64 z.pi) ∧ w3.cell? ⟨w.heap.size, 7, none⟩ = some (.int .u64 z.pt) ∧ w3.cell? ⟨w.heap.size, 8, none⟩ = some (.slice z.ea z.en z.ec) ∧ w3.cell? ⟨w.heap.size, 9, none⟩ = some (.int .u64 z.cm) ∧ w3.cell? ⟨w.heap.size, 10, none⟩ = some (.bool z.ok) ∧ w3.cell? ⟨w.heap.size, 11, none⟩ = some (.bool z.pre) ∧ w3.cell? ⟨w.heap.size, 12, none⟩ = some (.bool z.tr) ∧ w3.cell? ⟨w.heap.size, 13, none⟩ = some (.int .u64 z.ix) ∧ w3.cell? ⟨w.heap.size, 14, none⟩ = some (.int .u64 z.ct) ∧ w3.cell? ⟨w.heap.size, 15, none⟩ = some (.int .u64 z.off) ∧ w3.cell? ⟨w.heap.size, 16, none⟩ = some (.int .u64 z.sz) ∧ w3.cell? ⟨w.heap.size, 17, none⟩ = some (.slice z.pa z.pn z.pc) ∧ w3.cell? ⟨w.heap.size, 18, none⟩ = some (.bool z.done) ∧ w3.cell? ⟨w.heap.size, 19, none⟩ = some (.slice z.ma z.mn z.mc) ∧ w3.cell? ⟨w.heap.size, 20, none⟩ = some (.pointer z.rp) ∧ w3.cell? ⟨w.heap.size, 21, none⟩ = some (.int .u64 z.inc) ∧ w3.cell? ⟨w.heap.size, 22, none⟩ = some (.int .u64 z.rd)) := hHeld
  go_simp
  go_at_call 28
  have hl4 := Row59.lt hHeld.2.1
  refine Calls.mono (zremoved_any _ rm _ (MemPtr.later HR.out hHeld.1)) ?_
  rintro e w4 ⟨hB4, v4, rfl, hc4⟩
  obtain ⟨x4, rfl⟩ := hc4.shape
  go_wp2_with fail
  refine hK.out _ _ (HK.out _ _ hHeld hB4) (fun hHeld => ?_)
  clear hK K
  try simp only [Act.put, List.setIfInBounds_toArray, List.set_cons_zero, List.set_cons_succ]
  refine wpAnyH_takeD (i := 50) (some 53) (MU (zmu z x1 y1 z1) z.li z.lt z.off z.sz x2 y2 z2 (.slice x3 y3 z3) (.pointer x4)) rfl rfl (by kernel_rfl) (by kernel_rfl) (by kernel_rfl) (fun _ _ _ h => h)
    (yields_build_m rfl _ _ _ _ _ _ _ _ _ _ _ _ _ _ _ _ _ _ _ _ _ _ _ rfl z x1 y1 z1 x2 y2 z2 x3 y3 z3 x4 rfl rfl rfl rfl rfl rfl rfl rfl rfl rfl rfl rfl rfl rfl rfl rfl rfl rfl rfl rfl rfl rfl rfl) hHeld ?_
  try simp only [Act.put, List.setIfInBounds_toArray, List.set_cons_zero, List.set_cons_succ]
  refine wpAnyH_ready (rs := [51]) (by kernel_rfl) (by simp) ?_
  refine AllReadyH.cons (o := _) rfl (fun K hK => ?_) AllReadyH.nil
  refine step_store_md rfl rfl _ _ rfl (w.heap.size + 1) rfl z x1 y1 z1 x2 y2 z2 x3 y3 z3 x4 rfl hHeld.2.1 ?_
  have hrg := Row59.range hHeld.2.1 (msg (zmu z x1 y1 z1) z.li z.lt z.off z.sz x2 y2 z2 (.slice x3 y3 z3) (.pointer x4))
  refine hK.out _ _ (HK2.out _ _ _ _ _ _ _ _ _ _ _ hHeld) (fun hHeld => ?_)
  clear hK K
  try simp only [Act.put, List.setIfInBounds_toArray, List.set_cons_zero, List.set_cons_succ]
  refine wpAnyH_done (by kernel_rfl) ?_ _
  refine NoPanic.normal ?_
  replace hHeld := hHeld.1
  have h1 : CopyB z.pa z.pn bs _ (.slice x2 y2 z2) _ := (hc2.later hB3).later hB4
  have h2 : CopyM z.ma z.mn ms _ (.slice x3 y3 z3) _ := hc3.later hB4
  have HC1 : Hid (CopyB z.pa z.pn bs _ (.slice x2 y2 z2) _) := h1.row (w.heap.size + 1) (msg (zmu z x1 y1 z1) z.li z.lt z.off z.sz x2 y2 z2 (.slice x3 y3 z3) (.pointer x4)) hl2
  have HC2 : Hid (CopyM z.ma z.mn ms _ (.slice x3 y3 z3) _) := h2.row (w.heap.size + 1) (msg (zmu z x1 y1 z1) z.li z.lt z.off z.sz x2 y2 z2 (.slice x3 y3 z3) (.pointer x4)) hl3
  have HC3 : Hid (CopyP z.rp rm _ (.pointer x4) _) := hc4.row (w.heap.size + 1) (msg (zmu z x1 y1 z1) z.li z.lt z.off z.sz x2 y2 z2 (.slice x3 y3 z3) (.pointer x4)) hl4
  have HRG : Hid _ := hrg
  clear h1 h2 hc1 hc2 hc3 hc4 hrg HK HK2 HS0
  have hsz1 : w.heap.size ≤ w1.heap.size := by omega
  go_wp2
  refine bodyPost_ret (v := MU (zmu z x1 y1 z1) z.li z.lt z.off z.sz x2 y2 z2 (.slice x3 y3 z3) (.pointer x4)) (results18_run _ _ (w.heap.size + 1) _ rfl HRG.out rfl) rfl ?_
  exact ⟨hHeld, x1, y1, z1, x2, y2, z2, x3, y3, z3, x4, w1.heap.size, rfl, hsz1, HC1.out, ⟨_, HC2.out⟩, _, HC3.out⟩

end Go.Proofs.Qxb6605768a
