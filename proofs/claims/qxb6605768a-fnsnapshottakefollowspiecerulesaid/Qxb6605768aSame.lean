/-
  Seat b6605768a. The comparisons: zSameBytes (35), zSameMember (42), zSameMembers (36), zSameRemoved (37), ZZsnapshotDataBytes (21), zSnapshotIs (20).
-/
import Derived.Test.Qxb6605768aTake3
namespace Go.Proofs.Qxb6605768a
open Go.RowKit
set_option linter.unusedVariables false

/-- It has returned true; nothing that lay has turned. -/
def TrueEnd (w : World) (e : Ending) (w' : World) : Prop := e = .returned (.bool true) ∧ Below w.heap.size w w'

set_option maxHeartbeats 1000000 in
theorem samebytes_any (a1 a2 : Option Addr) (n c1 c2 : Nat) (bs : Nat → Int) (w : World) (h1 : Bytes w a1 n bs) (h2 : Bytes w a2 n bs) : Calls Try.prog 35 #[.slice a1 n c1, .slice a2 n c2] w (TrueEnd w) := by
  obtain ⟨hn, _, hc1⟩ := h1
  obtain ⟨_, _, hc2⟩ := h2
  have H1 : Hid _ := hc1
  have H2 : Hid _ := hc2
  clear hc1 hc2
  go_enter Try.func35, Try.ntmps35
  go_wp2
  go_loopw [5] (fun i wr => ∃ k : Nat, k ≤ n ∧ i = .int .i64 k ∧ Below w.heap.size w wr) (fun i _ => n - (intOf i).toNat)
  case atStart => exact ⟨0, Nat.zero_le _, rfl, Below.refl _ _⟩
  case round =>
    obtain ⟨k, hk, rfl, hB⟩ := hrel
    by_cases hlt : k < n
    · obtain ⟨b1, o1, rfl, hc1⟩ := H1.out (by omega)
      obtain ⟨b2, o2, rfl, hc2⟩ := H2.out (by omega)
      have d1 := (hB.cell (p := ⟨b1, o1 + k, none⟩) (World.block_lt_of_cell? _ _ (hc1 k hlt))).trans (hc1 k hlt)
      have d2 := (hB.cell (p := ⟨b2, o2 + k, none⟩) (World.block_lt_of_cell? _ _ (hc2 k hlt))).trans (hc2 k hlt)
      clear hc1 hc2
      go_wp2
      go_quiet (fail)
      go_wp2
      go_roundw
      case rel => exact ⟨k + 1, by omega, by go_num, bdrew hB _⟩
      case measure => simp [intOf]; omega
    · go_wp2
      go_ret
      exact ⟨rfl, hB⟩

set_option maxHeartbeats 1000000 in
theorem samemember_any (m : Mem) (w : World) : Calls Try.prog 42 #[.agg #[.int .i64 m.id, .string m.name, .string m.addr, .int .u64 m.inc, .bool m.nv], .agg #[.int .i64 m.id, .string m.name, .string m.addr, .int .u64 m.inc, .bool m.nv]] w (TrueEnd w) := by
  go_enter Try.func42, Try.ntmps42
  go_wp2
  go_ret
  exact ⟨rfl, ((Below.refl _ _).alloc (Nat.le_refl _) _).alloc (by simp) _⟩

set_option maxRecDepth 100000 in
set_option maxHeartbeats 2000000 in
theorem samemembers_any (a1 a2 : Option Addr) (n c1 c2 : Nat) (ms : Nat → Mem) (w : World) (h1 : Mems w a1 n ms) (h2 : Mems w a2 n ms) (hnil : a1.isNone = a2.isNone) : Calls Try.prog 36 #[.slice a1 n c1, .slice a2 n c2] w (TrueEnd w) := by
  have q50 : ∀ (w : World) (a : Option Addr) (n c : Nat), (binOp .eql 50 (.slice a n c) (.slice none 0 0)).run Try.prog w = .ok (.bool a.isNone) w := fun w a n c => Lib.run_eql_slice_nil w _ _ a n c 0 0 Try.underlying50
  have q25 : ∀ (w : World) (a : Option Addr) (n c : Nat), (binOp .eql 25 (.slice a n c) (.slice none 0 0)).run Try.prog w = .ok (.bool a.isNone) w := fun w a n c => Lib.run_eql_slice_nil w _ _ a n c 0 0 Try.underlying25
  obtain ⟨hn, _, hc1⟩ := h1
  obtain ⟨_, _, hc2⟩ := h2
  have hnil' : (a1.isNone != a2.isNone) = false := by rw [hnil]; simp
  clear hnil
  by_cases h0 : 0 < n
  · obtain ⟨b1, o1, rfl, hd1⟩ := hc1 h0
    obtain ⟨b2, o2, rfl, hd2⟩ := hc2 h0
    have H1 : Hid _ := hd1
    have H2 : Hid _ := hd2
    clear hc1 hc2 hnil' hd1 hd2
    go_enter Try.func36, Try.ntmps36
    go_wp2
    go_loopw [5] (fun i wr => ∃ k : Nat, k ≤ n ∧ i = .int .i64 k ∧ Below w.heap.size w wr) (fun i _ => n - (intOf i).toNat)
    case atStart => exact ⟨0, Nat.zero_le _, rfl, Below.refl _ _⟩
    case round =>
      obtain ⟨k, hk, rfl, hB⟩ := hrel
      by_cases hlt : k < n
      · obtain ⟨x1, x2, x3, x4, x5, _, _⟩ := (H1.out k hlt).later hB
        obtain ⟨y1, y2, y3, y4, y5, _, _⟩ := (H2.out k hlt).later hB
        have HK : Hid (∀ (X Y : World), (Below w.heap.size w X ∧ X.cell? ⟨b1, o1 + k * 5, none⟩ = some (.int .i64 (ms k).id) ∧ X.cell? ⟨b1, o1 + k * 5 + 1, none⟩ = some (.string (ms k).name) ∧ X.cell? ⟨b1, o1 + k * 5 + 2, none⟩ = some (.string (ms k).addr) ∧ X.cell? ⟨b1, o1 + k * 5 + 3, none⟩ = some (.int .u64 (ms k).inc) ∧ X.cell? ⟨b1, o1 + k * 5 + 4, none⟩ = some (.bool (ms k).nv) ∧ X.cell? ⟨b2, o2 + k * 5, none⟩ = some (.int .i64 (ms k).id) ∧ X.cell? ⟨b2, o2 + k * 5 + 1, none⟩ = some (.string (ms k).name) ∧ X.cell? ⟨b2, o2 + k * 5 + 2, none⟩ = some (.string (ms k).addr) ∧ X.cell? ⟨b2, o2 + k * 5 + 3, none⟩ = some (.int .u64 (ms k).inc) ∧ X.cell? ⟨b2, o2 + k * 5 + 4, none⟩ = some (.bool (ms k).nv)) → Below X.heap.size X Y → (Below w.heap.size w Y ∧ Y.cell? ⟨b1, o1 + k * 5, none⟩ = some (.int .i64 (ms k).id) ∧ Y.cell? ⟨b1, o1 + k * 5 + 1, none⟩ = some (.string (ms k).name) ∧ Y.cell? ⟨b1, o1 + k * 5 + 2, none⟩ = some (.string (ms k).addr) ∧ Y.cell? ⟨b1, o1 + k * 5 + 3, none⟩ = some (.int .u64 (ms k).inc) ∧ Y.cell? ⟨b1, o1 + k * 5 + 4, none⟩ = some (.bool (ms k).nv) ∧ Y.cell? ⟨b2, o2 + k * 5, none⟩ = some (.int .i64 (ms k).id) ∧ Y.cell? ⟨b2, o2 + k * 5 + 1, none⟩ = some (.string (ms k).name) ∧ Y.cell? ⟨b2, o2 + k * 5 + 2, none⟩ = some (.string (ms k).addr) ∧ Y.cell? ⟨b2, o2 + k * 5 + 3, none⟩ = some (.int .u64 (ms k).inc) ∧ Y.cell? ⟨b2, o2 + k * 5 + 4, none⟩ = some (.bool (ms k).nv))) := by
          rintro X Y ⟨s0, s1, s2, s3, s4, s5, s6, s7, s8, s9, s10⟩ hXY
          exact ⟨s0.trans (hXY.mono s0.size), keepc s1 hXY, keepc s2 hXY, keepc s3 hXY, keepc s4 hXY, keepc s5 hXY, keepc s6 hXY, keepc s7 hXY, keepc s8 hXY, keepc s9 hXY, keepc s10 hXY⟩
        have HS0 : Hid (Below w.heap.size w wr.drew ∧ wr.drew.cell? ⟨b1, o1 + k * 5, none⟩ = some (.int .i64 (ms k).id) ∧ wr.drew.cell? ⟨b1, o1 + k * 5 + 1, none⟩ = some (.string (ms k).name) ∧ wr.drew.cell? ⟨b1, o1 + k * 5 + 2, none⟩ = some (.string (ms k).addr) ∧ wr.drew.cell? ⟨b1, o1 + k * 5 + 3, none⟩ = some (.int .u64 (ms k).inc) ∧ wr.drew.cell? ⟨b1, o1 + k * 5 + 4, none⟩ = some (.bool (ms k).nv) ∧ wr.drew.cell? ⟨b2, o2 + k * 5, none⟩ = some (.int .i64 (ms k).id) ∧ wr.drew.cell? ⟨b2, o2 + k * 5 + 1, none⟩ = some (.string (ms k).name) ∧ wr.drew.cell? ⟨b2, o2 + k * 5 + 2, none⟩ = some (.string (ms k).addr) ∧ wr.drew.cell? ⟨b2, o2 + k * 5 + 3, none⟩ = some (.int .u64 (ms k).inc) ∧ wr.drew.cell? ⟨b2, o2 + k * 5 + 4, none⟩ = some (.bool (ms k).nv)) := ⟨hB.drew, x1, x2, x3, x4, x5, y1, y2, y3, y4, y5⟩
        go_wp2
        go_region_held3 (fun w' => Below w.heap.size w w' ∧ w'.cell? ⟨b1, o1 + k * 5, none⟩ = some (.int .i64 (ms k).id) ∧ w'.cell? ⟨b1, o1 + k * 5 + 1, none⟩ = some (.string (ms k).name) ∧ w'.cell? ⟨b1, o1 + k * 5 + 2, none⟩ = some (.string (ms k).addr) ∧ w'.cell? ⟨b1, o1 + k * 5 + 3, none⟩ = some (.int .u64 (ms k).inc) ∧ w'.cell? ⟨b1, o1 + k * 5 + 4, none⟩ = some (.bool (ms k).nv) ∧ w'.cell? ⟨b2, o2 + k * 5, none⟩ = some (.int .i64 (ms k).id) ∧ w'.cell? ⟨b2, o2 + k * 5 + 1, none⟩ = some (.string (ms k).name) ∧ w'.cell? ⟨b2, o2 + k * 5 + 2, none⟩ = some (.string (ms k).addr) ∧ w'.cell? ⟨b2, o2 + k * 5 + 3, none⟩ = some (.int .u64 (ms k).inc) ∧ w'.cell? ⟨b2, o2 + k * 5 + 4, none⟩ = some (.bool (ms k).nv))
          (first | (with_reducible assumption) | (with_reducible exact HS0.out) | (with_reducible exact HK.out _ _ (by with_reducible assumption) (by with_reducible assumption)))
          (first
            | (go_at_call 42; refine Calls.mono (samemember_any (ms k) _) ?_; rintro e w1 ⟨rfl, hB1⟩))
        go_wp2
        have hfin := ‹Below w.heap.size w _ ∧ _›
        go_roundw
        case rel => exact ⟨k + 1, by omega, by go_num, hfin.1⟩
        case measure => simp [intOf]; omega
      · go_wp2
        go_ret
        exact ⟨rfl, hB⟩
  · obtain rfl : n = 0 := by omega
    clear hc1 hc2
    cases a1 <;> cases a2
    case none.some => simp at hnil'
    case some.none => simp at hnil'
    all_goals
      clear hnil'
      go_enter Try.func36, Try.ntmps36
      go_wp2
      go_loopw [5] (fun i wr => i = .int .i64 0 ∧ Below w.heap.size w wr) (fun _ _ => 0)
      case atStart => exact ⟨rfl, Below.refl _ _⟩
      case round =>
        obtain ⟨rfl, hB⟩ := hrel
        go_wp2
        go_ret
        exact ⟨rfl, hB⟩

set_option maxRecDepth 100000 in
set_option maxHeartbeats 2000000 in
theorem sameremoved_any (p1 p2 : Option Addr) (m : Mem) (w : World) (h : (p1 = none ∧ p2 = none) ∨ ∃ b1 o1 b2 o2, p1 = some ⟨b1, o1, none⟩ ∧ p2 = some ⟨b2, o2, none⟩ ∧ MemAt w b1 o1 m ∧ MemAt w b2 o2 m) : Calls Try.prog 37 #[.pointer p1, .pointer p2] w (TrueEnd w) := by
  rcases h with ⟨rfl, rfl⟩ | ⟨b1, o1, b2, o2, rfl, rfl, ⟨x1, x2, x3, x4, x5, _, _⟩, ⟨y1, y2, y3, y4, y5, _, _⟩⟩
  · go_enter Try.func37, Try.ntmps37
    go_wp2
    go_ret
    exact ⟨rfl, Below.refl _ _⟩
  · have HK : Hid (∀ (X Y : World), (Below w.heap.size w X ∧ X.cell? ⟨b1, o1, none⟩ = some (.int .i64 m.id) ∧ X.cell? ⟨b1, o1 + 1, none⟩ = some (.string m.name) ∧ X.cell? ⟨b1, o1 + 2, none⟩ = some (.string m.addr) ∧ X.cell? ⟨b1, o1 + 3, none⟩ = some (.int .u64 m.inc) ∧ X.cell? ⟨b1, o1 + 4, none⟩ = some (.bool m.nv) ∧ X.cell? ⟨b2, o2, none⟩ = some (.int .i64 m.id) ∧ X.cell? ⟨b2, o2 + 1, none⟩ = some (.string m.name) ∧ X.cell? ⟨b2, o2 + 2, none⟩ = some (.string m.addr) ∧ X.cell? ⟨b2, o2 + 3, none⟩ = some (.int .u64 m.inc) ∧ X.cell? ⟨b2, o2 + 4, none⟩ = some (.bool m.nv)) → Below X.heap.size X Y → (Below w.heap.size w Y ∧ Y.cell? ⟨b1, o1, none⟩ = some (.int .i64 m.id) ∧ Y.cell? ⟨b1, o1 + 1, none⟩ = some (.string m.name) ∧ Y.cell? ⟨b1, o1 + 2, none⟩ = some (.string m.addr) ∧ Y.cell? ⟨b1, o1 + 3, none⟩ = some (.int .u64 m.inc) ∧ Y.cell? ⟨b1, o1 + 4, none⟩ = some (.bool m.nv) ∧ Y.cell? ⟨b2, o2, none⟩ = some (.int .i64 m.id) ∧ Y.cell? ⟨b2, o2 + 1, none⟩ = some (.string m.name) ∧ Y.cell? ⟨b2, o2 + 2, none⟩ = some (.string m.addr) ∧ Y.cell? ⟨b2, o2 + 3, none⟩ = some (.int .u64 m.inc) ∧ Y.cell? ⟨b2, o2 + 4, none⟩ = some (.bool m.nv))) := by
      rintro X Y ⟨s0, s1, s2, s3, s4, s5, s6, s7, s8, s9, s10⟩ hXY
      exact ⟨s0.trans (hXY.mono s0.size), keepc s1 hXY, keepc s2 hXY, keepc s3 hXY, keepc s4 hXY, keepc s5 hXY, keepc s6 hXY, keepc s7 hXY, keepc s8 hXY, keepc s9 hXY, keepc s10 hXY⟩
    have HS0 : Hid (Below w.heap.size w w.drew ∧ w.drew.cell? ⟨b1, o1, none⟩ = some (.int .i64 m.id) ∧ w.drew.cell? ⟨b1, o1 + 1, none⟩ = some (.string m.name) ∧ w.drew.cell? ⟨b1, o1 + 2, none⟩ = some (.string m.addr) ∧ w.drew.cell? ⟨b1, o1 + 3, none⟩ = some (.int .u64 m.inc) ∧ w.drew.cell? ⟨b1, o1 + 4, none⟩ = some (.bool m.nv) ∧ w.drew.cell? ⟨b2, o2, none⟩ = some (.int .i64 m.id) ∧ w.drew.cell? ⟨b2, o2 + 1, none⟩ = some (.string m.name) ∧ w.drew.cell? ⟨b2, o2 + 2, none⟩ = some (.string m.addr) ∧ w.drew.cell? ⟨b2, o2 + 3, none⟩ = some (.int .u64 m.inc) ∧ w.drew.cell? ⟨b2, o2 + 4, none⟩ = some (.bool m.nv)) := ⟨(Below.refl _ _).drew, x1, x2, x3, x4, x5, y1, y2, y3, y4, y5⟩
    go_enter Try.func37, Try.ntmps37
    go_wp2
    go_region_held3 (fun w' => Below w.heap.size w w' ∧ w'.cell? ⟨b1, o1, none⟩ = some (.int .i64 m.id) ∧ w'.cell? ⟨b1, o1 + 1, none⟩ = some (.string m.name) ∧ w'.cell? ⟨b1, o1 + 2, none⟩ = some (.string m.addr) ∧ w'.cell? ⟨b1, o1 + 3, none⟩ = some (.int .u64 m.inc) ∧ w'.cell? ⟨b1, o1 + 4, none⟩ = some (.bool m.nv) ∧ w'.cell? ⟨b2, o2, none⟩ = some (.int .i64 m.id) ∧ w'.cell? ⟨b2, o2 + 1, none⟩ = some (.string m.name) ∧ w'.cell? ⟨b2, o2 + 2, none⟩ = some (.string m.addr) ∧ w'.cell? ⟨b2, o2 + 3, none⟩ = some (.int .u64 m.inc) ∧ w'.cell? ⟨b2, o2 + 4, none⟩ = some (.bool m.nv))
      (first | (with_reducible assumption) | (with_reducible exact HS0.out) | (with_reducible exact HK.out _ _ (by with_reducible assumption) (by with_reducible assumption)))
      (first
        | (go_at_call 42; refine Calls.mono (samemember_any m _) ?_; rintro e w1 ⟨rfl, hB1⟩))
    go_wp2
    have hfin := ‹Below w.heap.size w _ ∧ _›
    go_ret
    exact ⟨rfl, hfin.1⟩

def DBEnd (x : Option Addr) (n z : Nat) (w : World) (e : Ending) (w' : World) : Prop := e = .returned (.slice x n z) ∧ Below w.heap.size w w'

set_option maxHeartbeats 400000 in
theorem databytes_any (x : Option Addr) (n z : Nat) (w : World) : Calls Try.prog 21 #[.agg #[.slice x n z, .nilFunc, .int .i64 0]] w (DBEnd x n z w) := by
  go_enter Try.func21, Try.ntmps21
  go_wp2
  go_ret
  exact ⟨rfl, (Below.refl _ _).alloc (Nat.le_refl _) _⟩

/-- The two pointers say the same member, or both are nil. -/
def SamePtr (w : World) (p1 p2 : Option Addr) (m : Mem) : Prop := (p1 = none ∧ p2 = none) ∨ ∃ b1 o1 b2 o2, p1 = some ⟨b1, o1, none⟩ ∧ p2 = some ⟨b2, o2, none⟩ ∧ MemAt w b1 o1 m ∧ MemAt w b2 o2 m
theorem SamePtr.later {w w' : World} {p1 p2 : Option Addr} {m : Mem} (h : SamePtr w p1 p2 m) (hb : Below w.heap.size w w') : SamePtr w' p1 p2 m := by
  rcases h with h | ⟨b1, o1, b2, o2, e1, e2, h1, h2⟩
  · exact .inl h
  · exact .inr ⟨b1, o1, b2, o2, e1, e2, h1.later hb, h2.later hb⟩

set_option maxRecDepth 100000 in
set_option maxHeartbeats 2000000 in
theorem snapis_any (b : Nat) (ix tm : Int) (x : Option Addr) (n z : Nat) (bs : Nat → Int) (x1 : Option Addr) (n1 z1 : Nat) (ms : Nat → Mem) (p1 : Option Addr) (rm : Mem) (x2 : Option Addr) (z2 : Nat) (x3 : Option Addr) (z3 : Nat) (p3 : Option Addr) (w : World)
    (hs : SnapAt w b ix tm (.slice x n z) (.slice x1 n1 z1) (.pointer p1)) (hn : n ≤ 1048576) (hb1 : Bytes w x n bs) (hb2 : Bytes w x2 n bs) (hm1 : Mems w x1 n1 ms) (hm2 : Mems w x3 n1 ms) (hnil : x1.isNone = x3.isNone) (hp : SamePtr w p1 p3 rm) :
    Calls Try.prog 20 #[.pointer (some ⟨b, 0, none⟩), .int .u64 ix, .int .u64 tm, .slice x2 n z2, .slice x3 n1 z3, .pointer p3] w (TrueEnd w) := by
  have HSn : Hid _ := hs
  have HB1 : Hid _ := hb1
  have HB2 : Hid _ := hb2
  have HM1 : Hid _ := hm1
  have HM2 : Hid _ := hm2
  have HP : Hid _ := hp
  have HN : Hid _ := hnil
  obtain ⟨e0, e1, e2, e3, e4, e5, e6⟩ := hs.cells
  clear hs hb1 hb2 hm1 hm2 hp hnil
  go_enter Try.func20, Try.ntmps20
  go_wp2_with fail
  refine (size_any x n z _ hn).mono ?_
  rintro e w1 ⟨rfl, hB1⟩
  clear e0 e1 e2 e3 e4 e5 e6
  obtain ⟨e0, e1, e2, e3, e4, e5, e6⟩ := (SnapAt.later HSn.out hB1).cells
  go_wp2_with fail
  refine (databytes_any x n z _).mono ?_
  rintro e w2 ⟨rfl, hB2⟩
  have hB02 := hB1.trans (hB2.mono hB1.size)
  clear e0 e1 e2 e3 e4 e5 e6 hB1 hB2
  obtain ⟨e0, e1, e2, e3, e4, e5, e6⟩ := (SnapAt.later HSn.out hB02).cells
  go_wp2_with fail
  refine (samebytes_any x x2 n z z2 bs _ (Bytes.later HB1.out hB02) (Bytes.later HB2.out hB02)).mono ?_
  rintro e w3 ⟨rfl, hB3⟩
  have hB03 := hB02.trans (hB3.mono hB02.size)
  clear e0 e1 e2 e3 e4 e5 e6 hB02 hB3
  obtain ⟨e0, e1, e2, e3, e4, e5, e6⟩ := (SnapAt.later HSn.out hB03).cells
  go_wp2_with fail
  refine (samemembers_any x1 x3 n1 z1 z3 ms _ (Mems.later HM1.out hB03) (Mems.later HM2.out hB03) HN.out).mono ?_
  rintro e w4 ⟨rfl, hB4⟩
  have hB04 := hB03.trans (hB4.mono hB03.size)
  clear e0 e1 e2 e3 e4 e5 e6 hB03 hB4
  obtain ⟨e0, e1, e2, e3, e4, e5, e6⟩ := (SnapAt.later HSn.out hB04).cells
  go_wp2_with fail
  refine (sameremoved_any p1 p3 rm _ (SamePtr.later HP.out hB04)).mono ?_
  rintro e w5 ⟨rfl, hB5⟩
  go_wp2
  go_ret
  exact ⟨rfl, hB04.trans (hB5.mono hB04.size)⟩

end Go.Proofs.Qxb6605768a
