/-
  Seat b6605768a. A message by value; zMessageSize (16).
-/
import Derived.Test.Qxb6605768aPers
namespace Go.Proofs.Qxb6605768a
open Go.RowKit
set_option linter.unusedVariables false

/-- A ZMessage's fields. -/
structure ZM where
  kind : Int
  fr : Int
  to : Int
  tm : Int
  li : Int
  lt : Int
  pi : Int
  pt : Int
  ea : Option Addr
  en : Nat
  ec : Nat
  cm : Int
  ok : Bool
  pre : Bool
  tr : Bool
  ix : Int
  ct : Int
  off : Int
  sz : Int
  pa : Option Addr
  pn : Nat
  pc : Nat
  done : Bool
  ma : Option Addr
  mn : Nat
  mc : Nat
  rp : Option Addr
  inc : Int
  rd : Int

abbrev ZM.val (z : ZM) : Array Value := #[.int .u8 z.kind, .int .i64 z.fr, .int .i64 z.to, .int .u64 z.tm, .int .u64 z.li, .int .u64 z.lt, .int .u64 z.pi, .int .u64 z.pt, .slice z.ea z.en z.ec, .int .u64 z.cm, .bool z.ok, .bool z.pre, .bool z.tr, .int .u64 z.ix, .int .u64 z.ct, .int .u64 z.off, .int .u64 z.sz, .slice z.pa z.pn z.pc, .bool z.done, .slice z.ma z.mn z.mc, .pointer z.rp, .int .u64 z.inc, .int .u64 z.rd]

set_option maxRecDepth 100000 in
set_option maxHeartbeats 4000000 in
theorem msgsize_any (z : ZM) (es : Nat → Ent) (ms : Nat → Mem) (rm : Mem) (w : World) (he : Ents w z.ea z.en es) (hp : z.pn ≤ 9223372036854775807) (hm : Mems w z.ma z.mn ms) (hr : MemPtr w z.rp rm) :
    Calls Try.prog 16 #[.agg z.val] w (U64End w) := by
  go_enter Try.func16, Try.ntmps16
  go_wp2
  have HE : Hid _ := he
  have HM : Hid _ := hm
  have HR : Hid _ := hr
  clear hm hr he
  obtain ⟨W, hW⟩ : ∃ W, w.alloc (.cells z.val 42) = W := ⟨_, rfl⟩
  have HS0 : Hid (Below w.heap.size w W.drew ∧ W.drew.cell? ⟨w.heap.size, 8, none⟩ = some (.slice z.ea z.en z.ec) ∧ W.drew.cell? ⟨w.heap.size, 17, none⟩ = some (.slice z.pa z.pn z.pc) ∧ W.drew.cell? ⟨w.heap.size, 19, none⟩ = some (.slice z.ma z.mn z.mc) ∧ W.drew.cell? ⟨w.heap.size, 20, none⟩ = some (.pointer z.rp)) := by
    rw [← hW]
    exact ⟨((Below.refl _ _).alloc (Nat.le_refl _) _).drew, by simp, by simp, by simp, by simp⟩
  rw [hW]
  clear hW
  have HK : Hid (∀ X Y : World, (Below w.heap.size w X ∧ X.cell? ⟨w.heap.size, 8, none⟩ = some (.slice z.ea z.en z.ec) ∧ X.cell? ⟨w.heap.size, 17, none⟩ = some (.slice z.pa z.pn z.pc) ∧ X.cell? ⟨w.heap.size, 19, none⟩ = some (.slice z.ma z.mn z.mc) ∧ X.cell? ⟨w.heap.size, 20, none⟩ = some (.pointer z.rp)) → Below X.heap.size X Y → (Below w.heap.size w Y ∧ Y.cell? ⟨w.heap.size, 8, none⟩ = some (.slice z.ea z.en z.ec) ∧ Y.cell? ⟨w.heap.size, 17, none⟩ = some (.slice z.pa z.pn z.pc) ∧ Y.cell? ⟨w.heap.size, 19, none⟩ = some (.slice z.ma z.mn z.mc) ∧ Y.cell? ⟨w.heap.size, 20, none⟩ = some (.pointer z.rp))) := by
    rintro X Y ⟨s0, s1, s2, s3, s4⟩ hXY
    exact ⟨s0.trans (hXY.mono s0.size), keepc s1 hXY, keepc s2 hXY, keepc s3 hXY, keepc s4 hXY⟩
  go_region_held3 (fun w' => (Below w.heap.size w w' ∧ w'.cell? ⟨w.heap.size, 8, none⟩ = some (.slice z.ea z.en z.ec) ∧ w'.cell? ⟨w.heap.size, 17, none⟩ = some (.slice z.pa z.pn z.pc) ∧ w'.cell? ⟨w.heap.size, 19, none⟩ = some (.slice z.ma z.mn z.mc) ∧ w'.cell? ⟨w.heap.size, 20, none⟩ = some (.pointer z.rp)))
    (first | (with_reducible assumption) | (with_reducible exact HS0.out) | (with_reducible exact HK.out _ _ (by with_reducible assumption) (by with_reducible assumption)))
    (first
      | (go_at_call 29; refine Calls.mono (essize_any _ _ _ es _ (by exact Ents.later HE.out (‹Below w.heap.size w _ ∧ _›).1)) ?_; rintro e w1 ⟨z1, rfl, hz1, hB1⟩)
      | (go_at_call 24; refine Calls.mono (mssize_any _ _ _ ms _ (by exact Mems.later HM.out (‹Below w.heap.size w _ ∧ _›).1)) ?_; rintro e w3 ⟨z3, rfl, hz3, hB3⟩)
      | (go_at_call 25; refine Calls.mono (rsize_any _ rm _ (by exact MemPtr.later HR.out (‹Below w.heap.size w _ ∧ _›).1)) ?_; rintro e w4 ⟨z4, rfl, hz4, hB4⟩)
      | (go_at_call 14; refine Calls.mono (zadd_any _ _ _ (by repeat' (first | assumption | omega | exact wrap_nn _ | apply zadd_nn)) (by repeat' (first | assumption | omega | exact wrap_nn _ | apply zadd_nn))) ?_; rintro e w2 ⟨rfl, rfl⟩))
  go_wp2
  go_ret
  exact ⟨_, rfl, by repeat' (first | assumption | omega | exact wrap_nn _ | apply zadd_nn), (‹Below w.heap.size w _ ∧ _›).1⟩

end Go.Proofs.Qxb6605768a
