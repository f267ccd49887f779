/-
  Seat b6605768a. The arguments of the laws, opened: bytes, members, a pointer to a member, a ZSnapshot by value.
-/
import Derived.Test.Qxb6605768aRows
import Derived.WalkKit
import Derived.ProofKit
import Derived.OpenShut
import Derived.ShutString
import Derived.ChangeOld
import Derived.Below
import Derived.Deep.Slices
import Derived.Deep.Strs
import Derived.Deep.Fields
import Derived.Test.Qxb6605768aMsg
namespace Go.Proofs.Qxb6605768a
open Go.ChangeShapes Go.WideShapes Go.ChangeAt Go.RowKit Go.Deep
open Go.ChangeMaps (open_string shut_string)
set_option linter.unusedVariables false

theorem own : ownKnob Try.prog.godebug = none := by kernel_rfl
theorem laidOut : laidOutB Try.prog = true := by kernel_rfl

theorem array5 {α : Type} {cs : Array α} (h : cs.size = 5) : ∃ c0 c1 c2 c3 c4, cs = #[c0, c1, c2, c3, c4] := by
  obtain ⟨l⟩ := cs
  match l, h with
  | [c0, c1, c2, c3, c4], _ => exact ⟨c0, c1, c2, c3, c4, rfl⟩
theorem list5 {α : Type} {cs : List α} (h : cs.length = 5) : ∃ c0 c1 c2 c3 c4, cs = [c0, c1, c2, c3, c4] := by
  match cs, h with
  | [c0, c1, c2, c3, c4], _ => exact ⟨c0, c1, c2, c3, c4, rfl⟩

theorem plain_addr {w : World} {a : Addr} {n : Nat} {V : Nat → Value} (h : ∀ i, i < n → w.cell? (a.add i) = some (V i)) (h0 : 0 < n) : ∃ b o, a = ⟨b, o, none⟩ ∧ ∀ i, i < n → w.cell? ⟨b, o + i, none⟩ = some (V i) := by
  obtain ⟨b, off, spot⟩ := a
  have hspot : spot = none := by simpa [Addr.add] using World.cell?_spot (h 0 h0)
  subst hspot
  exact ⟨b, off, rfl, fun j hj => by rw [← Go.WideShapes.add_plain]; exact h j hj⟩

theorem cells3 : Try.prog.cellsOf 3 = 1 := by kernel_rfl
theorem cells4 : Try.prog.cellsOf 4 = 1 := by kernel_rfl
theorem cells9 : Try.prog.cellsOf 9 = 1 := by kernel_rfl
theorem cells22 : Try.prog.cellsOf 22 = 1 := by kernel_rfl
theorem cells24 : Try.prog.cellsOf 24 = 1 := by kernel_rfl
theorem cells25 : Try.prog.cellsOf 25 = 1 := by kernel_rfl
theorem cells26 : Try.prog.cellsOf 26 = 1 := by kernel_rfl
theorem cells75 : Try.prog.cellsOf 75 = 5 := by kernel_rfl
theorem cells28 : Try.prog.cellsOf 28 = 5 := by kernel_rfl

section
variable {H : Type} {enc : TypeId × Value → H} {W : World}

/-- The cells of a member. -/
theorem mem_of {fuel : Nat} {cs : List Value} {x : DataW H × List MemPlace} (h : DataW.trod enc Try.prog W 0 (fun _ => true) true fuel 75 cs = some x) :
    ∃ m : Mem, cs = [.int .i64 m.id, .string m.name, .string m.addr, .int .u64 m.inc, .bool m.nv] ∧ m.name.size ≤ 9223372036854775807 ∧ m.addr.size ≤ 9223372036854775807 := by
  obtain ⟨xs, n, _, _, hl, hlen, hf⟩ := DataW.trod_struct Try.underlying75 h
  rw [cells75] at hl
  obtain ⟨c0, c1, c2, c3, c4, rfl⟩ := list5 hl
  obtain ⟨y0, y1, y2, y3, y4, rfl⟩ := list5 (show xs.length = 5 from hlen)
  have g0 : DataW.trod enc Try.prog W 0 (fun _ => true) true n 3 [c0] = some y0 := by have := hf 0 _ rfl; simpa [cells3] using this
  have g1 : DataW.trod enc Try.prog W 0 (fun _ => true) true n 9 [c1] = some y1 := by have := hf 1 _ rfl; simpa [cells9] using this
  have g2 : DataW.trod enc Try.prog W 0 (fun _ => true) true n 9 [c2] = some y2 := by have := hf 2 _ rfl; simpa [cells9] using this
  have g3 : DataW.trod enc Try.prog W 0 (fun _ => true) true n 22 [c3] = some y3 := by have := hf 3 _ rfl; simpa [cells22] using this
  have g4 : DataW.trod enc Try.prog W 0 (fun _ => true) true n 4 [c4] = some y4 := by have := hf 4 _ rfl; simpa [cells4] using this
  obtain ⟨n0, e0, _⟩ := DataW.trod_int Try.underlying3 g0
  obtain ⟨n1, e1, _, l1⟩ := DataW.trod_string Try.underlying9 g1
  obtain ⟨n2, e2, _, l2⟩ := DataW.trod_string Try.underlying9 g2
  obtain ⟨n3, e3, _⟩ := DataW.trod_int Try.underlying22 g3
  obtain ⟨n4, e4, _⟩ := DataW.trod_bool Try.underlying4 g4
  simp at e0 e1 e2 e3 e4
  subst e0 e1 e2 e3 e4
  unfold maxLen at l1 l2
  exact ⟨{ id := n0, name := n1, addr := n2, inc := n3, nv := n4 }, rfl, by omega, by omega⟩

theorem memAt_of {b o : Nat} {m : Mem} {cs : List Value} (hc : W.cells? 0 ⟨b, o, none⟩ 5 = some cs) (he : cs = [.int .i64 m.id, .string m.name, .string m.addr, .int .u64 m.inc, .bool m.nv]) (h1 : m.name.size ≤ 9223372036854775807) (h2 : m.addr.size ≤ 9223372036854775807) : MemAt W b o m := by
  obtain ⟨_, _, hcell⟩ := World.cells?_some hc
  subst he
  have g : ∀ i, i < 5 → W.cell? ⟨b, o + i, none⟩ = ([.int .i64 m.id, .string m.name, .string m.addr, .int .u64 m.inc, .bool m.nv] : List Value)[i]? := fun i hi => by have := hcell i hi; rwa [Addr.add_mid] at this
  exact ⟨g 0 (by omega), g 1 (by omega), g 2 (by omega), g 3 (by omega), g 4 (by omega), h1, h2⟩

/-- A row of members. -/
theorem mems_of {fuel : Nat} {a : Option Addr} {n c : Nat} {x : DataW H × List MemPlace} (h : DataW.trod enc Try.prog W 0 (fun _ => true) true fuel 25 [.slice a n c] = some x) : ∃ ms, Mems W a n ms := by
  rcases open_slice Try.underlying25 h with ⟨hcs, _⟩ | ⟨a', len, cap, m, q, D, Pl, hcs, _, hl, hm, hmm, _, hx⟩
  · simp at hcs
    obtain ⟨rfl, rfl, rfl⟩ := hcs
    exact ⟨fun _ => { id := 0, name := ByteArray.empty, addr := ByteArray.empty, inc := 0, nv := false }, by omega, fun _ => rfl, fun h => absurd h (by omega)⟩
  · simp at hcs
    obtain ⟨rfl, rfl, rfl⟩ := hcs
    simp only [if_true] at hmm
    subst hmm
    simp only [cells75] at hx
    obtain ⟨b, o, spot⟩ := a'
    unfold maxLen at hm
    by_cases h0 : 0 < n
    · have hspot : spot = none := by
        obtain ⟨cs', h1, h2⟩ := hx 0 (by omega)
        obtain ⟨m, rfl, _⟩ := mem_of h2
        obtain ⟨_, _, hcell⟩ := World.cells?_some h1
        simpa [Addr.add] using World.cell?_spot (hcell 0 (by omega))
      subst hspot
      have he : ∀ i, ∃ m : Mem, i < n → MemAt W b (o + i * 5) m := fun i => by
        by_cases hi : i < n
        · obtain ⟨cs', h1, h2⟩ := hx i (by omega)
          obtain ⟨m, he, l1, l2⟩ := mem_of h2
          rw [Addr.add_mid] at h1
          exact ⟨m, fun _ => memAt_of h1 he l1 l2⟩
        · exact ⟨{ id := 0, name := ByteArray.empty, addr := ByteArray.empty, inc := 0, nv := false }, fun h => absurd h hi⟩
      exact ⟨fun i => Classical.choose (he i), by omega, fun h => (by cases h), fun _ => ⟨b, o, rfl, fun j hj => Classical.choose_spec (he j) hj⟩⟩
    · exact ⟨fun _ => { id := 0, name := ByteArray.empty, addr := ByteArray.empty, inc := 0, nv := false }, by omega, fun h => (by cases h), fun h => absurd h h0⟩

/-- A pointer to a member. -/
theorem memPtr_of {fuel : Nat} {p : Option Addr} {x : DataW H × List MemPlace} (h : DataW.trod enc Try.prog W 0 (fun _ => true) true fuel 26 [.pointer p] = some x) : ∃ m, MemPtr W p m := by
  rcases DataW.trod_pointer Try.underlying26 h with ⟨hcs, _⟩ | ⟨a, cs', y, n, _, hcs, _, h1, h2⟩
  · simp at hcs
    exact ⟨{ id := 0, name := ByteArray.empty, addr := ByteArray.empty, inc := 0, nv := false }, .inl hcs⟩
  · simp at hcs
    subst hcs
    obtain ⟨m, he, l1, l2⟩ := mem_of h2
    rw [cells75] at h1
    obtain ⟨b, o, spot⟩ := a
    have hspot : spot = none := by
      obtain ⟨_, _, hcell⟩ := World.cells?_some h1
      rw [he] at hcell
      simpa [Addr.add] using World.cell?_spot (hcell 0 (by omega))
    subst hspot
    exact ⟨m, .inr ⟨b, o, rfl, memAt_of h1 he l1 l2⟩⟩

/-- A row of bytes. -/
theorem bytes_of {fuel : Nat} {a : Option Addr} {n c : Nat} {x : DataW H × List MemPlace} (h : DataW.trod enc Try.prog W 0 (fun _ => true) true fuel 24 [.slice a n c] = some x) : ∃ zs, Bytes W a n zs := by
  rcases open_ints Try.underlying24 Try.underlying5 (by kernel_rfl) h with ⟨hcs, _⟩ | ⟨x, l, c, zs, hcs, _, hl, hm, hz, _, hcell, hwz⟩
  · simp at hcs
    obtain ⟨rfl, rfl, rfl⟩ := hcs
    exact ⟨fun _ => 0, by omega, fun _ => rfl, fun h => absurd h (by omega)⟩
  · simp at hcs
    obtain ⟨rfl, rfl, rfl⟩ := hcs
    simp only [if_true] at hz
    refine ⟨fun i => zs.getD i 0, by unfold maxLen at hm; omega, fun h => (by cases h), fun h0 => ?_⟩
    obtain ⟨b, o, rfl, hc⟩ := plain_addr (n := n) (V := fun i => .int .u8 (zs.getD i 0)) (fun i hi => hcell i (by omega)) h0
    exact ⟨b, o, rfl, hc⟩

/-- A ZSnapshot by value. -/
theorem snap_of {v : Value} {d : DataW H} {p : List MemPlace} (hv : Value.okWide Try.prog W .any 0 28 v) (h : DataW.Trod enc Try.prog W 0 (fun _ => true) true 28 v d p) :
    ∃ ix tm da dn dc bs ma mn mc ms rp rm, v = .agg #[.int .u64 ix, .int .u64 tm, .slice da dn dc, .slice ma mn mc, .pointer rp] ∧ Bytes W da dn bs ∧ Mems W ma mn ms ∧ MemPtr W rp rm := by
  obtain ⟨cs, rfl, hsz⟩ := okWide_struct Try.underlying28 hv
  obtain ⟨c0, c1, c2, c3, c4, rfl⟩ := array5 (hsz.trans cells28)
  obtain ⟨fuel, hf0⟩ := h
  obtain ⟨xs, n, _, _, hl, hlen, hf⟩ := DataW.trod_struct Try.underlying28 hf0
  obtain ⟨y0, y1, y2, y3, y4, rfl⟩ := list5 (show xs.length = 5 from hlen)
  have g0 : DataW.trod enc Try.prog W 0 (fun _ => true) true n 22 [c0] = some y0 := by have := hf 0 _ rfl; simpa [cells22, Value.cells] using this
  have g1 : DataW.trod enc Try.prog W 0 (fun _ => true) true n 22 [c1] = some y1 := by have := hf 1 _ rfl; simpa [cells22, Value.cells] using this
  have g2 : DataW.trod enc Try.prog W 0 (fun _ => true) true n 24 [c2] = some y2 := by have := hf 2 _ rfl; simpa [cells24, Value.cells] using this
  have g3 : DataW.trod enc Try.prog W 0 (fun _ => true) true n 25 [c3] = some y3 := by have := hf 3 _ rfl; simpa [cells25, Value.cells] using this
  have g4 : DataW.trod enc Try.prog W 0 (fun _ => true) true n 26 [c4] = some y4 := by have := hf 4 _ rfl; simpa [cells26, Value.cells] using this
  obtain ⟨n0, e0, _⟩ := DataW.trod_int Try.underlying22 g0
  obtain ⟨n1, e1, _⟩ := DataW.trod_int Try.underlying22 g1
  simp at e0 e1
  subst e0 e1
  have s2 : ∃ a l c, c2 = .slice a l c := by
    rcases open_slice Try.underlying24 g2 with ⟨hcs, _⟩ | ⟨a', len', cap', m, n, D, Pl, hcs, _⟩ <;> exact ⟨_, _, _, by simpa using hcs⟩
  have s3 : ∃ a l c, c3 = .slice a l c := by
    rcases open_slice Try.underlying25 g3 with ⟨hcs, _⟩ | ⟨a', len', cap', m, n, D, Pl, hcs, _⟩ <;> exact ⟨_, _, _, by simpa using hcs⟩
  have s4 : ∃ a, c4 = .pointer a := by
    rcases DataW.trod_pointer Try.underlying26 g4 with ⟨hcs, _⟩ | ⟨a, cs', y, n, _, hcs, _⟩ <;> exact ⟨_, by simpa using hcs⟩
  obtain ⟨da, dn, dc, rfl⟩ := s2
  obtain ⟨ma, mn, mc, rfl⟩ := s3
  obtain ⟨rp, rfl⟩ := s4
  obtain ⟨bs, h1⟩ := bytes_of (by simpa using g2)
  obtain ⟨ms, h2⟩ := mems_of (by simpa using g3)
  obtain ⟨rm, h3⟩ := memPtr_of (by simpa using g4)
  exact ⟨n0, n1, da, dn, dc, bs, ma, mn, mc, ms, rp, rm, rfl, h1, h2, h3⟩
end

end Go.Proofs.Qxb6605768a
