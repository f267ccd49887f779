/-
  Seat b6605768a. A ZPersistent by value, opened.
-/
import Derived.Test.Qxb6605768aOpen
import Derived.Test.Qxb6605768aEnts
namespace Go.Proofs.Qxb6605768a
open Go.ChangeShapes Go.WideShapes Go.ChangeAt Go.RowKit Go.Deep
open Go.ChangeMaps (open_string shut_string)
set_option linter.unusedVariables false

theorem array12 {α : Type} {cs : Array α} (h : cs.size = 12) : ∃ c0 c1 c2 c3 c4 c5 c6 c7 c8 c9 c10 c11, cs = #[c0, c1, c2, c3, c4, c5, c6, c7, c8, c9, c10, c11] := by
  obtain ⟨l⟩ := cs
  match l, h with
  | [c0, c1, c2, c3, c4, c5, c6, c7, c8, c9, c10, c11], _ => exact ⟨c0, c1, c2, c3, c4, c5, c6, c7, c8, c9, c10, c11, rfl⟩
theorem list4 {α : Type} {cs : List α} (h : cs.length = 4) : ∃ c0 c1 c2 c3, cs = [c0, c1, c2, c3] := by
  match cs, h with
  | [c0, c1, c2, c3], _ => exact ⟨c0, c1, c2, c3, rfl⟩
theorem list7 {α : Type} {cs : List α} (h : cs.length = 7) : ∃ c0 c1 c2 c3 c4 c5 c6, cs = [c0, c1, c2, c3, c4, c5, c6] := by
  match cs, h with
  | [c0, c1, c2, c3, c4, c5, c6], _ => exact ⟨c0, c1, c2, c3, c4, c5, c6, rfl⟩
theorem list2 {α : Type} {cs : List α} (h : cs.length = 2) : ∃ c0 c1, cs = [c0, c1] := by
  match cs, h with
  | [c0, c1], _ => exact ⟨c0, c1, rfl⟩

theorem cells23 : Try.prog.cellsOf 23 = 1 := by kernel_rfl
theorem cells30 : Try.prog.cellsOf 30 = 2 := by kernel_rfl
theorem cells32 : Try.prog.cellsOf 32 = 12 := by kernel_rfl
theorem cells73 : Try.prog.cellsOf 73 = 4 := by kernel_rfl

section
variable {H : Type} {enc : TypeId × Value → H} {W : World}

/-- The cells of an entry. -/
theorem ent_of {fuel : Nat} {cs : List Value} {x : DataW H × List MemPlace} (h : DataW.trod enc Try.prog W 0 (fun _ => true) true fuel 73 cs = some x) :
    ∃ e : Ent, cs = [.int .u64 e.term, .string e.cmd, .int .u64 e.origin, .slice e.ma e.mn e.mc] ∧ e.cmd.size ≤ 9223372036854775807 ∧ Mems W e.ma e.mn e.ms ∧ 0 ≤ e.term ∧ e.term ≤ 18446744073709551615 := by
  obtain ⟨xs, n, _, _, hl, hlen, hf⟩ := DataW.trod_struct Try.underlying73 h
  rw [cells73] at hl
  obtain ⟨c0, c1, c2, c3, rfl⟩ := list4 hl
  obtain ⟨y0, y1, y2, y3, rfl⟩ := list4 (show xs.length = 4 from hlen)
  have g0 : DataW.trod enc Try.prog W 0 (fun _ => true) true n 22 [c0] = some y0 := by have := hf 0 _ rfl; simpa [cells22] using this
  have g1 : DataW.trod enc Try.prog W 0 (fun _ => true) true n 9 [c1] = some y1 := by have := hf 1 _ rfl; simpa [cells9] using this
  have g2 : DataW.trod enc Try.prog W 0 (fun _ => true) true n 22 [c2] = some y2 := by have := hf 2 _ rfl; simpa [cells22] using this
  have g3 : DataW.trod enc Try.prog W 0 (fun _ => true) true n 25 [c3] = some y3 := by have := hf 3 _ rfl; simpa [cells25] using this
  obtain ⟨n0, e0, _, q0⟩ := DataW.trod_int Try.underlying22 g0
  obtain ⟨n1, e1, _, l1⟩ := DataW.trod_string Try.underlying9 g1
  obtain ⟨n2, e2, _⟩ := DataW.trod_int Try.underlying22 g2
  simp at e0 e1 e2
  subst e0 e1 e2
  have s3 : ∃ a l c, c3 = .slice a l c := by
    rcases open_slice Try.underlying25 g3 with ⟨hcs, _⟩ | ⟨a', len', cap', m, n, D, Pl, hcs, _⟩ <;> exact ⟨_, _, _, by simpa using hcs⟩
  obtain ⟨ma, mn, mc, rfl⟩ := s3
  obtain ⟨ms, hm⟩ := mems_of g3
  unfold maxLen at l1
  have hq := bounds_u64 q0
  exact ⟨{ term := n0, cmd := n1, origin := n2, ma := ma, mn := mn, mc := mc, ms := ms }, rfl, by show n1.size ≤ _; omega, hm, hq.1, hq.2⟩

theorem entAt_of {b o : Nat} {e : Ent} {cs : List Value} (hc : W.cells? 0 ⟨b, o, none⟩ 4 = some cs) (he : cs = [.int .u64 e.term, .string e.cmd, .int .u64 e.origin, .slice e.ma e.mn e.mc]) (h1 : e.cmd.size ≤ 9223372036854775807) (h2 : Mems W e.ma e.mn e.ms) : EntAt W b o e := by
  obtain ⟨_, _, hcell⟩ := World.cells?_some hc
  subst he
  have g : ∀ i, i < 4 → W.cell? ⟨b, o + i, none⟩ = ([.int .u64 e.term, .string e.cmd, .int .u64 e.origin, .slice e.ma e.mn e.mc] : List Value)[i]? := fun i hi => by have := hcell i hi; rwa [Addr.add_mid] at this
  exact ⟨g 0 (by omega), g 1 (by omega), g 2 (by omega), g 3 (by omega), h1, h2⟩

def noEnt : Ent := { term := 0, cmd := ByteArray.empty, origin := 0, ma := none, mn := 0, mc := 0, ms := fun _ => { id := 0, name := ByteArray.empty, addr := ByteArray.empty, inc := 0, nv := false } }

/-- A row of entries. -/
theorem ents_of {fuel : Nat} {a : Option Addr} {n c : Nat} {x : DataW H × List MemPlace} (h : DataW.trod enc Try.prog W 0 (fun _ => true) true fuel 23 [.slice a n c] = some x) : ∃ es, Ents W a n es ∧ ∀ j, j < n → 0 ≤ (es j).term ∧ (es j).term ≤ 18446744073709551615 := by
  rcases open_slice Try.underlying23 h with ⟨hcs, _⟩ | ⟨a', len, cap, m, q, D, Pl, hcs, _, hl, hm, hmm, _, hx⟩
  · simp at hcs
    obtain ⟨rfl, rfl, rfl⟩ := hcs
    exact ⟨fun _ => noEnt, ⟨by omega, fun _ => rfl, fun h => absurd h (by omega)⟩, fun j hj => absurd hj (by omega)⟩
  · simp at hcs
    obtain ⟨rfl, rfl, rfl⟩ := hcs
    simp only [if_true] at hmm
    subst hmm
    simp only [cells73] at hx
    obtain ⟨b, o, spot⟩ := a'
    unfold maxLen at hm
    by_cases h0 : 0 < n
    · have hspot : spot = none := by
        obtain ⟨cs', h1, h2⟩ := hx 0 (by omega)
        obtain ⟨m, rfl, _⟩ := ent_of h2
        obtain ⟨_, _, hcell⟩ := World.cells?_some h1
        simpa [Addr.add] using World.cell?_spot (hcell 0 (by omega))
      subst hspot
      have he : ∀ i, ∃ e : Ent, i < n → EntAt W b (o + i * 4) e ∧ 0 ≤ e.term ∧ e.term ≤ 18446744073709551615 := fun i => by
        by_cases hi : i < n
        · obtain ⟨cs', h1, h2⟩ := hx i (by omega)
          obtain ⟨m, he, l1, l2, l3⟩ := ent_of h2
          rw [Addr.add_mid] at h1
          exact ⟨m, fun _ => ⟨entAt_of h1 he l1 l2, l3⟩⟩
        · exact ⟨noEnt, fun h => absurd h hi⟩
      exact ⟨fun i => Classical.choose (he i), ⟨by omega, fun h => (by cases h), fun _ => ⟨b, o, rfl, fun j hj => (Classical.choose_spec (he j) hj).1⟩⟩, fun j hj => (Classical.choose_spec (he j) hj).2⟩
    · exact ⟨fun _ => noEnt, ⟨by omega, fun h => (by cases h), fun h => absurd h h0⟩, fun j hj => absurd hj (by omega)⟩

/-- A ZPersistent by value. -/
theorem pers_of {v : Value} {d : DataW H} {p : List MemPlace} (hv : Value.okWide Try.prog W .any 0 32 v) (h : DataW.Trod enc Try.prog W 0 (fun _ => true) true 32 v d p) :
    ∃ t vf la ln lc es cm ix tm da dn dc bs ma mn mc ms rp rm inc cid fo, v = .agg (pers t vf la ln lc cm ix tm da dn dc ma mn mc rp inc cid fo) ∧ Ents W la ln es ∧ (∀ j, j < ln → 0 ≤ (es j).term ∧ (es j).term ≤ 18446744073709551615) ∧ Bytes W da dn bs ∧ Mems W ma mn ms ∧ MemPtr W rp rm ∧
      (0 ≤ ix ∧ ix ≤ 18446744073709551615) ∧ 0 ≤ tm ∧ tm ≤ 18446744073709551615 := by
  obtain ⟨cs, rfl, hsz⟩ := okWide_struct Try.underlying32 hv
  obtain ⟨c0, c1, c2, c3, c4, c5, c6, c7, c8, c9, c10, c11, rfl⟩ := array12 (hsz.trans cells32)
  obtain ⟨fuel, hf0⟩ := h
  obtain ⟨xs, n, _, _, hl, hlen, hf⟩ := DataW.trod_struct Try.underlying32 hf0
  obtain ⟨y0, y1, y2, y3, y4, y5, y6, rfl⟩ := list7 (show xs.length = 7 from hlen)
  have g0 : DataW.trod enc Try.prog W 0 (fun _ => true) true n 22 [c0] = some y0 := by have := hf 0 _ rfl; simpa [cells22, Value.cells] using this
  have g1 : DataW.trod enc Try.prog W 0 (fun _ => true) true n 3 [c1] = some y1 := by have := hf 1 _ rfl; simpa [cells3, Value.cells] using this
  have g2 : DataW.trod enc Try.prog W 0 (fun _ => true) true n 23 [c2] = some y2 := by have := hf 2 _ rfl; simpa [cells23, Value.cells] using this
  have g3 : DataW.trod enc Try.prog W 0 (fun _ => true) true n 22 [c3] = some y3 := by have := hf 3 _ rfl; simpa [cells22, Value.cells] using this
  have g4 : DataW.trod enc Try.prog W 0 (fun _ => true) true n 28 [c4, c5, c6, c7, c8] = some y4 := by have := hf 4 _ rfl; simpa [cells28, Value.cells] using this
  have g5 : DataW.trod enc Try.prog W 0 (fun _ => true) true n 22 [c9] = some y5 := by have := hf 5 _ rfl; simpa [cells22, Value.cells] using this
  have g6 : DataW.trod enc Try.prog W 0 (fun _ => true) true n 30 [c10, c11] = some y6 := by have := hf 6 _ rfl; simpa [cells30, Value.cells] using this
  obtain ⟨n0, e0, _⟩ := DataW.trod_int Try.underlying22 g0
  obtain ⟨n1, e1, _⟩ := DataW.trod_int Try.underlying3 g1
  obtain ⟨n3, e3, _⟩ := DataW.trod_int Try.underlying22 g3
  obtain ⟨n9, e9, _⟩ := DataW.trod_int Try.underlying22 g5
  simp at e0 e1 e3 e9
  subst e0 e1 e3 e9
  have s2 : ∃ a l c, c2 = .slice a l c := by
    rcases open_slice Try.underlying23 g2 with ⟨hcs, _⟩ | ⟨a', len', cap', m, n, D, Pl, hcs, _⟩ <;> exact ⟨_, _, _, by simpa using hcs⟩
  obtain ⟨la, ln, lc, rfl⟩ := s2
  obtain ⟨es, hes, hes2⟩ := ents_of g2
  obtain ⟨zs, m, _, _, _, hlen4, hf4⟩ := DataW.trod_struct Try.underlying28 g4
  obtain ⟨z0, z1, z2, z3, z4, rfl⟩ := list5 (show zs.length = 5 from hlen4)
  have k0 : DataW.trod enc Try.prog W 0 (fun _ => true) true m 22 [c4] = some z0 := by have := hf4 0 _ rfl; simpa [cells22] using this
  have k1 : DataW.trod enc Try.prog W 0 (fun _ => true) true m 22 [c5] = some z1 := by have := hf4 1 _ rfl; simpa [cells22] using this
  have k2 : DataW.trod enc Try.prog W 0 (fun _ => true) true m 24 [c6] = some z2 := by have := hf4 2 _ rfl; simpa [cells24] using this
  have k3 : DataW.trod enc Try.prog W 0 (fun _ => true) true m 25 [c7] = some z3 := by have := hf4 3 _ rfl; simpa [cells25] using this
  have k4 : DataW.trod enc Try.prog W 0 (fun _ => true) true m 26 [c8] = some z4 := by have := hf4 4 _ rfl; simpa [cells26] using this
  obtain ⟨n4, e4, _, q4⟩ := DataW.trod_int Try.underlying22 k0
  obtain ⟨n5, e5, _, q5⟩ := DataW.trod_int Try.underlying22 k1
  simp at e4 e5
  subst e4 e5
  have s6 : ∃ a l c, c6 = .slice a l c := by
    rcases open_slice Try.underlying24 k2 with ⟨hcs, _⟩ | ⟨a', len', cap', m, n, D, Pl, hcs, _⟩ <;> exact ⟨_, _, _, by simpa using hcs⟩
  have s7 : ∃ a l c, c7 = .slice a l c := by
    rcases open_slice Try.underlying25 k3 with ⟨hcs, _⟩ | ⟨a', len', cap', m, n, D, Pl, hcs, _⟩ <;> exact ⟨_, _, _, by simpa using hcs⟩
  have s8 : ∃ a, c8 = .pointer a := by
    rcases DataW.trod_pointer Try.underlying26 k4 with ⟨hcs, _⟩ | ⟨a, cs', y, n, _, hcs, _⟩ <;> exact ⟨_, by simpa using hcs⟩
  obtain ⟨da, dn, dc, rfl⟩ := s6
  obtain ⟨ma, mn, mc, rfl⟩ := s7
  obtain ⟨rp, rfl⟩ := s8
  obtain ⟨bs, h1⟩ := bytes_of k2
  obtain ⟨ms, h2⟩ := mems_of k3
  obtain ⟨rm, h3⟩ := memPtr_of k4
  obtain ⟨ws, m', _, _, _, hlen6, hf6⟩ := DataW.trod_struct Try.underlying30 g6
  obtain ⟨w0, w1, rfl⟩ := list2 (show ws.length = 2 from hlen6)
  have l0 : DataW.trod enc Try.prog W 0 (fun _ => true) true m' 22 [c10] = some w0 := by have := hf6 0 _ rfl; simpa [cells22] using this
  have l1 : DataW.trod enc Try.prog W 0 (fun _ => true) true m' 22 [c11] = some w1 := by have := hf6 1 _ rfl; simpa [cells22] using this
  obtain ⟨n10, e10, _⟩ := DataW.trod_int Try.underlying22 l0
  obtain ⟨n11, e11, _⟩ := DataW.trod_int Try.underlying22 l1
  simp at e10 e11
  subst e10 e11
  exact ⟨n0, n1, la, ln, lc, es, n3, n4, n5, da, dn, dc, bs, ma, mn, mc, ms, rp, rm, n9, n10, n11, rfl, hes, hes2, h1, h2, h3, bounds_u64 q4, bounds_u64 q5⟩
end

end Go.Proofs.Qxb6605768a
