/-
  Seat b6605768a. A ZMessage by value, opened.
-/
import Derived.Test.Qxb6605768aOpenP
import Derived.Test.Qxb6605768aZMsg
namespace Go.Proofs.Qxb6605768a
open Go.ChangeShapes Go.WideShapes Go.ChangeAt Go.RowKit Go.Deep
open Go.ChangeMaps (open_string shut_string)
set_option linter.unusedVariables false

theorem array23 {α : Type} {cs : Array α} (h : cs.size = 23) : ∃ c0 c1 c2 c3 c4 c5 c6 c7 c8 c9 c10 c11 c12 c13 c14 c15 c16 c17 c18 c19 c20 c21 c22, cs = #[c0, c1, c2, c3, c4, c5, c6, c7, c8, c9, c10, c11, c12, c13, c14, c15, c16, c17, c18, c19, c20, c21, c22] := by
  obtain ⟨l⟩ := cs
  match l, h with
  | [c0, c1, c2, c3, c4, c5, c6, c7, c8, c9, c10, c11, c12, c13, c14, c15, c16, c17, c18, c19, c20, c21, c22], _ => exact ⟨c0, c1, c2, c3, c4, c5, c6, c7, c8, c9, c10, c11, c12, c13, c14, c15, c16, c17, c18, c19, c20, c21, c22, rfl⟩
theorem list23 {α : Type} {cs : List α} (h : cs.length = 23) : ∃ c0 c1 c2 c3 c4 c5 c6 c7 c8 c9 c10 c11 c12 c13 c14 c15 c16 c17 c18 c19 c20 c21 c22, cs = [c0, c1, c2, c3, c4, c5, c6, c7, c8, c9, c10, c11, c12, c13, c14, c15, c16, c17, c18, c19, c20, c21, c22] := by
  match cs, h with
  | [c0, c1, c2, c3, c4, c5, c6, c7, c8, c9, c10, c11, c12, c13, c14, c15, c16, c17, c18, c19, c20, c21, c22], _ => exact ⟨c0, c1, c2, c3, c4, c5, c6, c7, c8, c9, c10, c11, c12, c13, c14, c15, c16, c17, c18, c19, c20, c21, c22, rfl⟩

theorem cells5 : Try.prog.cellsOf 5 = 1 := by kernel_rfl
theorem cells42 : Try.prog.cellsOf 42 = 23 := by kernel_rfl

section
variable {H : Type} {enc : TypeId × Value → H} {W : World}

set_option maxRecDepth 100000 in
set_option maxHeartbeats 4000000 in
/-- A ZMessage by value. -/
theorem msg_of {v : Value} {d : DataW H} {p : List MemPlace} (hv : Value.okWide Try.prog W .any 0 42 v) (h : DataW.Trod enc Try.prog W 0 (fun _ => true) true 42 v d p) :
    ∃ z es bs ms rm, v = .agg (ZM.val z) ∧ Ents W z.ea z.en es ∧ Bytes W z.pa z.pn bs ∧ Mems W z.ma z.mn ms ∧ MemPtr W z.rp rm ∧ 0 ≤ z.sz ∧ 0 ≤ z.off := by
  obtain ⟨cs, rfl, hsz⟩ := okWide_struct Try.underlying42 hv
  obtain ⟨c0, c1, c2, c3, c4, c5, c6, c7, c8, c9, c10, c11, c12, c13, c14, c15, c16, c17, c18, c19, c20, c21, c22, rfl⟩ := array23 (hsz.trans cells42)
  obtain ⟨fuel, hf0⟩ := h
  obtain ⟨xs, n, _, _, hl, hlen, hf⟩ := DataW.trod_struct Try.underlying42 hf0
  obtain ⟨y0, y1, y2, y3, y4, y5, y6, y7, y8, y9, y10, y11, y12, y13, y14, y15, y16, y17, y18, y19, y20, y21, y22, rfl⟩ := list23 (show xs.length = 23 from hlen)
  have g0 : DataW.trod enc Try.prog W 0 (fun _ => true) true n 5 [c0] = some y0 := by have := hf 0 _ rfl; simpa [cells5, Value.cells] using this
  have g1 : DataW.trod enc Try.prog W 0 (fun _ => true) true n 3 [c1] = some y1 := by have := hf 1 _ rfl; simpa [cells3, Value.cells] using this
  have g2 : DataW.trod enc Try.prog W 0 (fun _ => true) true n 3 [c2] = some y2 := by have := hf 2 _ rfl; simpa [cells3, Value.cells] using this
  have g3 : DataW.trod enc Try.prog W 0 (fun _ => true) true n 22 [c3] = some y3 := by have := hf 3 _ rfl; simpa [cells22, Value.cells] using this
  have g4 : DataW.trod enc Try.prog W 0 (fun _ => true) true n 22 [c4] = some y4 := by have := hf 4 _ rfl; simpa [cells22, Value.cells] using this
  have g5 : DataW.trod enc Try.prog W 0 (fun _ => true) true n 22 [c5] = some y5 := by have := hf 5 _ rfl; simpa [cells22, Value.cells] using this
  have g6 : DataW.trod enc Try.prog W 0 (fun _ => true) true n 22 [c6] = some y6 := by have := hf 6 _ rfl; simpa [cells22, Value.cells] using this
  have g7 : DataW.trod enc Try.prog W 0 (fun _ => true) true n 22 [c7] = some y7 := by have := hf 7 _ rfl; simpa [cells22, Value.cells] using this
  have g8 : DataW.trod enc Try.prog W 0 (fun _ => true) true n 23 [c8] = some y8 := by have := hf 8 _ rfl; simpa [cells23, Value.cells] using this
  have g9 : DataW.trod enc Try.prog W 0 (fun _ => true) true n 22 [c9] = some y9 := by have := hf 9 _ rfl; simpa [cells22, Value.cells] using this
  have g10 : DataW.trod enc Try.prog W 0 (fun _ => true) true n 4 [c10] = some y10 := by have := hf 10 _ rfl; simpa [cells4, Value.cells] using this
  have g11 : DataW.trod enc Try.prog W 0 (fun _ => true) true n 4 [c11] = some y11 := by have := hf 11 _ rfl; simpa [cells4, Value.cells] using this
  have g12 : DataW.trod enc Try.prog W 0 (fun _ => true) true n 4 [c12] = some y12 := by have := hf 12 _ rfl; simpa [cells4, Value.cells] using this
  have g13 : DataW.trod enc Try.prog W 0 (fun _ => true) true n 22 [c13] = some y13 := by have := hf 13 _ rfl; simpa [cells22, Value.cells] using this
  have g14 : DataW.trod enc Try.prog W 0 (fun _ => true) true n 22 [c14] = some y14 := by have := hf 14 _ rfl; simpa [cells22, Value.cells] using this
  have g15 : DataW.trod enc Try.prog W 0 (fun _ => true) true n 22 [c15] = some y15 := by have := hf 15 _ rfl; simpa [cells22, Value.cells] using this
  have g16 : DataW.trod enc Try.prog W 0 (fun _ => true) true n 22 [c16] = some y16 := by have := hf 16 _ rfl; simpa [cells22, Value.cells] using this
  have g17 : DataW.trod enc Try.prog W 0 (fun _ => true) true n 24 [c17] = some y17 := by have := hf 17 _ rfl; simpa [cells24, Value.cells] using this
  have g18 : DataW.trod enc Try.prog W 0 (fun _ => true) true n 4 [c18] = some y18 := by have := hf 18 _ rfl; simpa [cells4, Value.cells] using this
  have g19 : DataW.trod enc Try.prog W 0 (fun _ => true) true n 25 [c19] = some y19 := by have := hf 19 _ rfl; simpa [cells25, Value.cells] using this
  have g20 : DataW.trod enc Try.prog W 0 (fun _ => true) true n 26 [c20] = some y20 := by have := hf 20 _ rfl; simpa [cells26, Value.cells] using this
  have g21 : DataW.trod enc Try.prog W 0 (fun _ => true) true n 22 [c21] = some y21 := by have := hf 21 _ rfl; simpa [cells22, Value.cells] using this
  have g22 : DataW.trod enc Try.prog W 0 (fun _ => true) true n 22 [c22] = some y22 := by have := hf 22 _ rfl; simpa [cells22, Value.cells] using this
  clear hf hf0 hl hlen hv hsz
  obtain ⟨n0, e0, _, q0⟩ := DataW.trod_int Try.underlying5 g0
  simp at e0
  subst e0
  obtain ⟨n1, e1, _, q1⟩ := DataW.trod_int Try.underlying3 g1
  simp at e1
  subst e1
  obtain ⟨n2, e2, _, q2⟩ := DataW.trod_int Try.underlying3 g2
  simp at e2
  subst e2
  obtain ⟨n3, e3, _, q3⟩ := DataW.trod_int Try.underlying22 g3
  simp at e3
  subst e3
  obtain ⟨n4, e4, _, q4⟩ := DataW.trod_int Try.underlying22 g4
  simp at e4
  subst e4
  obtain ⟨n5, e5, _, q5⟩ := DataW.trod_int Try.underlying22 g5
  simp at e5
  subst e5
  obtain ⟨n6, e6, _, q6⟩ := DataW.trod_int Try.underlying22 g6
  simp at e6
  subst e6
  obtain ⟨n7, e7, _, q7⟩ := DataW.trod_int Try.underlying22 g7
  simp at e7
  subst e7
  have s8 : ∃ a l c, c8 = .slice a l c := by
    rcases open_slice Try.underlying23 g8 with ⟨hcs, _⟩ | ⟨a', len', cap', m, n, D, Pl, hcs, _⟩ <;> exact ⟨_, _, _, by simpa using hcs⟩
  obtain ⟨a8, l8, k8, rfl⟩ := s8
  obtain ⟨n9, e9, _, q9⟩ := DataW.trod_int Try.underlying22 g9
  simp at e9
  subst e9
  obtain ⟨n10, e10, _⟩ := DataW.trod_bool Try.underlying4 g10
  simp at e10
  subst e10
  obtain ⟨n11, e11, _⟩ := DataW.trod_bool Try.underlying4 g11
  simp at e11
  subst e11
  obtain ⟨n12, e12, _⟩ := DataW.trod_bool Try.underlying4 g12
  simp at e12
  subst e12
  obtain ⟨n13, e13, _, q13⟩ := DataW.trod_int Try.underlying22 g13
  simp at e13
  subst e13
  obtain ⟨n14, e14, _, q14⟩ := DataW.trod_int Try.underlying22 g14
  simp at e14
  subst e14
  obtain ⟨n15, e15, _, q15⟩ := DataW.trod_int Try.underlying22 g15
  simp at e15
  subst e15
  obtain ⟨n16, e16, _, q16⟩ := DataW.trod_int Try.underlying22 g16
  simp at e16
  subst e16
  have s17 : ∃ a l c, c17 = .slice a l c := by
    rcases open_slice Try.underlying24 g17 with ⟨hcs, _⟩ | ⟨a', len', cap', m, n, D, Pl, hcs, _⟩ <;> exact ⟨_, _, _, by simpa using hcs⟩
  obtain ⟨a17, l17, k17, rfl⟩ := s17
  obtain ⟨n18, e18, _⟩ := DataW.trod_bool Try.underlying4 g18
  simp at e18
  subst e18
  have s19 : ∃ a l c, c19 = .slice a l c := by
    rcases open_slice Try.underlying25 g19 with ⟨hcs, _⟩ | ⟨a', len', cap', m, n, D, Pl, hcs, _⟩ <;> exact ⟨_, _, _, by simpa using hcs⟩
  obtain ⟨a19, l19, k19, rfl⟩ := s19
  have s20 : ∃ a, c20 = .pointer a := by
    rcases DataW.trod_pointer Try.underlying26 g20 with ⟨hcs, _⟩ | ⟨a, cs', y, n, _, hcs, _⟩ <;> exact ⟨_, by simpa using hcs⟩
  obtain ⟨a20, rfl⟩ := s20
  obtain ⟨n21, e21, _, q21⟩ := DataW.trod_int Try.underlying22 g21
  simp at e21
  subst e21
  obtain ⟨n22, e22, _, q22⟩ := DataW.trod_int Try.underlying22 g22
  simp at e22
  subst e22
  obtain ⟨es, hes, _⟩ := ents_of g8
  obtain ⟨bs, hbs⟩ := bytes_of g17
  obtain ⟨ms, hms⟩ := mems_of g19
  obtain ⟨rm, hrm⟩ := memPtr_of g20
  exact ⟨{ kind := n0, fr := n1, to := n2, tm := n3, li := n4, lt := n5, pi := n6, pt := n7, ea := a8, en := l8, ec := k8, cm := n9, ok := n10, pre := n11, tr := n12, ix := n13, ct := n14, off := n15, sz := n16, pa := a17, pn := l17, pc := k17, done := n18, ma := a19, mn := l19, mc := k19, rp := a20, inc := n21, rd := n22 }, es, bs, ms, rm, rfl, hes, hbs, hms, hrm, (bounds_u64 q16).1, (bounds_u64 q15).1⟩
end

end Go.Proofs.Qxb6605768a
