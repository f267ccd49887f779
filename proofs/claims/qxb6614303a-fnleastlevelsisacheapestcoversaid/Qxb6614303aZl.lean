/-
  Seat b6614303a. ZZleastLevels (8); zzBytes (10, 7); the copy that a law makes first; what leastLevels' answer is, without Go.
-/
import Derived.Test.Qxb6614303aLevels
import Derived.Laws.CopyOwn
namespace Go.Proofs.Qxb6614303a
open Go.RowKit
set_option linter.unusedVariables false

/-- A slice of n numbers: none, or a row from b on. -/
def SlAt (w : World) (b : Nat) (x : Option Addr) (n : Nat) (f : Nat → Int) : Prop := n = 0 ∨ ∃ g, b ≤ g ∧ x = some ⟨g, 0, none⟩ ∧ Xs w g 0 n f
theorem SlAt.later {w w' : World} {b : Nat} {x : Option Addr} {n : Nat} {f : Nat → Int} (h : SlAt w b x n f) (hb : Below w.heap.size w w') : SlAt w' b x n f := by
  rcases h with h | ⟨g, h1, h2, h3⟩
  · exact .inl h
  · exact .inr ⟨g, h1, h2, fun j hj => keepc (h3 j hj) hb⟩

def ZlEnd (n : Nat) (f : Nat → Int) (w : World) (e : Ending) (w' : World) : Prop :=
  Below w.heap.size w w' ∧ ∃ x z, e = .returned (.slice x n z) ∧ Hid (SlAt w' w.heap.size x n f)

set_option maxRecDepth 100000 in
set_option maxHeartbeats 4000000 in
theorem levels0_any (a0 : Option Addr) (nz mc : Nat) (f : Nat → Int) (w : World) (hmc : (mc : Int) ≤ 9223372036854775807) :
    Calls Try.prog 19 #[.slice a0 0 nz, .int .i64 (mc : Int)] w (ZlEnd 0 f w) := by
  have HC := hid (new0_any a0 nz w)
  have hm : (-1 : Int) ≤ (mc : Int) := by omega
  go_enter Try.func19, Try.ntmps19
  go_wp2_with fail
  refine Calls.mono HC.out ?_
  rintro e W1 ⟨hB, pb, rfl, c0⟩
  have HB := hid hB
  clear hB HC
  go_wp2_with fail
  rcases a0 with _ | ad
  · refine Calls.mono (Try.slices_Clone_int_nil 0 nz W1) ?_
    rintro e w4 ⟨rfl, hw4⟩
    rw [hw4]
    clear hw4
    go_wp2
    go_ret
    exact ⟨HB.out, none, 0, rfl, .inl rfl⟩
  · refine Calls.mono (Try.slices_Clone_int_zero ad nz W1) ?_
    rintro e w4 ⟨v4, rfl, o4, v4n, hB4⟩
    obtain ⟨x, z, rfl⟩ := owns_shape o4
    have HB4 := hid hB4
    clear o4 v4n hB4
    go_wp2
    go_ret
    exact ⟨HB.out.trans (HB4.out.mono HB.out.size), x, z, rfl, .inl rfl⟩

set_option maxRecDepth 100000 in
set_option maxHeartbeats 4000000 in
theorem zl_any (x : Option Addr) (b n nz mc : Nat) (zs : Nat → Int) (w : World) (hx : SlAt w b x n zs) (hn : n ≤ 1024) (hz : ∀ s, s < n → 0 ≤ zs s ∧ zs s ≤ 2199023255552) (hmc : (mc : Int) ≤ 9223372036854775807) :
    Calls Try.prog 8 #[.slice x n nz, .int .i64 (mc : Int)] w (ZlEnd n (lvO zs n mc) w) := by
  have HC : Hid (Calls Try.prog 19 #[.slice x n nz, .int .i64 (mc : Int)] w (ZlEnd n (lvO zs n mc) w)) := by
    rcases Nat.eq_zero_or_pos n with e | e
    · subst e
      exact levels0_any x nz mc _ w hmc
    · rcases hx with h | ⟨g, h1, rfl, h3⟩
      · omega
      · refine (levels_any g 0 n nz mc zs w h3 e hn hz hmc).mono ?_
        rintro e w' ⟨hB, g2, z2, hg2, rfl, hx2⟩
        exact ⟨hB, _, _, rfl, .inr ⟨g2, hg2, rfl, hx2⟩⟩
  clear hx hz
  go_enter Try.func8, Try.ntmps8
  go_wp2_with fail
  refine Calls.mono HC.out ?_
  rintro e w' ⟨hB, x2, z2, rfl, H2⟩
  have HB := hid hB
  clear hB HC
  go_wp2
  go_ret
  exact ⟨HB.out, x2, z2, rfl, H2⟩

theorem bytes10_any (x : Option Addr) (n nz : Nat) (a b : Int) (w : World) (hn : n ≤ 1048576) :
    Calls Try.prog 10 #[.slice x n nz, .int .i64 a, .int .i64 b] w (fun e w' => e = .returned (.bool true) ∧ w' = w) := by
  have h1 : (n : Int) ≤ 1048576 := by omega
  go_enter Try.func10, Try.ntmps10
  go_wp2
  go_ret
  exact ⟨rfl, rfl⟩
theorem bytes10_big (x : Option Addr) (n nz : Nat) (a b : Int) (w : World) (hn : 1048576 < n) :
    Calls Try.prog 10 #[.slice x n nz, .int .i64 a, .int .i64 b] w (fun e w' => e = .returned (.bool false) ∧ w' = w) := by
  have h1 : (1048576 : Int) < (n : Int) := by omega
  go_enter Try.func10, Try.ntmps10
  go_wp2
  go_ret
  exact ⟨rfl, rfl⟩
theorem bytes7_any (x : Option Addr) (n nz : Nat) (a : Int) (w : World) (hn : n ≤ 1048576) :
    Calls Try.prog 7 #[.slice x n nz, .int .i64 a] w (fun e w' => e = .returned (.bool true) ∧ w' = w) := by
  have h1 : (n : Int) ≤ 1048576 := by omega
  go_enter Try.func7, Try.ntmps7
  go_wp2
  go_ret
  exact ⟨rfl, rfl⟩
theorem bytes7_big (x : Option Addr) (n nz : Nat) (a : Int) (w : World) (hn : 1048576 < n) :
    Calls Try.prog 7 #[.slice x n nz, .int .i64 a] w (fun e w' => e = .returned (.bool false) ∧ w' = w) := by
  have h1 : (1048576 : Int) < (n : Int) := by omega
  go_enter Try.func7, Try.ntmps7
  go_wp2
  go_ret
  exact ⟨rfl, rfl⟩

/-- The copy into a new row. -/
theorem wpList_copy22 {ops : Array Oper} {rest : List Oper} {op : Oper} {a : Act} {w : World} {Q : Exit → Act → World → Prop} (hgd : op.guard = none) (d s : Operand)
    (ho : op.op = .call { callee := .builtin .copy, args := #[d, s], argTypes := #[22, 22] }) (g n : Nat) (ad : Addr) (cap : Nat) (zs : Nat → Int) (hd : a.eval d = .slice (some ⟨g, 0, none⟩) n n) (hs : a.eval s = .slice (some ad) n cap)
    (f : Nat → Value) (hr : w.rowIs g 2 n f) (hsrc : ∀ j, j < n → w.cell? (ad.add j) = some (.int .i64 (zs j)))
    (h : ∀ w', Hid (Xs w' g 0 n zs) → Hid (∀ B w0, B ≤ g → Below B w0 w → Below B w0 w') → wpList Try.prog ops Q rest (a.put op.dst (goInt n)) w') : wpList Try.prog ops Q (op :: rest) a w := by
  obtain ⟨cur, hg, hcs, hcv⟩ : ∃ cur : Array Value, w.heap[g]? = some (.cells cur 2 (0, 0)) ∧ cur.size = n ∧ True := by
    obtain ⟨cur, h1, h2, _⟩ := hr
    exact ⟨cur, h1, h2, trivial⟩
  refine wpList_copy_own hgd d s 22 22 ho 2 Try.underlying22 (by kernel_rfl) g 0 n n ad n cap hd hs cur 2 hg ((List.range n).map (fun j => .int .i64 (zs j))) (by simp) (fun j v hv => ?_) (by simp [hcs]) (fun v hv => ?_) ?_
  · rw [List.getElem?_map] at hv
    by_cases hj : j < n
    · rw [List.getElem?_range hj] at hv
      simp only [Option.map_some, Option.some.injEq] at hv
      rw [← hv]
      exact hsrc j hj
    · rw [List.getElem?_eq_none (by simp; omega)] at hv
      simp at hv
  · obtain ⟨j, _, rfl⟩ := List.mem_map.1 hv
    rfl
  · rw [show (((List.range n).map (fun j => (Value.int .i64 (zs j)))).length : Int) = (n : Int) by simp]
    refine h _ (hid fun j hj => ?_) (hid fun B w0 hB hb => below_setRow hb hB _)
    obtain ⟨arr, harr⟩ : ∃ arr : Array Value, (cur.toList.take 0 ++ (((List.range n).map (fun j => (Value.int .i64 (zs j)))) ++ cur.toList.drop (0 + ((List.range n).map (fun j => (Value.int .i64 (zs j)))).length))).toArray = arr := ⟨_, rfl⟩
    rw [harr, Nat.zero_add]
    have hh := setRow_heap w g cur arr 2 (0, 0) hg
    have ha : arr[j]? = some (.int .i64 (zs j)) := by
      rw [← harr]
      simp only [List.take_zero, List.nil_append, List.getElem?_toArray]
      rw [List.getElem?_append_left (by simp; exact hj), List.getElem?_map, List.getElem?_range hj]
      rfl
    show (match (w.setRow g arr).heap[g]? with | some (.cells c _ _) => c[j]? | _ => none) = _
    rw [hh]
    exact ha

/-! ### The answer -/
theorem lvf_bd {lev bef : Nat → Int} {R : Nat} (h : Lb lev bef R) : ∀ (k j s : Nat), j ≤ R → 0 ≤ lvf lev bef k j s ∧ lvf lev bef k j s ≤ 2199023255552
  | 0, j, s, _ => by simp [lvf]
  | k + 1, j, s, hj => by
    rw [lvf]
    by_cases h0 : j = 0
    · rw [if_pos h0]; omega
    · rw [if_neg h0]
      obtain ⟨a1, a2, -⟩ := cutOf_ok h k hj (by omega)
      by_cases h1 : bef (cutOf lev bef k j).1 ≤ (s : Int)
      · rw [if_pos h1, a2]
        exact ⟨need_pos _ _ _, need_le h.lev0 _ _ (by omega)⟩
      · rw [if_neg h1]
        exact lvf_bd h k _ s (by omega)
section
variable {zs : Nat → Int} {n mc : Nat}
theorem lvO_bd (hn : n ≤ 1024) (hz : ∀ s, s < n → 0 ≤ zs s ∧ zs s ≤ 2199023255552) {s : Nat} (hs : s < n) : 0 ≤ lvO zs n mc s ∧ lvO zs n mc s ≤ 2199023255552 := by
  unfold lvO
  split
  · exact hz s hs
  · exact lvf_bd ((runs_ok zs n).lb hn hz) _ _ _ (Nat.le_refl _)
theorem lvO_cover (hn : n ≤ 1024) (hz : ∀ s, s < n → 0 ≤ zs s ∧ zs s ≤ 2199023255552) {s : Nat} (hs : s < n) : zs s ≤ lvO zs n mc s := by
  unfold lvO
  split
  · exact Int.le_refl _
  · exact lvf_cover (runs_ok zs n) ((runs_ok zs n).lb hn hz) _ _ s (by omega) (Nat.le_refl _) (by rw [(runs_ok zs n).bR]; exact hs)
theorem lvO_chg (hn : n ≤ 1024) (hz : ∀ s, s < n → 0 ≤ zs s ∧ zs s ≤ 2199023255552) : chg (lvO zs n mc) n ≤ mc := by
  rcases Nat.eq_zero_or_pos n with e | h0
  · subst e; simp [chg]
  · have hp : 0 < runsN zs n := runs_pos zs n h0
    have hb := (runs_ok zs n).bR
    unfold lvO
    split
    · have := runs_chg (runs_ok zs n) (runsN zs n) (Nat.le_refl _) hp
      rw [hb] at this
      omega
    · have := lvf_chg (runs_ok zs n) ((runs_ok zs n).lb hn hz) (mc + 1) (runsN zs n) (by omega) (Nat.le_refl _) hp
      rw [hb] at this
      omega
theorem lvO_shift (hn : n ≤ 1024) {c : Int} (hc : 0 ≤ c) (hz : ∀ s, s < n → 0 ≤ zs s ∧ zs s ≤ 2199023255552) (hz' : ∀ s, s < n → 0 ≤ zs s + c ∧ zs s + c ≤ 2199023255552) {s : Nat} (hs : s < n) : lvO (fun s => zs s + c) n mc s = lvO zs n mc s + c := by
  have h := (runs_ok zs n).lb hn hz
  have h' := (runs_ok (fun s => zs s + c) n).lb hn hz'
  rw [levO_shift, beO_shift, runsN_shift] at h'
  unfold lvO
  rw [runsN_shift]
  split
  · rfl
  · rw [levO_shift, beO_shift]
    refine lvf_shift h h' hc _ _ s (by omega) (Nat.le_refl _) ?_
    simp only [ofN, (runs_ok zs n).bR]
    omega
theorem lvO_top (hn : n ≤ 1024) (hz : ∀ s, s < n → 0 ≤ zs s ∧ zs s ≤ 2199023255552) : TopOK (lvO zs n mc) zs n := by
  unfold lvO
  split
  · exact fun s hs _ => ⟨s, Nat.le_refl _, hs, rfl, fun y h1 h2 => by rw [show y = s by omega]⟩
  · have := lvf_top (runs_ok zs n) ((runs_ok zs n).lb hn hz) (mc + 1) (runsN zs n) (by omega) (Nat.le_refl _)
    rwa [(runs_ok zs n).bR] at this
/-- The answer's sum is the least. -/
theorem lvO_sum (hn : n ≤ 1024) (h0 : 0 < n) (hz : ∀ s, s < n → 0 ≤ zs s ∧ zs s ≤ 2199023255552) : sumTo (lvO zs n mc) n = rowOf zs sl ((if mc < n - 1 then mc + 1 else n) - 1) n := by
  have hok := runs_ok zs n
  have hl' := hok.lb hn hz
  have hl : Lb zs sl n := slots_lb hn hz
  have hle := (runs_len zs n).1
  have hp : 0 < runsN zs n := runs_pos zs n h0
  unfold lvO
  split
  · rename_i hR
    obtain ⟨K, hK⟩ : ∃ K, (if mc < n - 1 then mc + 1 else n) - 1 = K := ⟨_, rfl⟩
    have hKR : runsN zs n ≤ K + 1 := by
      rw [← hK]
      simp only [runsN] at *
      split <;> omega
    rw [hK]
    refine Int.le_antisymm (row_ge_sum hl K n (Nat.le_refl _)) ?_
    have h1 := row_all hok hl' K (runsN zs n) (Nat.le_refl _) hKR
    rw [← row_runs hok hl hl' (fun s hs => (hz s hs).1) K (runsN zs n) (Nat.le_refl _), hok.bR] at h1
    exact h1
  · rename_i hR
    rw [if_pos (by simp only [runsN] at hR; omega), Nat.add_sub_cancel]
    have h1 := lvf_sum hok hl' mc (runsN zs n) (Nat.le_refl _)
    rw [hok.bR] at h1
    rw [h1, ← row_runs hok hl hl' (fun s hs => (hz s hs).1) mc (runsN zs n) (Nat.le_refl _), hok.bR]
end
end Go.Proofs.Qxb6614303a
