/-
  slices.Insert(s, i, v) at [][]string (function 39), one value put in: its four roads, and what they come to over a row that the call owns.
-/
import Derived.Test.Qxb6617214aQ
import Derived.Deep.RegionLaw
namespace Go.Proofs.Qxb6617214a
open Go.RowKit Go.Lib
set_option linter.unusedVariables false

theorem size29 (w : World) : (Go.sizeOf 29).run Try.prog w = .ok 1 w := by
  obtain ⟨i, hi, hs⟩ := Option.map_eq_some_iff.1 info29
  simp only [Prod.mk.injEq] at hs
  simp [Go.sizeOf, typeInfo, hi, hs.2.1]
theorem one29 : (Try.prog.info? 29).map (·.size) = some 1 := by
  obtain ⟨i, hi, hs⟩ := Option.map_eq_some_iff.1 info29
  simp only [Prod.mk.injEq] at hs
  rw [hi]; simp [hs.2.1]

section
variable (g cap i vb : Nat) (vals : List Value) (v : Value) (w : World)

set_option maxHeartbeats 4000000 in
set_option maxRecDepth 100000 in
/-- Room, not at the end: in place. -/
theorem insChk_shift (h : RowV w g 29 cap vals) (hv : RowV w vb 29 1 [v]) (hne : vb ≠ g) (hi : i < vals.length) (hroom : vals.length < cap) (h1 : ∀ u ∈ vals, u.oneCell' = true) (h1v : v.oneCell' = true) :
    Calls Try.prog 39 #[.slice (some ⟨g, 0, none⟩) vals.length cap, .int .i64 i, .slice (some ⟨vb, 0, none⟩) 1 1] w fun e w' =>
      e = .returned (.slice (some ⟨g, 0, none⟩) (vals.length + 1) cap) ∧ w' = (w.drew.setCells g (i + 1) (vals.drop i)).setCells g i [v] := by
  have hcap := h.cap_le
  have hov : ∀ lb cb, (callFunc 48 #[.slice (some ⟨vb, 0, none⟩) 1 1, .slice (some ⟨g, i + 1, none⟩) lb cb]).run Try.prog w = .ok (.value (.bool false)) w := fun lb cb => by
    rw [run_callFunc_extern Try.func48 (by kernel_rfl) (by kernel_rfl) (by kernel_rfl) (e := Extern.SlicesOverlaps.overlaps #[22, 22] #[4]) (by kernel_rfl),
      Lib.run_overlaps_apart w 22 4 29 Try.underlying22 1 size29 ⟨vb, 0, none⟩ ⟨g, i + 1, none⟩ 1 1 lb cb hne 29 29 1 cap hv.shape? h.shape? (by omega) (hv.frozen 0) (hv.frozen 1)]
    rfl
  have hdl : (vals.drop i).length = vals.length - i := List.length_drop
  -- copy(s[i+1:], s[i:])
  have hcp1 : ∀ ty dc sc, (Builtin.copy_ #[22, 22] ty #[.slice (some ⟨g, i + 1, none⟩) (vals.length - i) dc, .slice (some ⟨g, i, none⟩) (vals.length + 1 - i) sc]).run Try.prog w.drew = .ok (goInt (vals.drop i).length) (w.drew.setCells g (i + 1) (vals.drop i)) := fun ty dc sc =>
    run_copy_cells w.drew _ _ ty 29 g (i + 1) (vals.length - i) dc ⟨g, i, none⟩ (vals.length + 1 - i) sc (vals.drop i) Try.underlying22 one29 (by rw [hdl]; simp only [Nat.min_def]; split <;> omega)
      (fun j u hj => by rw [Addr.add_lit]; exact h.cell (i + j) u (by rwa [List.getElem?_drop] at hj))
      (fun j hj => h.isSome _ (by omega)) (fun j hj => h.frozen _) (fun u hu => h1 u (List.mem_of_mem_drop hu))
  obtain ⟨W1, hW1⟩ : ∃ W1, W1 = w.drew.setCells g (i + 1) (vals.drop i) := ⟨_, rfl⟩
  have hsh : ∃ cur : Array Value, W1.heap[g]? = some (.cells cur 29 (0, 0)) ∧ cur.size = cap := by rw [hW1]; exact shape_sets _ _ h.shape
  -- copy(s[i:], v)
  have hcp2 : ∀ (W : World), (∀ x, W.cell? x = W1.cell? x) → (∀ x, W.frozen? x = W1.frozen? x) → ∀ ty dc, (Builtin.copy_ #[22, 22] ty #[.slice (some ⟨g, i, none⟩) (vals.length + 1 - i) dc, .slice (some ⟨vb, 0, none⟩) 1 1]).run Try.prog W = .ok (goInt [v].length) (W.setCells g i [v]) := fun W hWc hWf ty dc =>
    run_copy_cells W _ _ ty 29 g i (vals.length + 1 - i) dc ⟨vb, 0, none⟩ 1 1 [v] Try.underlying22 one29 (by simp only [List.length_singleton, Nat.min_def]; split <;> omega)
      (fun j u hj => by
        rw [Addr.add_lit, hWc, hW1, World.cell?_setCells_out g _ _ _ _ (fun hh _ => absurd hh hne)]
        rw [Nat.zero_add]; exact hv.cell j u hj)
      (fun j hj => by obtain ⟨cur, hb, hs⟩ := hsh; rw [hWc]; simp at hj; simp [World.cell?, hb, hs]; omega)
      (fun j hj => by obtain ⟨cur, hb, hs⟩ := hsh; rw [hWf]; simp [World.frozen?, hb]) (fun u hu => by simp at hu; subst hu; exact h1v)
  rw [← hW1] at hcp1
  generalize hn : vals.length = n at *
  have hz2 : ¬ ((i : Int) = (n : Int)) := by omega
  have hw1 : IntKind.i64.wrap ((i : Int) + 1) = (i : Int) + 1 := by rw [IntKind.wrap_i64]; omega
  have hb1 : (0 : Int) ≤ (i : Int) + 1 := by omega
  have hin : i ≤ n := by omega
  have htn : ((i : Int) + 1).toNat = i + 1 := by omega
  have hb2 : ¬ (cap = i + 1) := by omega
  have hb3 : (i : Int) ≤ (n : Int) + 1 := by omega
  have hb4 : ¬ (cap = i) := by omega
  have HW : Hid (W1 = w.drew.setCells g (i + 1) (vals.drop i)) := hW1
  clear hW1 hsh h hv hn hdl h1
  go_enter Try.func39, Try.ntmps39
  go_wp2_with (simp only [hov])
  go_region_law (refine step_copy_runI rfl _ _ 22 22 rfl _ _ (by simp [Act.eval, Act.put]) (by simp [Act.eval, Act.put]) (hcp1 _ _ _) ?_)
  go_wp2_with (at_builtin; refine wpList_copy_runI _ rfl _ _ 22 22 rfl _ _ rfl rfl (hcp2 _ (fun _ => rfl) (fun _ => rfl) _ _) ?_)
  go_ret
  exact ⟨rfl, by rw [HW.out]⟩

set_option maxHeartbeats 4000000 in
set_option maxRecDepth 100000 in
/-- Room, at the end. -/
theorem insChk_end (h : RowV w g 29 cap vals) (hv : RowV w vb 29 1 [v]) (hroom : vals.length < cap) (h1v : v.oneCell' = true) :
    Calls Try.prog 39 #[.slice (some ⟨g, 0, none⟩) vals.length cap, .int .i64 vals.length, .slice (some ⟨vb, 0, none⟩) 1 1] w fun e w' =>
      e = .returned (.slice (some ⟨g, 0, none⟩) (vals.length + 1) cap) ∧ w' = w.setCells g vals.length [v] := by
  have hcap := h.cap_le
  have hsrc : Src Try.prog 1 22 (.slice (some ⟨vb, 0, none⟩) 1 1) 1 [v] w := Src.ofSlice w Try.underlying22 ⟨vb, 0, none⟩ 1 1 [v] rfl (fun j u hj => by rw [Addr.add_lit, Nat.zero_add]; exact hv.cell j u hj) (fun u hu => by simp at hu; subst hu; exact h1v)
  have hsp : ∀ j, j < [v].length → (w.cell? ⟨g, 0 + vals.length + j, none⟩).isSome = true := fun j hj => h.isSome _ (by simp at hj; omega)
  have hfz : ∀ j, j < [v].length → w.frozen? ⟨g, 0 + vals.length + j, none⟩ = false := fun j hj => h.frozen _
  generalize hn : vals.length = n at *
  clear h hv hn
  go_enter Try.func39, Try.ntmps39
  go_wp2_with (at_builtin; refine wpList_append_room1 _ rfl _ _ 22 22 rfl 29 _ _ Try.underlying22 info29 g 0 n cap rfl _ rfl 1 [v] hsrc (by omega) hsp hfz ?_)
  go_ret
  exact ⟨rfl, rfl⟩

set_option maxHeartbeats 4000000 in
set_option maxRecDepth 100000 in
/-- No room, at the end (the nil slice too): a new row. -/
theorem insChk_endGrow (base : Option Addr) (hnc : vals.length ≤ cap) (hroom : cap < vals.length + 1) (hbig : vals.length ≤ 1073741824) (hv : RowV w vb 29 1 [v]) (h1v : v.oneCell' = true)
    (hb : vals = [] ∨ ∃ g, base = some ⟨g, 0, none⟩ ∧ ∀ j u, vals[j]? = some u → w.cell? ⟨g, j, none⟩ = some u) :
    Calls Try.prog 39 #[.slice base vals.length cap, .int .i64 vals.length, .slice (some ⟨vb, 0, none⟩) 1 1] w fun e w' =>
      e = .returned (.slice (some ⟨w.heap.size, 0, none⟩) (vals.length + 1) (grownCap w (vals.length + 1) cap 29)) ∧
      w' = w.drew.alloc (.cells ((vals ++ [v]).toArray ++ Builtin.zeroCells (Value.slice none 0 0).cells (grownCap w (vals.length + 1) cap 29 - (vals.length + 1))) 29) := by
  obtain ⟨i0, hi0, hz0, hzs, hzb⟩ := info_parts info29
  have hsrc : Src Try.prog i0.size 22 (.slice (some ⟨vb, 0, none⟩) 1 1) 1 [v] w := by
    rw [hzs]
    exact Src.ofSlice w Try.underlying22 ⟨vb, 0, none⟩ 1 1 [v] rfl (fun j u hj => by rw [Addr.add_lit, Nat.zero_add]; exact hv.cell j u hj) (fun u hu => by simp at hu; subst hu; exact h1v)
  have hold : (Builtin.firstCells i0.size vals.length (.slice base vals.length cap)).run Try.prog w.drew = .ok vals.toArray w.drew := by
    rw [hzs]
    rcases hb with rfl | ⟨g, rfl, hc⟩
    · cases base with
      | none => exact run_firstCells_none w.drew 1 0 0 cap
      | some a => exact run_firstCells_some w.drew 1 0 a 0 cap [] rfl (fun j u hj => by simp at hj)
    · exact run_firstCells_some w.drew 1 _ ⟨g, 0, none⟩ _ cap vals (by simp) (fun j u hj => by rw [Addr.add_lit, Nat.zero_add]; exact hc j u hj)
  have hrun : ∀ ty, (Builtin.append_ #[22, 22] ty #[.slice base vals.length cap, .slice (some ⟨vb, 0, none⟩) 1 1]).run Try.prog w = _ := fun ty =>
    run_append_grow_src w 22 22 ty 29 i0 _ Try.underlying22 hi0 hz0 base vals.length cap vals hold _ 1 [v] hsrc hroom (by omega) (by rw [hzb]; exact growslice_fits hroom (by omega))
  generalize hn : vals.length = n at *
  clear hold hsrc hv hn
  cases base with
  | none =>
    clear hb
    go_enter Try.func39, Try.ntmps39
    go_wp2_with (at_builtin; refine Lib.wpList_append_run _ rfl _ _ _ _ rfl _ _ rfl rfl _ _ (hrun _) ?_)
    all_goals (go_ret; exact ⟨rfl, rfl⟩)
  | some a =>
    obtain ⟨ab, ao, asp⟩ := a
    clear hb
    go_enter Try.func39, Try.ntmps39
    go_wp2_with (at_builtin; refine Lib.wpList_append_run _ rfl _ _ _ _ rfl _ _ rfl rfl _ _ (hrun _) ?_)
    all_goals (go_ret; exact ⟨rfl, rfl⟩)
end
end Go.Proofs.Qxb6617214a
