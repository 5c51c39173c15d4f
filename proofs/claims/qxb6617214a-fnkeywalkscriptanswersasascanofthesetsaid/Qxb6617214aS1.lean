/-
  slices.Insert(s, i, v) at []string (function 37): no room, not at the end; and all four roads in one.
-/
import Derived.Test.Qxb6617214aR1
import Derived.Lib.AppendZerosOnto
import Derived.Laws.NewBlocks
namespace Go.Proofs.Qxb6617214a
open Go.RowKit Go.Lib
set_option linter.unusedVariables false

section
variable (g cap i vb : Nat) (vals : List Value) (v : Value) (w : World)

set_option maxHeartbeats 4000000 in
set_option maxRecDepth 100000 in
/-- No room, not at the end: a new row. -/
theorem insStr_grow (h : RowV w g 9 cap vals) (hv : RowV w vb 9 1 [v]) (hi : i < vals.length) (hroom : cap < vals.length + 1) (hbig : vals.length ≤ 1073741824) (h1 : ∀ u ∈ vals, u.oneCell' = true) (h1v : v.oneCell' = true) :
    Calls Try.prog 37 #[.slice (some ⟨g, 0, none⟩) vals.length cap, .int .i64 i, .slice (some ⟨vb, 0, none⟩) 1 1] w fun e w' =>
      ∃ G, e = .returned (.slice (some ⟨w.heap.size, 0, none⟩) (vals.length + 1) G) ∧ vals.length + 1 ≤ G ∧ G ≤ 9223372036854775807 ∧
      ∃ ROW : Array Value, ROW.size = G ∧ (∀ (j : Nat) u, (vals.take i)[j]? = some u → ROW[j]? = some u) ∧ w' = (((w.alloc (.cells ROW 9)).drew.setCells w.heap.size i [v]).drew).setCells w.heap.size (i + 1) (vals.drop i) := by
  obtain ⟨i0, hi0, hz0, hzs, hzb⟩ := info_parts info9
  have hle := h.le
  have hcap := h.cap_le
  have hgw := h.lt
  have hvw := hv.lt
  have hkk : (vals.length : Int) + 1 - (i : Int) = ((vals.length + 1 - i : Nat) : Int) := by omega
  have hik : i + (vals.length + 1 - i) = vals.length + 1 := by omega
  have hold : (Builtin.firstCells i0.size i (.slice (some ⟨g, 0, none⟩) i cap)).run Try.prog w.drew = .ok (vals.take i).toArray w.drew := by
    rw [hzs]
    refine run_firstCells_some w.drew 1 i ⟨g, 0, none⟩ i cap (vals.take i) (by rw [List.length_take]; omega) (fun j u hj => ?_)
    rw [Addr.add_lit, Nat.zero_add]
    rw [List.getElem?_take] at hj
    split at hj
    · exact h.cell j u hj
    · cases hj
  have hrz : ∀ ty, (Builtin.append_ #[29, 3] ty #[.slice (some ⟨g, 0, none⟩) i cap, .int .i64 ((vals.length : Int) + 1 - (i : Int))]).run Try.prog w =
      .ok (.slice (some ⟨w.heap.size, 0, none⟩) (vals.length + 1) (grownCap w (vals.length + 1) cap 9)) (w.drew.alloc (.cells ((vals.take i).toArray ++ Builtin.zeroCells (Value.string ⟨#[]⟩).cells (vals.length + 1 - i) ++ Builtin.zeroCells (Value.string ⟨#[]⟩).cells (grownCap w (vals.length + 1) cap 9 - (vals.length + 1))) 9)) := fun ty => by
    have hh := Lib.run_append_grow_zeros w 29 3 ty 9 i0 _ .i64 .i64 Try.underlying29 Try.underlying3 hi0 hz0 (some ⟨g, 0, none⟩) i cap (vals.take i) hold (vals.length + 1 - i) (by omega) (by omega) (by omega) (by omega) (by rw [hzb]; omega) (by rw [hzb, hik]; exact growslice_fits hroom (by omega))
    rw [hik] at hh
    rw [hkk]
    exact hh
  obtain ⟨G, hG⟩ : ∃ G, G = grownCap w (vals.length + 1) cap 9 := ⟨_, rfl⟩
  obtain ⟨ROW, hROW⟩ : ∃ ROW : Array Value, ROW = (vals.take i).toArray ++ Builtin.zeroCells (Value.string ⟨#[]⟩).cells (vals.length + 1 - i) ++ Builtin.zeroCells (Value.string ⟨#[]⟩).cells (G - (vals.length + 1)) := ⟨_, rfl⟩
  rw [← hG, ← hROW] at hrz
  have hGn : vals.length + 1 ≤ G := by rw [hG]; exact grownCap_ge w _ _ _
  have hG63 : G ≤ 9223372036854775807 := by
    have := grownCap_le_maxLen w (vals.length + 1) cap 9 (by unfold maxLen; omega)
    rw [← hG] at this
    unfold maxLen at this
    omega
  have hRs : ROW.size = G := by
    rw [hROW]
    simp [Builtin.zeroCells, Value.cells]
    omega
  have hRc : ∀ (j : Nat) u, (vals.take i)[j]? = some u → ROW[j]? = some u := fun j u hj => by
    have hjl := (List.getElem?_eq_some_iff.1 hj).1
    rw [hROW, Array.append_assoc, Array.getElem?_append_left (by simpa using hjl)]
    simpa using hj
  clear hold hROW hG
  obtain ⟨W1, hW1⟩ : ∃ W1, W1 = w.drew.alloc (.cells ROW 9) := ⟨_, rfl⟩
  rw [← hW1] at hrz
  have hN : ∀ j, j < G → (W1.cell? ⟨w.heap.size, j, none⟩).isSome = true := fun j hj => by
    rw [hW1, World.cell?_alloc_at (w := w.drew) ROW _ w.heap.size j rfl, Array.getElem?_eq_getElem (by omega)]; rfl
  have hNf : ∀ j, W1.frozen? ⟨w.heap.size, j, none⟩ = false := fun j => by rw [hW1]; exact World.frozen?_alloc_at (w := w.drew) ROW _ w.heap.size j rfl
  have hOg : ∀ j u, w.cell? ⟨g, j, none⟩ = some u → W1.cell? ⟨g, j, none⟩ = some u := fun j u hh => by rw [hW1, World.cell?_alloc_past (w := w.drew) _ g j hgw]; exact hh
  have hOv : ∀ j u, w.cell? ⟨vb, j, none⟩ = some u → W1.cell? ⟨vb, j, none⟩ = some u := fun j u hh => by rw [hW1, World.cell?_alloc_past (w := w.drew) _ vb j hvw]; exact hh
  -- copy(s2[i:], v)
  have hcpA : ∀ (W : World), (∀ x, W.cell? x = W1.cell? x) → (∀ x, W.frozen? x = W1.frozen? x) → ∀ ty dc, (Builtin.copy_ #[29, 29] ty #[.slice (some ⟨w.heap.size, i, none⟩) (vals.length + 1 - i) dc, .slice (some ⟨vb, 0, none⟩) 1 1]).run Try.prog W = .ok (goInt [v].length) (W.setCells w.heap.size i [v]) := fun W hWc hWf ty dc =>
    run_copy_cells W _ _ ty 9 w.heap.size i (vals.length + 1 - i) dc ⟨vb, 0, none⟩ 1 1 [v] Try.underlying29 one9 (by simp only [List.length_singleton, Nat.min_def]; split <;> omega)
      (fun j u hj => by rw [Addr.add_lit, hWc, Nat.zero_add]; exact hOv _ u (hv.cell j u hj))
      (fun j hj => by rw [hWc]; exact hN _ (by simp at hj; omega)) (fun j hj => by rw [hWf]; exact hNf _) (fun u hu => by simp at hu; subst hu; exact h1v)
  have hdl : (vals.drop i).length = vals.length - i := List.length_drop
  have hgN : g ≠ w.heap.size := by omega
  -- copy(s2[i+1:], s[i:])
  have hcpB : ∀ (W : World), (∀ x, W.cell? x = (W1.setCells w.heap.size i [v]).cell? x) → (∀ x, W.frozen? x = (W1.setCells w.heap.size i [v]).frozen? x) → ∀ ty dc sc, (Builtin.copy_ #[29, 29] ty #[.slice (some ⟨w.heap.size, i + 1, none⟩) (vals.length - i) dc, .slice (some ⟨g, i, none⟩) (vals.length - i) sc]).run Try.prog W = .ok (goInt (vals.drop i).length) (W.setCells w.heap.size (i + 1) (vals.drop i)) := fun W hWc hWf ty dc sc =>
    run_copy_cells W _ _ ty 9 w.heap.size (i + 1) (vals.length - i) dc ⟨g, i, none⟩ (vals.length - i) sc (vals.drop i) Try.underlying29 one9 (by rw [hdl]; simp only [Nat.min_def]; split <;> omega)
      (fun j u hj => by
        rw [Addr.add_lit, hWc, World.cell?_setCells_out _ _ _ _ _ (fun hh _ => absurd hh hgN)]
        exact hOg _ u (h.cell (i + j) u (by rwa [List.getElem?_drop] at hj)))
      (fun j hj => by rw [hWc]; exact isSome_setCells _ _ _ _ (fun t ht => hN _ (by simp at ht; omega)) _ (hN _ (by omega)))
      (fun j hj => by rw [hWf, World.frozen?_setCells]; exact hNf _) (fun u hu => h1 u (List.mem_of_mem_drop hu))
  subst hW1
  have hE1 : ∀ x, ((w.alloc (.cells ROW 9)).drew).cell? x = (w.drew.alloc (.cells ROW 9)).cell? x := fun x => rfl
  have hE2 : ∀ x, ((w.alloc (.cells ROW 9)).drew).frozen? x = (w.drew.alloc (.cells ROW 9)).frozen? x := fun x => rfl
  have hF1 : ∀ x, (((w.alloc (.cells ROW 9)).drew.setCells w.heap.size i [v]).drew).cell? x = ((w.drew.alloc (.cells ROW 9)).setCells w.heap.size i [v]).cell? x := fun x => rfl
  have hF2 : ∀ x, (((w.alloc (.cells ROW 9)).drew.setCells w.heap.size i [v]).drew).frozen? x = ((w.drew.alloc (.cells ROW 9)).setCells w.heap.size i [v]).frozen? x := fun x => rfl
  have HR : Hid (ROW.size = G) := hRs
  have HC : Hid (∀ (j : Nat) u, (vals.take i)[j]? = some u → ROW[j]? = some u) := hRc
  clear hRs hRc hN hNf hOg hOv h hv h1 hkk hik
  generalize hn : vals.length = n at *
  have hz2 : ¬ ((i : Int) = (n : Int)) := by omega
  have hz3 : (cap : Int) < (n : Int) + 1 := by omega
  have hGi : ¬ (G = i) := by omega
  have hGim : ¬ (G = i + 1) := by omega
  have hci : ¬ (cap = i) := by omega
  have hw1 : IntKind.i64.wrap ((i : Int) + 1) = (i : Int) + 1 := by rw [IntKind.wrap_i64]; omega
  have hb1 : (0 : Int) ≤ (i : Int) + 1 := by omega
  have hin : i ≤ n := by omega
  have htn : ((i : Int) + 1).toNat = i + 1 := by omega
  have hb3 : (i : Int) ≤ (n : Int) := by omega
  clear hn hdl
  go_enter Try.func37, Try.ntmps37
  go_wp2_with (first
    | (at_builtin; refine Lib.wpList_append_run _ rfl _ _ _ _ rfl _ _ rfl rfl _ _ (hrz _) ?_)
    | (at_builtin; refine wpList_copy_runI _ rfl _ _ 29 29 rfl _ _ rfl rfl (hcpA _ hE1 hE2 _ _) ?_))
  go_region_law (refine step_copy_runI rfl _ _ 29 29 rfl (.slice (some ⟨w.heap.size, i + 1, none⟩) (n - i) (G - (i + 1))) (.slice (some ⟨g, i, none⟩) (n - i) (cap - i)) (by simp [Act.eval, Act.put]) (by simp [Act.eval, Act.put]) (hcpB _ hF1 hF2 3 (G - (i + 1)) (cap - i)) ?_)
  go_wp2
  go_ret
  exact ⟨G, rfl, hGn, hG63, ROW, HR.out, HC.out, rfl⟩

/-- A row of the call's own, one value put in: the row itself, or a new one. -/
theorem insStr_any (h : RowV w g 9 cap vals) (hv : RowV w vb 9 1 [v]) (hne : vb ≠ g) (hi : i ≤ vals.length) (hbig : vals.length ≤ 1073741824) (h1 : ∀ u ∈ vals, u.oneCell' = true) (h1v : v.oneCell' = true) :
    Calls Try.prog 37 #[.slice (some ⟨g, 0, none⟩) vals.length cap, .int .i64 i, .slice (some ⟨vb, 0, none⟩) 1 1] w fun e w' =>
      ∃ g' cap', e = .returned (.slice (some ⟨g', 0, none⟩) (vals.length + 1) cap') ∧ RowV w' g' 9 cap' (ins vals i v) ∧ (g' = g ∨ g' = w.heap.size) ∧ w.grownBy w' (some g) := by
  have hle := h.le
  by_cases hroom : vals.length < cap
  · by_cases hin : i < vals.length
    · refine (insStr_shift g cap i vb vals v w h hv hne hin hroom h1 h1v).mono fun e w' ⟨he, hw⟩ => ⟨g, cap, he, ?_, .inl rfl, ?_⟩
      · subst hw
        have hs1 := shape_sets (vals.drop i) (i + 1) (w := w.drew) h.shape
        refine ⟨shape_sets _ _ hs1, by rw [ins_length vals i v hi]; omega, h.cap_le, fun j u hj => ?_⟩
        rw [ins_get vals i j v hi] at hj
        by_cases h3 : j < i
        · rw [if_pos h3] at hj
          rw [cells_out i [v] j (.inl h3), cells_out (i + 1) _ j (.inl (by omega))]
          exact h.cell j u hj
        · rw [if_neg h3] at hj
          by_cases h4 : j = i
          · rw [if_pos h4] at hj
            subst h4
            exact cells_in hs1 j [v] (by simp; omega) 0 u hj
          · rw [if_neg h4] at hj
            rw [cells_out i [v] j (.inr (by simp; omega))]
            have hjl := (List.getElem?_eq_some_iff.1 hj).1
            have := cells_in (w := w.drew) h.shape (i + 1) (vals.drop i) (by rw [List.length_drop]; omega) (j - 1 - i) u (by rw [List.getElem?_drop, show i + (j - 1 - i) = j - 1 by omega]; exact hj)
            rwa [show i + 1 + (j - 1 - i) = j by omega] at this
      · subst hw
        exact grown_sets g _ _ (grown_sets g _ _ (grown_drew (World.grownBy.refl w _)))
    · have e : i = vals.length := by omega
      subst e
      refine (insStr_end g cap vb vals v w h hv hroom h1v).mono fun e w' ⟨he, hw⟩ => ⟨g, cap, he, ?_, .inl rfl, ?_⟩
      · subst hw
        refine ⟨shape_sets _ _ h.shape, by rw [ins_length vals _ v hi]; omega, h.cap_le, fun j u hj => ?_⟩
        rw [ins_get vals _ j v hi] at hj
        by_cases h3 : j < vals.length
        · rw [if_pos h3] at hj
          rw [cells_out _ [v] j (.inl h3)]
          exact h.cell j u hj
        · rw [if_neg h3] at hj
          by_cases h4 : j = vals.length
          · rw [if_pos h4] at hj
            subst h4
            exact cells_in h.shape _ [v] (by simp; omega) 0 u hj
          · rw [if_neg h4] at hj
            have hjl := (List.getElem?_eq_some_iff.1 hj).1
            omega
      · subst hw
        exact grown_sets g _ _ (World.grownBy.refl w _)
  · have hroom' : cap < vals.length + 1 := by omega
    by_cases hin : i < vals.length
    · refine (insStr_grow g cap i vb vals v w h hv hin hroom' hbig h1 h1v).mono fun e w' ⟨G, he, hG1, hG2, ROW, hR1, hR2, hw⟩ => ⟨w.heap.size, G, he, ?_, .inr rfl, ?_⟩
      · subst hw
        have hs0 : ∃ cur : Array Value, ((w.alloc (.cells ROW 9)).drew).heap[w.heap.size]? = some (.cells cur 9 (0, 0)) ∧ cur.size = G := ⟨ROW, heap_alloc_new w _, hR1⟩
        have hs1 := shape_sets [v] i hs0
        refine ⟨shape_sets _ _ (w := (World.setCells _ _ _ _).drew) hs1, by rw [ins_length vals i v hi]; omega, hG2, fun j u hj => ?_⟩
        rw [ins_get vals i j v hi] at hj
        by_cases h3 : j < i
        · rw [if_pos h3] at hj
          rw [cells_out (i + 1) _ j (.inl (by omega))]
          show (((w.alloc (.cells ROW 9)).drew).setCells w.heap.size i [v]).cell? _ = _
          rw [cells_out i [v] j (.inl h3)]
          have hr := hR2 j u (by rw [List.getElem?_take, if_pos h3]; exact hj)
          show (w.alloc (.cells ROW 9)).cell? _ = _
          rw [World.cell?_alloc_at (w := w) ROW _ w.heap.size j rfl]
          exact hr
        · rw [if_neg h3] at hj
          by_cases h4 : j = i
          · rw [if_pos h4] at hj
            subst h4
            rw [cells_out (j + 1) _ j (.inl (by omega))]
            exact cells_in hs0 j [v] (by simp; omega) 0 u hj
          · rw [if_neg h4] at hj
            have := cells_in (w := (World.setCells ((w.alloc (.cells ROW 9)).drew) w.heap.size i [v]).drew) hs1 (i + 1) (vals.drop i) (by rw [List.length_drop]; omega) (j - 1 - i) u (by rw [List.getElem?_drop, show i + (j - 1 - i) = j - 1 by omega]; exact hj)
            rwa [show i + 1 + (j - 1 - i) = j by omega] at this
      · subst hw
        refine ⟨?_, ?_, ?_, ?_, ?_⟩
        · exact (grown_sets w.heap.size (vals.drop i) (i + 1) (w0 := w) (grown_drew (grown_sets w.heap.size [v] i (grown_drew (World.grownBy_alloc w _ _))))).os
        · exact (grown_sets w.heap.size (vals.drop i) (i + 1) (w0 := w) (grown_drew (grown_sets w.heap.size [v] i (grown_drew (World.grownBy_alloc w _ _))))).tape
        · exact (grown_sets w.heap.size (vals.drop i) (i + 1) (w0 := w) (grown_drew (grown_sets w.heap.size [v] i (grown_drew (World.grownBy_alloc w _ _))))).output
        · exact (grown_sets w.heap.size (vals.drop i) (i + 1) (w0 := w) (grown_drew (grown_sets w.heap.size [v] i (grown_drew (World.grownBy_alloc w _ _))))).size
        · exact fun k hk _ => (grown_sets w.heap.size (vals.drop i) (i + 1) (w0 := w) (grown_drew (grown_sets w.heap.size [v] i (grown_drew (World.grownBy_alloc w _ _))))).block k hk (fun e => by cases e; omega)
    · have e : i = vals.length := by omega
      subst e
      refine (insStr_endGrow cap vb vals v w (some ⟨g, 0, none⟩) h.le hroom' hbig hv h1v (.inr ⟨g, rfl, h.cell⟩)).mono fun e w' ⟨he, hw⟩ => ⟨w.heap.size, _, he, ?_, .inr rfl, ?_⟩
      · subst hw
        have hG1 := grownCap_ge w (vals.length + 1) cap 9
        have hG2 := grownCap_le_maxLen w (vals.length + 1) cap 9 (by unfold maxLen; omega)
        unfold maxLen at hG2
        refine ⟨⟨_, heap_alloc_new w.drew _, by simp [Builtin.zeroCells, Value.cells]; omega⟩, by rw [ins_length vals _ v hi]; exact hG1, hG2, fun j u hj => ?_⟩
        have hjl := (List.getElem?_eq_some_iff.1 hj).1
        rw [ins_length vals _ v hi] at hjl
        rw [World.cell?_alloc_at (w := w.drew) _ _ w.heap.size j rfl, Array.getElem?_append_left (by simpa using hjl)]
        rw [show ins vals vals.length v = vals ++ [v] by simp [ins]] at hj
        simpa using hj
      · subst hw
        exact gb_trans (w := w.drew) ⟨rfl, rfl, rfl, Nat.le_refl _, fun _ _ _ => rfl⟩ (World.grownBy_alloc w.drew _ _)
end
end Go.Proofs.Qxb6617214a
