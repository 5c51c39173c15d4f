/-
  slices.Delete(s, i, i+1) at []string (function 40), over a row that the call owns.
-/
import Derived.Test.Qxb6617214aS1
import Derived.Lib.SliceRun
namespace Go.Proofs.Qxb6617214a
open Go.RowKit Go.Lib
set_option linter.unusedVariables false

theorem zero9 (w : World) : (zeroValue 9).run Try.prog w = .ok (Value.string ⟨#[]⟩) w := by
  obtain ⟨i, hi, hs⟩ := Option.map_eq_some_iff.1 info9
  simp only [Prod.mk.injEq] at hs
  simp [zeroValue, typeInfo, hi, hs.1]

section
variable (g cap i : Nat) (vals : List Value) (w : World)

set_option maxHeartbeats 4000000 in
set_option maxRecDepth 100000 in
theorem delStr_walk (h : RowV w g 9 cap vals) (hi : i < vals.length) (h1 : ∀ u ∈ vals, u.oneCell' = true) :
    Calls Try.prog 40 #[.slice (some ⟨g, 0, none⟩) vals.length cap, .int .i64 i, .int .i64 ((i : Int) + 1)] w fun e w' =>
      e = .returned (.slice (some ⟨g, 0, none⟩) (vals.length - 1) cap) ∧ w' = (w.drew.setCells g i (vals.drop (i + 1))).setCells g (vals.length - 1) [Value.string ⟨#[]⟩] := by
  obtain ⟨i0, hi0, hz0, hzs, hzb⟩ := info_parts info9
  have hcap := h.cap_le
  have hle := h.le
  have hdl : (vals.drop (i + 1)).length = vals.length - (i + 1) := List.length_drop
  -- what is moved to the left, wherever its slice begins
  obtain ⟨A, hA, hsrc⟩ : ∃ A : Addr, (if cap = i + 1 then some (⟨g, 0, none⟩ : Addr) else some ⟨g, i + 1, none⟩) = some A ∧ Hid (∀ t u, (vals.drop (i + 1))[t]? = some u → w.drew.cell? (A.add t) = some u) := by
    by_cases hc : cap = i + 1
    · refine ⟨⟨g, 0, none⟩, by simp [hc], fun t u hu => ?_⟩
      have ht := (List.getElem?_eq_some_iff.1 hu).1
      omega
    · refine ⟨⟨g, i + 1, none⟩, by simp [hc], fun t u hu => ?_⟩
      rw [Addr.add_lit]
      exact h.cell (i + 1 + t) u (by rwa [List.getElem?_drop] at hu)
  have s1 : Hid ((vals.drop (i + 1)).length = (vals.length - (i + 1)) * 1) := by rw [Nat.mul_one]; exact hdl
  have s2 : Hid (∀ u ∈ vals.drop (i + 1), u.oneCell' = true) := fun u hu => h1 u (List.mem_of_mem_drop hu)
  have s3 : Hid (∀ t, t < (vals.drop (i + 1)).length → (w.drew.cell? ⟨g, 0 + i * 1 + t, none⟩).isSome = true ∧ w.drew.frozen? ⟨g, 0 + i * 1 + t, none⟩ = false) := fun t ht =>
    ⟨h.isSome _ (by omega), h.frozen _⟩
  obtain ⟨W1, hW1⟩ : ∃ W1, W1 = w.drew.setCells g (0 + i * 1) (vals.drop (i + 1)) := ⟨_, rfl⟩
  have hsh : ∃ cur : Array Value, W1.heap[g]? = some (.cells cur 9 (0, 0)) ∧ cur.size = cap := by rw [hW1]; exact shape_sets _ _ h.shape
  have hcl : ∀ ty, (Builtin.clear_ #[29] ty #[.slice (some ⟨g, i + (vals.length - (i + 1)), none⟩) (vals.length - (i + (vals.length - (i + 1)))) (cap - (i + (vals.length - (i + 1))))]).run Try.prog W1 = .ok (.tuple #[]) (W1.setCells g (i + (vals.length - (i + 1))) (List.replicate (vals.length - (i + (vals.length - (i + 1)))) (Value.string ⟨#[]⟩))) := fun ty =>
    Lib.run_clear_slice W1 29 9 ty _ Try.underlying29 zero9 rfl rfl g _ _ _ (by omega)
      (fun t ht => by obtain ⟨cur, hb, hs⟩ := hsh; simp [World.cell?, hb, hs]; omega) (fun t ht => by obtain ⟨cur, hb, hs⟩ := hsh; simp [World.frozen?, hb])
  have HW : Hid (W1 = w.drew.setCells g (0 + i * 1) (vals.drop (i + 1))) := hW1
  generalize hn : vals.length = n at *
  have hic : i ≤ cap := by omega
  have hjc : i + 1 ≤ cap := by omega
  have hne : ¬ ((i : Int) = (i : Int) + 1) := by omega
  have hw1 : ((i : Int) + 1).toNat = i + 1 := by omega
  have hb1 : (0 : Int) ≤ (i : Int) + 1 := by omega
  have hb2 : (i : Int) + 1 ≤ (n : Int) := by omega
  clear hW1 hsh h hdl hn h1
  go_enter Try.func40, Try.ntmps40
  go_wp2_with fail
  go_region_law (refine step_append_room rfl (.tmp 22) (.tmp 25) 29 rfl 9 i0 1 Try.underlying29 hi0 hzs g 0 i cap (by simp [Act.eval, Act.put]) A (n - (i + 1)) (cap - (i + 1)) (vals.drop (i + 1)) (by simp [Act.eval, Act.put]) s1.out hsrc.out s2.out (by omega) s3.out ?_; rw [← HW.out])
  go_wp2
  go_ret
  refine ⟨by rw [show n - 1 = i + (n - (i + 1)) by omega]; rfl, ?_⟩
  rw [HW.out, show 0 + i * 1 = i by omega, show i + (n - (i + 1)) = n - 1 by omega, show n - (n - 1) = 1 by omega]
  rfl

/-- A row of the call's own, one value taken out. -/
theorem delStr_any (h : RowV w g 9 cap vals) (hi : i < vals.length) (h1 : ∀ u ∈ vals, u.oneCell' = true) :
    Calls Try.prog 40 #[.slice (some ⟨g, 0, none⟩) vals.length cap, .int .i64 i, .int .i64 ((i : Int) + 1)] w fun e w' =>
      e = .returned (.slice (some ⟨g, 0, none⟩) (vals.length - 1) cap) ∧ RowV w' g 9 cap (vals.eraseIdx i) ∧ w.grownBy w' (some g) := by
  have hle := h.le
  refine (delStr_walk g cap i vals w h hi h1).mono fun e w' ⟨he, hw⟩ => ⟨he, ?_, ?_⟩
  · subst hw
    have hs1 := shape_sets (vals.drop (i + 1)) i (w := w.drew) h.shape
    have hel : (vals.eraseIdx i).length = vals.length - 1 := List.length_eraseIdx_of_lt hi
    refine ⟨shape_sets _ _ hs1, by omega, h.cap_le, fun j u hj => ?_⟩
    have hjl := (List.getElem?_eq_some_iff.1 hj).1
    rw [hel] at hjl
    rw [cells_out (vals.length - 1) _ j (.inl hjl)]
    rw [List.getElem?_eraseIdx] at hj
    by_cases h3 : j < i
    · rw [if_pos h3] at hj
      rw [cells_out i _ j (.inl h3)]
      exact h.cell j u hj
    · rw [if_neg h3] at hj
      have := cells_in (w := w.drew) h.shape i (vals.drop (i + 1)) (by rw [List.length_drop]; omega) (j - i) u (by rw [List.getElem?_drop, show i + 1 + (j - i) = j + 1 by omega]; exact hj)
      rwa [show i + (j - i) = j by omega] at this
  · subst hw
    exact grown_sets g _ _ (grown_sets g _ _ (grown_drew (World.grownBy.refl w _)))
end
end Go.Proofs.Qxb6617214a
