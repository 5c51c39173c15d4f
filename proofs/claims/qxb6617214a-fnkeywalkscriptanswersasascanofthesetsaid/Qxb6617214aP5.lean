/-
  PLAIN: add and remove, chunk by chunk.
-/
import Derived.Test.Qxb6617214aP4
namespace Go.Proofs.Qxb6617214a

abbrev Css := List (List ByteArray)

theorem flat_at_split (css : Css) (c : Nat) (h : c < css.length) : css.flatten = (css.take c).flatten ++ css.getD c [] ++ (css.drop (c + 1)).flatten := by
  conv => lhs; rw [drop_getD css c h]
  rw [List.flatten_append, List.flatten_cons, List.append_assoc]
theorem flat_set (css : Css) (c : Nat) (h : c < css.length) (new : List ByteArray) : (css.set c new).flatten = (css.take c).flatten ++ new ++ (css.drop (c + 1)).flatten := by
  rw [List.set_eq_take_append_cons_drop, if_pos h, List.flatten_append, List.flatten_cons, List.append_assoc]
theorem ins_mid {α : Type} (l m r : List α) (i : Nat) (x : α) (h : i ≤ m.length) : ins (l ++ m ++ r) (l.length + i) x = l ++ ins m i x ++ r := by
  unfold ins
  rw [List.append_assoc, List.take_append, List.drop_append, List.take_of_length_le (by omega), List.drop_of_length_le (by omega), show l.length + i - l.length = i by omega, List.take_append, List.drop_append, show i - m.length = 0 by omega]
  simp
theorem erase_mid {α : Type} (l m r : List α) (i : Nat) (h : i < m.length) : (l ++ m ++ r).eraseIdx (l.length + i) = l ++ m.eraseIdx i ++ r := by
  rw [List.append_assoc, List.eraseIdx_append_of_length_le (by omega), show l.length + i - l.length = i by omega, List.eraseIdx_append_of_lt_length h, List.append_assoc]

/-- Where k goes: in which chunk, and at which place there. -/
def plc (css : Css) (k : ByteArray) : Nat × Nat := if cidx css k = css.length then (css.length - 1, (css.getD (css.length - 1) []).length) else (cidx css k, sidx (css.getD (cidx css k) []) k)
theorem plc_lt {css : Css} (hne : 0 < css.length) (k : ByteArray) : (plc css k).1 < css.length := by
  unfold plc
  have := cidx_le css k
  split
  · show css.length - 1 < _; omega
  · show cidx css k < _; omega
theorem plc_le (css : Css) (k : ByteArray) : (plc css k).2 ≤ (css.getD (plc css k).1 []).length := by
  unfold plc
  split
  · exact Nat.le_refl _
  · exact sidx_le _ _
theorem plc_sidx {css : Css} (hf : Fine css) (hne : 0 < css.length) (k : ByteArray) : sidx css.flatten k = tot (css.take (plc css k).1) + (plc css k).2 := by
  unfold plc
  by_cases h : cidx css k = css.length
  · rw [if_pos h, sidx_flat_end hf h]
    have h1 := tot_take css (css.length - 1) (by omega) rfl
    rw [show css.length - 1 + 1 = css.length by omega, List.take_length] at h1
    exact h1
  · rw [if_neg h]
    have := cidx_le css k
    exact sidx_flat hf (by omega)

theorem add_flat {css : Css} (hf : Fine css) (hne : 0 < css.length) {k : ByteArray} (hn : isAt css.flatten k = false) :
    insS css.flatten k = (css.take (plc css k).1).flatten ++ ins (css.getD (plc css k).1 []) (plc css k).2 k ++ (css.drop ((plc css k).1 + 1)).flatten := by
  unfold insS
  rw [hn, if_neg (by simp), plc_sidx hf hne k]
  conv => lhs; arg 1; rw [flat_at_split css (plc css k).1 (plc_lt hne k)]
  exact ins_mid _ _ _ _ _ (plc_le css k)

/-- The chunks behind an add that keeps to one chunk. -/
theorem add_set {css : Css} (hok : OK css) (hne : 0 < css.length) {k : ByteArray} (hn : isAt css.flatten k = false) (hl : (ins (css.getD (plc css k).1 []) (plc css k).2 k).length ≤ 128) :
    (css.set (plc css k).1 (ins (css.getD (plc css k).1 []) (plc css k).2 k)).flatten = insS css.flatten k ∧ OK (css.set (plc css k).1 (ins (css.getD (plc css k).1 []) (plc css k).2 k)) := by
  have e := add_flat hok.fine hne hn
  have e2 : (css.set (plc css k).1 (ins (css.getD (plc css k).1 []) (plc css k).2 k)).flatten = insS css.flatten k := by rw [flat_set css _ (plc_lt hne k), e]
  refine ⟨e2, fun c hc => ?_, by rw [e2]; exact incr_insS hok.2 k⟩
  rcases List.mem_or_eq_of_mem_set hc with h | h
  · exact hok.1 c h
  · subst h
    refine ⟨?_, hl⟩
    rw [ins_length _ _ _ (plc_le css k)]; omega
/-- .. behind an add that splits one. -/
def halves (new : List ByteArray) : Css := [new.take (new.length / 2), new.drop (new.length / 2)]
theorem add_split {css : Css} (hok : OK css) (hne : 0 < css.length) {k : ByteArray} (hn : isAt css.flatten k = false) (hl : ¬ (ins (css.getD (plc css k).1 []) (plc css k).2 k).length ≤ 128) :
    (css.take (plc css k).1 ++ halves (ins (css.getD (plc css k).1 []) (plc css k).2 k) ++ css.drop ((plc css k).1 + 1)).flatten = insS css.flatten k ∧
    OK (css.take (plc css k).1 ++ halves (ins (css.getD (plc css k).1 []) (plc css k).2 k) ++ css.drop ((plc css k).1 + 1)) := by
  have e := add_flat hok.fine hne hn
  have hlen := ins_length (css.getD (plc css k).1 []) _ k (plc_le css k)
  have h128 := (hok.1 _ (getD_mem (d := []) (plc_lt hne k))).2
  generalize ins (css.getD (plc css k).1 []) (plc css k).2 k = new at *
  have e2 : (css.take (plc css k).1 ++ halves new ++ css.drop ((plc css k).1 + 1)).flatten = insS css.flatten k := by
    rw [e, List.flatten_append, List.flatten_append]
    unfold halves
    simp
  refine ⟨e2, fun c hc => ?_, by rw [e2]; exact incr_insS hok.2 k⟩
  rw [List.mem_append, List.mem_append] at hc
  rcases hc with (h | h) | h
  · exact hok.1 c (List.mem_of_mem_take h)
  · unfold halves at h
    simp only [List.mem_cons, List.not_mem_nil, or_false] at h
    rcases h with rfl | rfl
    · rw [List.length_take]; omega
    · rw [List.length_drop]; omega
  · exact hok.1 c (List.mem_of_mem_drop h)
theorem add_first (k : ByteArray) : ([[k]] : Css).flatten = insS ([] : Css).flatten k ∧ OK [[k]] := by
  refine ⟨by simp [insS, isAt, sidx, ins], by simp, by simp [Incr]⟩

/-! ### remove -/
theorem rem_flat {css : Css} (hf : Fine css) {k : ByteArray} (hc : cidx css k < css.length) (ha : isAt (css.getD (cidx css k) []) k = true) :
    delS css.flatten k = (css.take (cidx css k)).flatten ++ (css.getD (cidx css k) []).eraseIdx (sidx (css.getD (cidx css k) []) k) ++ (css.drop (cidx css k + 1)).flatten := by
  unfold delS
  rw [isAt_flat hf hc, ha, if_pos rfl, sidx_flat hf hc]
  conv => lhs; arg 1; rw [flat_at_split css _ hc]
  exact erase_mid _ _ _ _ (sidx_in hf k hc)
theorem rem_set {css : Css} (hok : OK css) {k : ByteArray} (hc : cidx css k < css.length) (ha : isAt (css.getD (cidx css k) []) k = true) (hl : 0 < ((css.getD (cidx css k) []).eraseIdx (sidx (css.getD (cidx css k) []) k)).length) :
    (css.set (cidx css k) ((css.getD (cidx css k) []).eraseIdx (sidx (css.getD (cidx css k) []) k))).flatten = delS css.flatten k ∧ OK (css.set (cidx css k) ((css.getD (cidx css k) []).eraseIdx (sidx (css.getD (cidx css k) []) k))) := by
  have e2 : (css.set (cidx css k) ((css.getD (cidx css k) []).eraseIdx (sidx (css.getD (cidx css k) []) k))).flatten = delS css.flatten k := by rw [flat_set css _ hc, rem_flat hok.fine hc ha]
  refine ⟨e2, fun c hcm => ?_, by rw [e2]; exact incr_delS hok.2 k⟩
  rcases List.mem_or_eq_of_mem_set hcm with h | h
  · exact hok.1 c h
  · subst h
    have h128 := (hok.1 _ (getD_mem (d := []) hc)).2
    have := (List.eraseIdx_sublist (css.getD (cidx css k) []) (sidx (css.getD (cidx css k) []) k)).length_le
    exact ⟨hl, by omega⟩
theorem rem_drop {css : Css} (hok : OK css) {k : ByteArray} (hc : cidx css k < css.length) (ha : isAt (css.getD (cidx css k) []) k = true) (hl : ¬ 0 < ((css.getD (cidx css k) []).eraseIdx (sidx (css.getD (cidx css k) []) k)).length) :
    (css.eraseIdx (cidx css k)).flatten = delS css.flatten k ∧ OK (css.eraseIdx (cidx css k)) := by
  have e2 : (css.eraseIdx (cidx css k)).flatten = delS css.flatten k := by
    rw [rem_flat hok.fine hc ha, List.length_eq_zero_iff.1 (Nat.eq_zero_of_not_pos hl), eraseIdx_eq, List.flatten_append, List.append_nil]
  refine ⟨e2, fun c hcm => hok.1 c (List.mem_of_mem_eraseIdx hcm), by rw [e2]; exact incr_delS hok.2 k⟩
end Go.Proofs.Qxb6617214a
