/-
  PLAIN: the answer of a scan over all strings, told by chunk and place.
-/
import Derived.Test.Qxb6617214aF
import Derived.Test.Qxb6617214aP2
namespace Go.Proofs.Qxb6617214a

theorem hit_lt {k x : ByteArray} {past : Bool} (h : slt x k = true) : hit k past x = false := by
  unfold hit
  rw [slt_asymm h]
  have : x ≠ k := fun e => by subst e; rw [slt_irrefl] at h; cases h
  simp [this]
theorem noTo_sidx (l : List ByteArray) (k : ByteArray) (past : Bool) : NoTo l k past (sidx l k) := by
  unfold NoTo
  intro x hx
  obtain ⟨i, hi, rfl⟩ := List.mem_iff_getElem.1 hx
  rw [List.length_take] at hi
  rw [List.getElem_take]
  have := sidx_lt l k i (by omega)
  rw [List.getD_eq_getElem?_getD, List.getElem?_eq_getElem (by omega)] at this
  exact hit_lt this
theorem scan_end {l : List ByteArray} {k : ByteArray} {past : Bool} (h : sidx l k = l.length) : scan l k past = none := noTo_done (noTo_sidx l k past) h
theorem not_lt_cases {x k : ByteArray} (h : slt x k = false) : slt k x = true ∨ x = k := by
  cases hk : slt k x with
  | true => exact .inl rfl
  | false => exact .inr (slt_total h hk)
theorem scan_here {l : List ByteArray} (hl : Incr l) {k : ByteArray} {past : Bool} (h : sidx l k < l.length) (hn : isAt l k = false ∨ past = false) : scan l k past = some (l.getD (sidx l k) ByteArray.empty) := by
  refine noTo_hit (noTo_sidx l k past) h rfl ?_
  have h1 := sidx_ge hl k _ (Nat.le_refl _) h
  unfold hit
  rcases not_lt_cases h1 with h2 | h2
  · rw [h2]; rfl
  · rcases hn with hn | hn
    · unfold isAt at hn
      exact absurd ⟨h, h2⟩ (of_decide_eq_false hn)
    · subst hn; rw [decide_eq_true h2, Bool.not_false, Bool.and_self, Bool.or_true]
theorem noTo_next {l : List ByteArray} {k : ByteArray} (ha : isAt l k = true) : NoTo l k true (sidx l k + 1) ∧ sidx l k < l.length := by
  obtain ⟨h1, h2⟩ := of_decide_eq_true ha
  exact ⟨noTo_step (noTo_sidx l k true) h1 h2 (by simp [hit, slt_irrefl]), h1⟩
theorem scan_next {l : List ByteArray} (hl : Incr l) {k : ByteArray} (ha : isAt l k = true) (h : sidx l k + 1 < l.length) : scan l k true = some (l.getD (sidx l k + 1) ByteArray.empty) := by
  refine noTo_hit (noTo_next ha).1 h rfl ?_
  have h2 := incr_lt hl (Nat.lt_succ_self (sidx l k)) h
  rw [(of_decide_eq_true ha : _ ∧ _).2] at h2
  unfold hit
  rw [show slt k (l.getD (sidx l k + 1) ByteArray.empty) = true from h2]; rfl
theorem scan_next_end {l : List ByteArray} {k : ByteArray} (ha : isAt l k = true) (h : sidx l k + 1 = l.length) : scan l k true = none := noTo_done (noTo_next ha).1 h

/-! ### the flat place of what find found -/
theorem chunk_lt {css : List (List ByteArray)} (hf : Fine css) {k : ByteArray} {c : List ByteArray} (hc : c ∈ css) (hl : slt (lastS c) k = true) {x : ByteArray} (hx : x ∈ c) : slt x k = true := by
  obtain ⟨i, hi, rfl⟩ := List.mem_iff_getElem.1 hx
  have := incr_mono (fine_chunk hf hc) k i (c.length - 1) (by omega) (by omega) hl
  simpa [List.getD_eq_getElem?_getD, hi] using this
theorem take_cidx_lt {css : List (List ByteArray)} (hf : Fine css) (k : ByteArray) : ∀ x ∈ (css.take (cidx css k)).flatten, slt x k = true := by
  intro x hx
  obtain ⟨c, hc, hxc⟩ := List.mem_flatten.1 hx
  obtain ⟨i, hi, rfl⟩ := List.mem_iff_getElem.1 hc
  rw [List.length_take] at hi
  rw [List.getElem_take] at hxc
  have h1 := cidx_lt css k i (by omega)
  rw [List.getD_eq_getElem?_getD, List.getElem?_eq_getElem (by omega)] at h1
  exact chunk_lt hf (List.getElem_mem _) h1 hxc
theorem tw_append {α : Type} (p : α → Bool) (l m : List α) (h : ∀ x ∈ l, p x = true) : ((l ++ m).takeWhile p).length = l.length + (m.takeWhile p).length := by
  rw [List.takeWhile_append_of_pos (by simpa using h), List.length_append]
theorem tw_stop {α : Type} (p : α → Bool) : ∀ (l m : List α), (l.takeWhile p).length < l.length → ((l ++ m).takeWhile p).length = (l.takeWhile p).length
  | [], _, h => by simp at h
  | x :: r, m, h => by
    rw [List.cons_append, List.takeWhile_cons, List.takeWhile_cons] at *
    cases hx : p x with
    | false => rfl
    | true =>
      rw [if_pos hx] at h
      rw [if_pos rfl, if_pos rfl, List.length_cons, List.length_cons, tw_stop p r m (by simpa using h)]
theorem sidx_flat_end {css : List (List ByteArray)} (hf : Fine css) {k : ByteArray} (h : cidx css k = css.length) : sidx css.flatten k = css.flatten.length := by
  have h1 := take_cidx_lt hf k
  rw [h, List.take_length] at h1
  unfold sidx
  have := tw_append (fun x => slt x k) css.flatten [] h1
  simpa using this
theorem sidx_flat {css : List (List ByteArray)} (hf : Fine css) {k : ByteArray} (h : cidx css k < css.length) : sidx css.flatten k = tot (css.take (cidx css k)) + sidx (css.getD (cidx css k) []) k := by
  unfold sidx
  conv => lhs; rw [drop_getD css _ h]
  rw [List.flatten_append, List.flatten_cons, tw_append _ _ _ (take_cidx_lt hf k), tw_stop _ _ _ (sidx_in hf k h)]
  rfl
theorem flat_at' {css : List (List ByteArray)} {k j : Nat} (hk : k < css.length) (hj : j < (css.getD k []).length) : css.flatten.getD (tot (css.take k) + j) ByteArray.empty = (css.getD k []).getD j ByteArray.empty := flat_at hk rfl hj
theorem flat_len {css : List (List ByteArray)} {k : Nat} (hk : k < css.length) : tot (css.take k) + (css.getD k []).length ≤ css.flatten.length := by
  have h1 := tot_take css k hk rfl
  have h2 := tot_le (css := css) (k + 1)
  unfold tot at *; omega
theorem isAt_flat {css : List (List ByteArray)} (hf : Fine css) {k : ByteArray} (h : cidx css k < css.length) : isAt css.flatten k = isAt (css.getD (cidx css k) []) k := by
  have h2 := sidx_in hf k h
  have h3 := flat_len h
  unfold isAt
  rw [sidx_flat hf h, flat_at' h h2]
  congr 1
  apply propext
  constructor
  · exact fun hh => ⟨h2, hh.2⟩
  · exact fun hh => ⟨by omega, hh.2⟩
theorem isAt_end {css : List (List ByteArray)} (hf : Fine css) {k : ByteArray} (h : cidx css k = css.length) : isAt css.flatten k = false := by
  unfold isAt
  rw [sidx_flat_end hf h]
  exact decide_eq_false (fun hh => by omega)

/-! ### 'from', way by way -/
theorem from_end {css : List (List ByteArray)} (hf : Fine css) {k : ByteArray} {past : Bool} (h : cidx css k = css.length) : scan css.flatten k past = none := scan_end (sidx_flat_end hf h)
theorem from_here {css : List (List ByteArray)} (hf : Fine css) {k : ByteArray} {past : Bool} (h : cidx css k < css.length) (hn : isAt (css.getD (cidx css k) []) k = false ∨ past = false) :
    scan css.flatten k past = some ((css.getD (cidx css k) []).getD (sidx (css.getD (cidx css k) []) k) ByteArray.empty) := by
  have h2 := sidx_in hf k h
  have h3 := flat_len h
  have := scan_here (past := past) hf.2 (k := k) (by rw [sidx_flat hf h]; omega) (by rw [isAt_flat hf h]; exact hn)
  rwa [sidx_flat hf h, flat_at' h h2] at this
theorem from_next {css : List (List ByteArray)} (hf : Fine css) {k : ByteArray} (h : cidx css k < css.length) (ha : isAt (css.getD (cidx css k) []) k = true) (hl : sidx (css.getD (cidx css k) []) k + 1 < (css.getD (cidx css k) []).length) :
    scan css.flatten k true = some ((css.getD (cidx css k) []).getD (sidx (css.getD (cidx css k) []) k + 1) ByteArray.empty) := by
  have h3 := flat_len h
  have := scan_next hf.2 (k := k) (by rw [isAt_flat hf h]; exact ha) (by rw [sidx_flat hf h]; omega)
  rwa [sidx_flat hf h, Nat.add_assoc, flat_at' h hl] at this
theorem from_hop {css : List (List ByteArray)} (hf : Fine css) {k : ByteArray} (h : cidx css k < css.length) (ha : isAt (css.getD (cidx css k) []) k = true) (hl : sidx (css.getD (cidx css k) []) k + 1 = (css.getD (cidx css k) []).length) (hc : cidx css k + 1 < css.length) :
    scan css.flatten k true = some ((css.getD (cidx css k + 1) []).getD 0 ByteArray.empty) := by
  have h3 := flat_len hc
  have h4 := tot_take css _ h rfl
  have h5 := hf.1 _ (getD_mem (d := []) hc)
  have e : sidx css.flatten k + 1 = tot (css.take (cidx css k + 1)) + 0 := by rw [sidx_flat hf h, h4]; omega
  have := scan_next hf.2 (k := k) (by rw [isAt_flat hf h]; exact ha) (by rw [e]; omega)
  rwa [e, flat_at' hc h5] at this
theorem from_hop_end {css : List (List ByteArray)} (hf : Fine css) {k : ByteArray} (h : cidx css k < css.length) (ha : isAt (css.getD (cidx css k) []) k = true) (hl : sidx (css.getD (cidx css k) []) k + 1 = (css.getD (cidx css k) []).length) (hc : cidx css k + 1 = css.length) :
    scan css.flatten k true = none := by
  have h4 := tot_take css _ h rfl
  have h5 := tot_all (css := css) hc
  refine scan_next_end (by rw [isAt_flat hf h]; exact ha) ?_
  rw [sidx_flat hf h]
  unfold tot at *; omega
end Go.Proofs.Qxb6617214a
