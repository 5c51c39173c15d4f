/-
  PLAIN: putting a string into, and taking it out of, a sorted list; the same by chunks.
-/
import Derived.Test.Qxb6617214aP3
namespace Go.Proofs.Qxb6617214a

/-- l with x put in at place i. -/
def ins {α : Type} (l : List α) (i : Nat) (x : α) : List α := l.take i ++ x :: l.drop i
theorem ins_length {α : Type} (l : List α) (i : Nat) (x : α) (h : i ≤ l.length) : (ins l i x).length = l.length + 1 := by
  unfold ins; simp; omega
theorem mem_ins {α : Type} {l : List α} {i : Nat} {x y : α} : y ∈ ins l i x ↔ y = x ∨ y ∈ l := by
  unfold ins
  rw [List.mem_append, List.mem_cons]
  constructor
  · rintro (h | h | h)
    · exact .inr (List.mem_of_mem_take h)
    · exact .inl h
    · exact .inr (List.mem_of_mem_drop h)
  · rintro (h | h)
    · exact .inr (.inl h)
    · rw [← List.take_append_drop i l, List.mem_append] at h
      rcases h with h | h
      · exact .inl h
      · exact .inr (.inr h)

theorem isAt_iff {l : List ByteArray} (h : Incr l) (k : ByteArray) : isAt l k = true ↔ k ∈ l := by
  constructor
  · intro ha
    obtain ⟨h1, h2⟩ := of_decide_eq_true ha
    rw [← h2]; exact getD_mem h1
  · intro hk
    obtain ⟨i, hi, rfl⟩ := List.mem_iff_getElem.1 hk
    have e : l.getD i ByteArray.empty = l[i] := by simp [List.getD_eq_getElem?_getD, hi]
    have h1 : sidx l l[i] = i := by
      apply Nat.le_antisymm
      · apply Nat.le_of_not_lt
        intro hlt
        have := sidx_lt l l[i] i hlt
        rw [e, slt_irrefl] at this; cases this
      · apply Nat.le_of_not_lt
        intro hlt
        have := sidx_ge h l[i] _ (Nat.le_refl _) (by omega)
        have h2 := incr_lt h hlt hi
        rw [e] at h2
        rw [h2] at this; cases this
    exact decide_eq_true ⟨by rw [h1]; exact hi, by rw [h1]; exact e⟩

/-- What stands ahead of k's place is below k; what stands from it on is k or above. -/
theorem take_sidx_lt (l : List ByteArray) (k : ByteArray) : ∀ x ∈ l.take (sidx l k), slt x k = true := by
  intro x hx
  obtain ⟨i, hi, rfl⟩ := List.mem_iff_getElem.1 hx
  rw [List.length_take] at hi
  rw [List.getElem_take]
  have := sidx_lt l k i (by omega)
  rwa [List.getD_eq_getElem?_getD, List.getElem?_eq_getElem (by omega)] at this
theorem drop_sidx_ge {l : List ByteArray} (h : Incr l) (k : ByteArray) : ∀ x ∈ l.drop (sidx l k), slt x k = false := by
  intro x hx
  obtain ⟨i, hi, rfl⟩ := List.mem_iff_getElem.1 hx
  rw [List.length_drop] at hi
  rw [List.getElem_drop]
  have := sidx_ge h k (sidx l k + i) (by omega) (by omega)
  rwa [List.getD_eq_getElem?_getD, List.getElem?_eq_getElem (by omega)] at this

/-- A sorted list with k in it. -/
def insS (l : List ByteArray) (k : ByteArray) : List ByteArray := if isAt l k then l else ins l (sidx l k) k
/-- A sorted list without k. -/
def delS (l : List ByteArray) (k : ByteArray) : List ByteArray := if isAt l k then l.eraseIdx (sidx l k) else l

theorem mem_insS {l : List ByteArray} (h : Incr l) {k x : ByteArray} : x ∈ insS l k ↔ x = k ∨ x ∈ l := by
  unfold insS
  split
  · rename_i ha
    have hk := (isAt_iff h k).1 ha
    constructor
    · exact .inr
    · rintro (rfl | hx)
      · exact hk
      · exact hx
  · exact mem_ins

theorem incr_ins {l : List ByteArray} (h : Incr l) {k : ByteArray} (hn : isAt l k = false) : Incr (ins l (sidx l k) k) := by
  unfold ins Incr
  have h' := h
  rw [← List.take_append_drop (sidx l k) l] at h'
  obtain ⟨h1, h2, h3⟩ := List.pairwise_append.1 h'
  rw [List.pairwise_append, List.pairwise_cons]
  refine ⟨h1, ⟨fun x hx => ?_, h2⟩, fun x hx y hy => ?_⟩
  · rcases not_lt_cases (drop_sidx_ge h k x hx) with h4 | h4
    · exact h4
    · subst h4
      have := (isAt_iff h x).2 (List.mem_of_mem_drop hx)
      rw [hn] at this; cases this
  · rw [List.mem_cons] at hy
    rcases hy with rfl | hy
    · exact take_sidx_lt l y x hx
    · exact h3 x hx y hy
theorem incr_insS {l : List ByteArray} (h : Incr l) (k : ByteArray) : Incr (insS l k) := by
  unfold insS
  cases ha : isAt l k with
  | true => simpa using h
  | false => simpa using incr_ins h ha
theorem insS_length (l : List ByteArray) (k : ByteArray) : (insS l k).length = l.length + (if isAt l k then 0 else 1) := by
  unfold insS
  cases ha : isAt l k with
  | true => simp
  | false => simp [ins_length l _ k (sidx_le l k)]

/-- Two strictly increasing lists of the same strings are one. -/
theorem incr_ext : ∀ {l m : List ByteArray}, Incr l → Incr m → (∀ x, x ∈ l ↔ x ∈ m) → l = m
  | [], [], _, _, _ => rfl
  | [], y :: m, _, _, h => by have := (h y).2 (by simp); simp at this
  | x :: l, [], _, _, h => by have := (h x).1 (by simp); simp at this
  | x :: l, y :: m, hl, hm, h => by
    obtain ⟨hl1, hl2⟩ := List.pairwise_cons.1 hl
    obtain ⟨hm1, hm2⟩ := List.pairwise_cons.1 hm
    have e : x = y := by
      have h1 := (h x).1 (by simp)
      have h2 := (h y).2 (by simp)
      rw [List.mem_cons] at h1 h2
      rcases h1 with h1 | h1
      · exact h1
      · rcases h2 with h2 | h2
        · exact h2.symm
        · have a := slt_trans (hm1 x h1) (hl1 y h2)
          rw [slt_irrefl] at a; cases a
    subst e
    congr 1
    refine incr_ext hl2 hm2 (fun z => ?_)
    have hz := h z
    rw [List.mem_cons, List.mem_cons] at hz
    constructor
    · intro hzl
      rcases hz.1 (.inr hzl) with rfl | hh
      · have := hl1 z hzl; rw [slt_irrefl] at this; cases this
      · exact hh
    · intro hzm
      rcases hz.2 (.inr hzm) with rfl | hh
      · have := hm1 z hzm; rw [slt_irrefl] at this; cases this
      · exact hh

theorem insS_comm {l : List ByteArray} (h : Incr l) (a b : ByteArray) : insS (insS l a) b = insS (insS l b) a := by
  refine incr_ext (incr_insS (incr_insS h a) b) (incr_insS (incr_insS h b) a) (fun x => ?_)
  rw [mem_insS (incr_insS h a), mem_insS h, mem_insS (incr_insS h b), mem_insS h]
  constructor
  · rintro (h | h | h)
    · exact .inr (.inl h)
    · exact .inl h
    · exact .inr (.inr h)
  · rintro (h | h | h)
    · exact .inr (.inl h)
    · exact .inl h
    · exact .inr (.inr h)
theorem isAt_insS {l : List ByteArray} (h : Incr l) (k : ByteArray) : isAt (insS l k) k = true := (isAt_iff (incr_insS h k) k).2 ((mem_insS h).2 (.inl rfl))

theorem eraseIdx_eq {α : Type} (l : List α) (i : Nat) : l.eraseIdx i = l.take i ++ l.drop (i + 1) := List.eraseIdx_eq_take_drop_succ l i
theorem incr_erase {l : List ByteArray} (h : Incr l) (i : Nat) : Incr (l.eraseIdx i) := List.Pairwise.sublist (List.eraseIdx_sublist l i) h
theorem mem_delS {l : List ByteArray} (h : Incr l) {k x : ByteArray} : x ∈ delS l k ↔ x ≠ k ∧ x ∈ l := by
  unfold delS
  cases ha : isAt l k with
  | false =>
    have hk : ¬ k ∈ l := fun hh => by rw [(isAt_iff h k).2 hh] at ha; cases ha
    simp only [Bool.false_eq_true, if_false]
    constructor
    · intro hx; exact ⟨fun e => hk (e ▸ hx), hx⟩
    · exact fun hx => hx.2
  | true =>
    obtain ⟨h1, h2⟩ := of_decide_eq_true ha
    simp only [if_true]
    have hd : l = l.take (sidx l k) ++ k :: l.drop (sidx l k + 1) := by
      conv => lhs; rw [drop_getDs l _ h1, h2]
    have hP := h
    rw [hd] at hP
    obtain ⟨q1, q2, q3⟩ := List.pairwise_append.1 hP
    obtain ⟨q4, q5⟩ := List.pairwise_cons.1 q2
    rw [eraseIdx_eq, List.mem_append]
    constructor
    · rintro (hx | hx)
      · refine ⟨fun e => ?_, List.mem_of_mem_take hx⟩
        subst e
        have := q3 x hx x (by simp)
        rw [slt_irrefl] at this; cases this
      · refine ⟨fun e => ?_, List.mem_of_mem_drop hx⟩
        subst e
        have := q4 x hx
        rw [slt_irrefl] at this; cases this
    · rintro ⟨hne, hx⟩
      rw [hd, List.mem_append, List.mem_cons] at hx
      rcases hx with hx | hx | hx
      · exact .inl hx
      · exact absurd hx hne
      · exact .inr hx
theorem incr_delS {l : List ByteArray} (h : Incr l) (k : ByteArray) : Incr (delS l k) := by
  unfold delS
  cases ha : isAt l k with
  | false => simpa using h
  | true => simpa using incr_erase h _
theorem delS_insS {l : List ByteArray} (h : Incr l) (k : ByteArray) : delS (insS l k) k = delS l k := by
  refine incr_ext (incr_delS (incr_insS h k) k) (incr_delS h k) (fun x => ?_)
  rw [mem_delS (incr_insS h k), mem_insS h, mem_delS h]
  constructor
  · rintro ⟨hne, h1 | h1⟩
    · exact absurd h1 hne
    · exact ⟨hne, h1⟩
  · rintro ⟨hne, h1⟩; exact ⟨hne, .inr h1⟩
end Go.Proofs.Qxb6617214a
