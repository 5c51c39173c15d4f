/-
  PLAIN: lists of strings in byte order; no program here.
-/
import Derived.Sort.Walk0
import Derived.Lib.Strings
namespace Go.Proofs.Qxb6617214a

/-- Go's '<' on strings. -/
def slt (a b : ByteArray) : Bool := Op.bytesLess a.toList b.toList

theorem toList_inj {a b : ByteArray} (h : a.toList = b.toList) : a = b := by
  rw [Lib.toList_data, Lib.toList_data] at h
  cases a with
  | mk ad => cases b with
    | mk bd => exact congrArg ByteArray.mk (Array.toList_inj.1 h)

theorem slt_iff (a b : ByteArray) : slt a b = true ↔ a.toList < b.toList := by
  unfold slt; rw [bytesLess_eq]; simp

theorem slt_irrefl (a : ByteArray) : slt a a = false := by
  cases h : slt a a with
  | false => rfl
  | true => exact absurd ((slt_iff a a).1 h) (List.lt_irrefl _)

theorem slt_trans {a b c : ByteArray} (h : slt a b = true) (k : slt b c = true) : slt a c = true :=
  (slt_iff a c).2 (List.lt_trans ((slt_iff a b).1 h) ((slt_iff b c).1 k))

theorem slt_total {a b : ByteArray} (h : slt a b = false) (k : slt b a = false) : a = b := by
  apply toList_inj
  apply List.le_antisymm
  · exact fun hh => by rw [(slt_iff b a).2 hh] at k; cases k
  · exact fun hh => by rw [(slt_iff a b).2 hh] at h; cases h

theorem slt_asymm {a b : ByteArray} (h : slt a b = true) : slt b a = false := by
  cases k : slt b a with
  | false => rfl
  | true => have := slt_trans h k; rw [slt_irrefl] at this; cases this

/-- not (a < b), b < c: hence a .. : if not (a < b) and not (b < c) fails .. : a ≥ b, c > .. -/
theorem slt_of_not_lt {a b c : ByteArray} (h : slt b a = false) (k : slt b c = true) : slt a c = true := by
  cases hab : slt a b with
  | true => exact slt_trans hab k
  | false => rw [slt_total hab h]; exact k

theorem slt_of_lt_not {a b c : ByteArray} (h : slt a b = true) (k : slt c b = false) : slt a c = true := by
  cases hbc : slt b c with
  | true => exact slt_trans h hbc
  | false => rw [slt_total k hbc]; exact h

/-- Strictly increasing. -/
def Incr (l : List ByteArray) : Prop := l.Pairwise fun a b => slt a b = true

/-- The invariant of a key set's chunks. -/
def OK (css : List (List ByteArray)) : Prop := (∀ c ∈ css, 0 < c.length ∧ c.length ≤ 128) ∧ Incr css.flatten

theorem incr_snoc {l : List ByteArray} {x : ByteArray} (h : Incr l) (k : l = [] ∨ slt (l.getLastD ByteArray.empty) x = true) : Incr (l ++ [x]) := by
  unfold Incr at *
  rw [List.pairwise_append]
  refine ⟨h, by simp, fun a ha b hb => ?_⟩
  simp at hb; subst hb
  rcases k with rfl | k
  · simp at ha
  · rcases List.eq_nil_or_concat l with rfl | ⟨m, z, rfl⟩
    · simp at ha
    · simp only [List.concat_eq_append] at *
      rw [show (m ++ [z]).getLastD ByteArray.empty = z by simp] at k
      rw [List.mem_append] at ha
      rcases ha with ha | ha
      · exact slt_trans ((List.pairwise_append.1 h).2.2 a ha z (by simp)) k
      · simp at ha; subst ha; exact k

theorem incr_last {l : List ByteArray} {x : ByteArray} {r : List ByteArray} (h : Incr (l ++ x :: r)) : l = [] ∨ slt (l.getLastD ByteArray.empty) x = true := by
  rcases List.eq_nil_or_concat l with rfl | ⟨m, z, rfl⟩
  · exact .inl rfl
  · right
    simp only [List.concat_eq_append] at *
    rw [show (m ++ [z]).getLastD ByteArray.empty = z by simp]
    exact (List.pairwise_append.1 h).2.2 z (by simp) x (by simp)

end Go.Proofs.Qxb6617214a
