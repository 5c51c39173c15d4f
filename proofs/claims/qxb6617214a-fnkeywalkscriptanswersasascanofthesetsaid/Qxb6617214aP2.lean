/-
  PLAIN: where a key lies among the chunks; no program here.
-/
import Derived.Test.Qxb6617214aPlain
namespace Go.Proofs.Qxb6617214a

theorem tw_le {α : Type} (p : α → Bool) (l : List α) : (l.takeWhile p).length ≤ l.length := (List.takeWhile_sublist p).length_le
theorem tw_lt {α : Type} (p : α → Bool) (d : α) : ∀ (l : List α) (t : Nat), t < (l.takeWhile p).length → p (l.getD t d) = true
  | [], t, h => by simp at h
  | x :: r, t, h => by
    rw [List.takeWhile_cons] at h
    cases hx : p x with
    | false => simp [hx] at h
    | true =>
      rw [if_pos hx] at h
      cases t with
      | zero => simpa using hx
      | succ t => simpa using tw_lt p d r t (by simpa using h)
theorem tw_at {α : Type} (p : α → Bool) (d : α) : ∀ (l : List α), (l.takeWhile p).length < l.length → p (l.getD (l.takeWhile p).length d) = false
  | [], h => by simp at h
  | x :: r, h => by
    rw [List.takeWhile_cons] at h ⊢
    cases hx : p x with
    | false => simp [hx]
    | true =>
      rw [if_pos hx] at h
      simpa [hx] using tw_at p d r (by simpa using h)
theorem tw_ge {α : Type} (p : α → Bool) (d : α) (l : List α) (mono : ∀ i j, i ≤ j → j < l.length → p (l.getD j d) = true → p (l.getD i d) = true) (t : Nat) (h : (l.takeWhile p).length ≤ t) (ht : t < l.length) : p (l.getD t d) = false := by
  cases hp : p (l.getD t d) with
  | false => rfl
  | true =>
    have := mono _ t h ht hp
    rw [tw_at p d l (by omega)] at this
    cases this

theorem getD_mem {α : Type} {l : List α} {d : α} {i : Nat} (h : i < l.length) : l.getD i d ∈ l := by
  rw [List.getD_eq_getElem?_getD, List.getElem?_eq_getElem h]; simp

theorem incr_lt {l : List ByteArray} (h : Incr l) {i j : Nat} (hij : i < j) (hj : j < l.length) : slt (l.getD i ByteArray.empty) (l.getD j ByteArray.empty) = true := by
  have := List.pairwise_iff_getElem.1 h i j (by omega) hj hij
  simpa [List.getD_eq_getElem?_getD, hj, show i < l.length by omega] using this

theorem incr_mono {l : List ByteArray} (h : Incr l) (k : ByteArray) (i j : Nat) (hij : i ≤ j) (hj : j < l.length) (hp : slt (l.getD j ByteArray.empty) k = true) : slt (l.getD i ByteArray.empty) k = true := by
  by_cases e : i = j
  · subst e; exact hp
  · exact slt_trans (incr_lt h (by omega) hj) hp

/-- The last string of a chunk. -/
def lastS (c : List ByteArray) : ByteArray := c.getD (c.length - 1) ByteArray.empty
theorem lastS_mem {c : List ByteArray} (h : 0 < c.length) : lastS c ∈ c := getD_mem (by omega)

/-- Every chunk holds a string, and the strings are strictly increasing. -/
def Fine (css : List (List ByteArray)) : Prop := (∀ c ∈ css, 0 < c.length) ∧ Incr css.flatten
theorem OK.fine {css : List (List ByteArray)} (h : OK css) : Fine css := ⟨fun c hc => (h.1 c hc).1, h.2⟩

theorem fine_chunk {css : List (List ByteArray)} (h : Fine css) {c : List ByteArray} (hc : c ∈ css) : Incr c := (List.pairwise_flatten.1 h.2).1 c hc
theorem fine_two {css : List (List ByteArray)} (h : Fine css) {i j : Nat} (hij : i < j) (hj : j < css.length) {x y : ByteArray} (hx : x ∈ css.getD i []) (hy : y ∈ css.getD j []) : slt x y = true := by
  have := List.pairwise_iff_getElem.1 (List.pairwise_flatten.1 h.2).2 i j (by omega) hj hij
  exact this x (by simpa [List.getD_eq_getElem?_getD, show i < css.length by omega] using hx) y (by simpa [List.getD_eq_getElem?_getD, hj] using hy)
theorem fine_last_mono {css : List (List ByteArray)} (h : Fine css) (k : ByteArray) (i j : Nat) (hij : i ≤ j) (hj : j < css.length) (hp : slt (lastS (css.getD j [])) k = true) : slt (lastS (css.getD i [])) k = true := by
  by_cases e : i = j
  · subst e; exact hp
  · exact slt_trans (fine_two h (by omega) hj (lastS_mem (h.1 _ (getD_mem (by omega)))) (lastS_mem (h.1 _ (getD_mem hj)))) hp

/-- The chunk in which k is, or would go. -/
def cidx (css : List (List ByteArray)) (k : ByteArray) : Nat := (css.takeWhile fun c => slt (lastS c) k).length
/-- The place in a chunk. -/
def sidx (ss : List ByteArray) (k : ByteArray) : Nat := (ss.takeWhile fun x => slt x k).length
def isAt (ss : List ByteArray) (k : ByteArray) : Bool := decide (sidx ss k < ss.length ∧ ss.getD (sidx ss k) ByteArray.empty = k)

theorem cidx_le (css : List (List ByteArray)) (k : ByteArray) : cidx css k ≤ css.length := tw_le _ _
theorem sidx_le (ss : List ByteArray) (k : ByteArray) : sidx ss k ≤ ss.length := tw_le _ _
theorem cidx_lt (css : List (List ByteArray)) (k : ByteArray) (t : Nat) (h : t < cidx css k) : slt (lastS (css.getD t [])) k = true := tw_lt (fun c => slt (lastS c) k) [] css t h
theorem cidx_ge {css : List (List ByteArray)} (hf : Fine css) (k : ByteArray) (t : Nat) (h : cidx css k ≤ t) (ht : t < css.length) : slt (lastS (css.getD t [])) k = false :=
  tw_ge (fun c => slt (lastS c) k) [] css (fun i j => fine_last_mono hf k i j) t h ht
theorem sidx_lt (ss : List ByteArray) (k : ByteArray) (t : Nat) (h : t < sidx ss k) : slt (ss.getD t ByteArray.empty) k = true := tw_lt (fun x => slt x k) ByteArray.empty ss t h
theorem sidx_ge {ss : List ByteArray} (hf : Incr ss) (k : ByteArray) (t : Nat) (h : sidx ss k ≤ t) (ht : t < ss.length) : slt (ss.getD t ByteArray.empty) k = false :=
  tw_ge (fun x => slt x k) ByteArray.empty ss (fun i j => incr_mono hf k i j) t h ht
/-- In the chunk that was found, k's place is no further than its last string. -/
theorem sidx_in {css : List (List ByteArray)} (hf : Fine css) (k : ByteArray) (h : cidx css k < css.length) : sidx (css.getD (cidx css k) []) k < (css.getD (cidx css k) []).length := by
  have h1 := cidx_ge hf k _ (Nat.le_refl _) h
  have hp := hf.1 _ (getD_mem (d := []) h)
  apply Nat.lt_of_not_le
  intro hle
  have := sidx_lt (css.getD (cidx css k) []) k ((css.getD (cidx css k) []).length - 1) (by omega)
  rw [show (css.getD (cidx css k) []).getD _ ByteArray.empty = lastS (css.getD (cidx css k) []) from rfl, h1] at this
  cases this
end Go.Proofs.Qxb6617214a
