/-
  ROWS THAT THE CALL OWNS: their cells, and what stores and new blocks do to them.
-/
import Derived.Test.Qxb6617214aE
import Derived.Test.Qxb6617214aP5
import Derived.Shelf.Spec.SlicesInsertGrow
namespace Go.Proofs.Qxb6617214a
open Go.RowKit Go.Lib
set_option linter.unusedVariables false

theorem gb_trans {a w w' : World} {row : Option Nat} (h : a.grownBy w row) (k : w.grownBy w' row) : a.grownBy w' row :=
  ⟨k.os.trans h.os, k.tape.trans h.tape, k.output.trans h.output, Nat.le_trans h.size k.size, fun i hi hne => (k.block i (Nat.lt_of_lt_of_le hi h.size) hne).trans (h.block i hi hne)⟩
theorem gb_set {a w : World} {b : Nat} (h : a.grownBy w (some b)) (i : Nat) (v : Value) : a.grownBy (w.setCell ⟨b, i, none⟩ v) (some b) :=
  gb_trans h ⟨rfl, rfl, rfl, by simp [World.setCell], fun k _ hne => Below.heap_setCell _ _ _ _ (fun e => hne (by rw [e]))⟩

/-- Block g is a row of cap cells of type t, none frozen; the first of them hold vals. -/
structure RowV (w : World) (g : Nat) (t : TypeId) (cap : Nat) (vals : List Value) : Prop where
  shape : ∃ cur : Array Value, w.heap[g]? = some (.cells cur t (0, 0)) ∧ cur.size = cap
  le : vals.length ≤ cap
  cap_le : cap ≤ 9223372036854775807
  cell : ∀ j v, vals[j]? = some v → w.cell? ⟨g, j, none⟩ = some v

section
variable {w w' : World} {g : Nat} {t : TypeId} {cap : Nat} {vals : List Value}
theorem RowV.isSome (h : RowV w g t cap vals) (j : Nat) (hj : j < cap) : (w.cell? ⟨g, j, none⟩).isSome = true := by
  obtain ⟨cur, hb, hs⟩ := h.shape
  simp [World.cell?, hb, hs, hj]
theorem RowV.frozen (h : RowV w g t cap vals) (j : Nat) : w.frozen? ⟨g, j, none⟩ = false := by
  obtain ⟨cur, hb, hs⟩ := h.shape
  simp [World.frozen?, hb]
theorem RowV.shape? (h : RowV w g t cap vals) : w.shape? g = some (t, cap) := by
  obtain ⟨cur, hb, hs⟩ := h.shape
  simp [World.shape?, hb, hs]
theorem RowV.lt (h : RowV w g t cap vals) : g < w.heap.size := by
  obtain ⟨cur, hb, hs⟩ := h.shape
  exact (Array.getElem?_eq_some_iff.1 hb).1
theorem RowV.of_block (h : RowV w g t cap vals) (e : w'.heap[g]? = w.heap[g]?) : RowV w' g t cap vals := by
  obtain ⟨cur, hb, hs⟩ := h.shape
  exact ⟨⟨cur, e.trans hb, hs⟩, h.le, h.cap_le, fun j v hj => (World.cell?_of_block (w := w) (a := ⟨g, j, none⟩) e).trans (h.cell j v hj)⟩
theorem RowV.grown {row : Option Nat} (h : RowV w g t cap vals) (hg : w.grownBy w' row) (hne : some g ≠ row) : RowV w' g t cap vals := h.of_block (hg.block g h.lt hne)
theorem RowV.sub (h : RowV w g t cap vals) {l : List Value} (hl : ∀ (j : Nat) v, l[j]? = some v → vals[j]? = some v) (hle : l.length ≤ cap) : RowV w g t cap l := ⟨h.shape, hle, h.cap_le, fun j v hj => h.cell j v (hl j v hj)⟩

theorem shape_set (h : ∃ cur : Array Value, w.heap[g]? = some (.cells cur t (0, 0)) ∧ cur.size = cap) (i : Nat) (v : Value) : ∃ cur : Array Value, (w.setCell ⟨g, i, none⟩ v).heap[g]? = some (.cells cur t (0, 0)) ∧ cur.size = cap := by
  obtain ⟨cur, hb, hs⟩ := h
  exact ⟨cur.setIfInBounds i v, by simp [World.setCell, Array.getElem?_modify, hb], by simpa using hs⟩
theorem shape_sets : ∀ (vs : List Value) (o : Nat) {w : World}, (∃ cur : Array Value, w.heap[g]? = some (.cells cur t (0, 0)) ∧ cur.size = cap) → ∃ cur : Array Value, (w.setCells g o vs).heap[g]? = some (.cells cur t (0, 0)) ∧ cur.size = cap
  | [], _, _, h => h
  | v :: r, o, _, h => shape_sets r (o + 1) (shape_set h o v)
theorem grown_sets (row : Nat) : ∀ (vs : List Value) (o : Nat) {w w0 : World}, w0.grownBy w (some row) → w0.grownBy (w.setCells row o vs) (some row)
  | [], _, _, _, h => h
  | v :: r, o, _, _, h => grown_sets row r (o + 1) (gb_set h o v)
theorem grown_drew {row : Option Nat} {w0 : World} (h : w0.grownBy w row) : w0.grownBy w.drew row := ⟨h.os, h.tape, h.output, h.size, h.block⟩
theorem cells_in (h : ∃ cur : Array Value, w.heap[g]? = some (.cells cur t (0, 0)) ∧ cur.size = cap) (o : Nat) (vs : List Value) (hb : o + vs.length ≤ cap) (j : Nat) (v : Value) (hj : vs[j]? = some v) : (w.setCells g o vs).cell? ⟨g, o + j, none⟩ = some v := by
  obtain ⟨cur, hbk, hs⟩ := h
  obtain ⟨hjl, rfl⟩ := List.getElem?_eq_some_iff.1 hj
  exact World.cell?_setCells_in g vs o w (fun i hi => by simp [World.cell?, hbk, hs]; omega) j hjl
theorem cells_out (o : Nat) (vs : List Value) (j : Nat) (hj : j < o ∨ o + vs.length ≤ j) : (w.setCells g o vs).cell? ⟨g, j, none⟩ = w.cell? ⟨g, j, none⟩ :=
  World.cell?_setCells_out g vs o w _ (fun _ _ => hj)

/-- A store of a new value into a row: its first cells, one of them turned. -/
theorem RowV.setAt (h : RowV w g t cap vals) (i : Nat) (v : Value) (hi : i < vals.length) : RowV (w.setCell ⟨g, i, none⟩ v) g t cap (vals.set i v) := by
  refine ⟨shape_set h.shape i v, by simpa using h.le, h.cap_le, fun j u hj => ?_⟩
  have hh := cells_in (w := w) h.shape i [v] (by have := h.le; simp; omega) 0 v rfl
  by_cases e : j = i
  · subst e
    rw [List.getElem?_set_self hi] at hj
    cases hj
    exact hh
  · rw [List.getElem?_set_ne (fun x => e x.symm)] at hj
    have ho := cells_out (w := w) (g := g) i [v] j (by simp; omega)
    exact ho.trans (h.cell j u hj)
end

theorem ins_get {α : Type} (l : List α) (i j : Nat) (x : α) (hi : i ≤ l.length) : (ins l i x)[j]? = if j < i then l[j]? else if j = i then some x else l[j - 1]? := by
  unfold ins
  by_cases h : j < i
  · rw [if_pos h, List.getElem?_append_left (by rw [List.length_take]; omega), List.getElem?_take, if_pos h]
  · rw [if_neg h, List.getElem?_append_right (by rw [List.length_take]; omega), List.length_take, show j - min i l.length = j - i by omega]
    by_cases e : j = i
    · subst e; simp
    · rw [if_neg e]
      obtain ⟨m, hm⟩ : ∃ m, j - i = m + 1 := ⟨j - i - 1, by omega⟩
      rw [hm, List.getElem?_cons_succ, List.getElem?_drop, show i + m = j - 1 by omega]
end Go.Proofs.Qxb6617214a
