/-
  A KEY SET THAT THE CALL OWNS: its blocks, and what writes into them leave of it.
-/
import Derived.Test.Qxb6617214aU
import Derived.Test.Qxb6617214aT2
import Derived.Test.Qxb6617214aL
namespace Go.Proofs.Qxb6617214a
open Go.RowKit Go.Lib
set_option linter.unusedVariables false

/-- Of the blocks that were there, those outside T are as they were. -/
structure Kp (T : Nat → Prop) (w w' : World) : Prop where
  os : w'.os = w.os
  tape : w'.tape = w.tape
  output : w'.output = w.output
  size : w.heap.size ≤ w'.heap.size
  block : ∀ b, b < w.heap.size → ¬ T b → w'.heap[b]? = w.heap[b]?

section
variable {T T' : Nat → Prop} {w w1 w2 : World}
theorem Kp.refl (T : Nat → Prop) (w : World) : Kp T w w := ⟨rfl, rfl, rfl, Nat.le_refl _, fun _ _ _ => rfl⟩
theorem Kp.trans (h : Kp T w w1) (k : Kp T' w1 w2) (hT : ∀ b, b < w.heap.size → T' b → T b) : Kp T w w2 :=
  ⟨k.os.trans h.os, k.tape.trans h.tape, k.output.trans h.output, Nat.le_trans h.size k.size, fun b hb hn => (k.block b (Nat.lt_of_lt_of_le hb h.size) (fun hh => hn (hT b hb hh))).trans (h.block b hb hn)⟩
theorem Kp.mono (h : Kp T w w1) (hT : ∀ b, b < w.heap.size → T b → T' b) : Kp T' w w1 := ⟨h.os, h.tape, h.output, h.size, fun b hb hn => h.block b hb (fun hh => hn (hT b hb hh))⟩
theorem Kp.grown {g : Nat} (h : w.grownBy w1 (some g)) : Kp (· = g) w w1 := ⟨h.os, h.tape, h.output, h.size, fun b hb hn => h.block b hb (fun e => hn (by cases e; rfl))⟩
theorem Kp.below (h : Below w.heap.size w w1) : Kp (fun _ => False) w w1 := ⟨h.os, h.tape, h.output, h.size, fun b hb _ => h.block b hb⟩
theorem Kp.setCell (w : World) (g i : Nat) (v : Value) : Kp (· = g) w (w.setCell ⟨g, i, none⟩ v) := Kp.grown (gb_set (World.grownBy.refl w _) i v)
theorem Kp.alloc (w : World) (o : Obj) : Kp (fun _ => False) w (w.alloc o) := Kp.below ((Below.refl _ _).alloc (Nat.le_refl _) o)
theorem Kp.drewN (w : World) (q : Nat) : Kp (fun _ => False) w (w.drewN q) := Kp.below (below_drewN' (Below.refl _ _) q)
theorem Kp.drew (w : World) : Kp (fun _ => False) w w.drew := Kp.below (Below.refl _ _).drew
theorem RowV.kp {g t cap : Nat} {vals : List Value} (h : RowV w g t cap vals) (k : Kp T w w1) (hn : ¬ T g) : RowV w1 g t cap vals := h.of_block (k.block g h.lt hn)
theorem Kp.to_below {B : Nat} (k : Kp T w w1) (hT : ∀ b, b < w.heap.size → b < B → ¬ T b) (hB : B ≤ w.heap.size) : Below B w w1 := ⟨k.os, k.tape, k.output, k.size, fun b hb => k.block b (by omega) (hT b (by omega) hb)⟩
end

/-- One chunk: its block, its capacity, its strings. -/
structure Ent where
  g : Nat
  c : Nat
  ss : List ByteArray
def entVal (e : Ent) : Value := .slice (some ⟨e.g, 0, none⟩) e.ss.length e.c
def strVals (ss : List ByteArray) : List Value := ss.map .string
def cssOf (es : List Ent) : List (List ByteArray) := es.map Ent.ss
theorem strVals_len (ss : List ByteArray) : (strVals ss).length = ss.length := by simp [strVals]
theorem strVals_one (ss : List ByteArray) : ∀ u ∈ strVals ss, u.oneCell' = true := by
  intro u hu; obtain ⟨x, _, rfl⟩ := List.mem_map.1 hu; rfl
theorem entVals_one (es : List Ent) : ∀ u ∈ es.map entVal, u.oneCell' = true := by
  intro u hu; obtain ⟨x, _, rfl⟩ := List.mem_map.1 hu; rfl
theorem strVals_ins (ss : List ByteArray) (i : Nat) (k : ByteArray) : ins (strVals ss) i (.string k) = strVals (ins ss i k) := by simp [ins, strVals]
theorem strVals_erase (ss : List ByteArray) (i : Nat) : (strVals ss).eraseIdx i = strVals (ss.eraseIdx i) := by simp [eraseIdx_eq, strVals]
theorem entVals_ins (es : List Ent) (i : Nat) (e : Ent) : ins (es.map entVal) i (entVal e) = (ins es i e).map entVal := by simp [ins]
theorem entVals_erase (es : List Ent) (i : Nat) : (es.map entVal).eraseIdx i = (es.eraseIdx i).map entVal := by simp [eraseIdx_eq]

/-- The set: its struct in block sb, its array in block ab, a row for each chunk: all apart, all inside F. -/
structure Own (F : Nat → Prop) (w : World) (sb : Nat) (es : List Ent) (ch : Int) (a : Option Addr) (cap : Nat) : Prop where
  sblk : w.heap[sb]? = some (.cells #[.slice a es.length cap, .int .u64 ch] 54 (0, 0))
  fsb : F sb
  arr : (a = none ∧ es = [] ∧ cap = 0) ∨ ∃ ab, a = some ⟨ab, 0, none⟩ ∧ RowV w ab 29 cap (es.map entVal) ∧ ab ≠ sb ∧ F ab ∧ ∀ e ∈ es, e.g ≠ ab
  rows : ∀ e ∈ es, RowV w e.g 9 e.c (strVals e.ss) ∧ e.g ≠ sb ∧ F e.g
  nodup : (es.map Ent.g).Nodup
  ok : OK (cssOf es)

section
variable {F : Nat → Prop} {w w1 : World} {sb : Nat} {es : List Ent} {ch : Int} {a : Option Addr} {cap : Nat}

theorem Own.lt (h : Own F w sb es ch a cap) : sb < w.heap.size := (Array.getElem?_eq_some_iff.1 h.sblk).1
theorem Own.c0 (h : Own F w sb es ch a cap) : w.cell? ⟨sb, 0, none⟩ = some (.slice a es.length cap) := by simp [World.cell?, h.sblk]
theorem Own.c1 (h : Own F w sb es ch a cap) : w.cell? ⟨sb, 1, none⟩ = some (.int .u64 ch) := by simp [World.cell?, h.sblk]
theorem Own.frozen (h : Own F w sb es ch a cap) (i : Nat) : w.frozen? ⟨sb, i, none⟩ = false := by simp [World.frozen?, h.sblk]

/-- Nothing of F has turned: the set stands as it stood. -/
theorem Own.keep (h : Own F w sb es ch a cap) (hk : ∀ b, b < w.heap.size → F b → w1.heap[b]? = w.heap[b]?) : Own F w1 sb es ch a cap := by
  refine ⟨(hk sb h.lt h.fsb).trans h.sblk, h.fsb, ?_, fun e he => ?_, h.nodup, h.ok⟩
  · rcases h.arr with h0 | ⟨ab, ha, hr, h1, h2, h3⟩
    · exact .inl h0
    · exact .inr ⟨ab, ha, hr.of_block (hk ab hr.lt h2), h1, h2, h3⟩
  · obtain ⟨hr, h1, h2⟩ := h.rows e he
    exact ⟨hr.of_block (hk e.g hr.lt h2), h1, h2⟩
theorem Own.kp {T : Nat → Prop} (h : Own F w sb es ch a cap) (k : Kp T w w1) (hT : ∀ b, b < w.heap.size → F b → ¬ T b) : Own F w1 sb es ch a cap :=
  h.keep (fun b hb hF => k.block b hb (hT b hb hF))
theorem Own.wide {F' : Nat → Prop} (h : Own F w sb es ch a cap) (hF : ∀ b, b < w.heap.size → F b → F' b) : Own F' w sb es ch a cap := by
  refine ⟨h.sblk, hF _ h.lt h.fsb, ?_, fun e he => ?_, h.nodup, h.ok⟩
  · rcases h.arr with h0 | ⟨ab, ha, hr, h1, h2, h3⟩
    · exact .inl h0
    · exact .inr ⟨ab, ha, hr, h1, hF _ hr.lt h2, h3⟩
  · obtain ⟨hr, h1, h2⟩ := h.rows e he
    exact ⟨hr, h1, hF _ hr.lt h2⟩
/-- The count turned. -/
theorem Own.count (h : Own F w sb es ch a cap) (ch' : Int) : Own F (w.setCell ⟨sb, 1, none⟩ (.int .u64 ch')) sb es ch' a cap := by
  have k := Kp.setCell w sb 1 (.int .u64 ch')
  refine ⟨?_, h.fsb, ?_, fun e he => ?_, h.nodup, h.ok⟩
  · rw [blk_set h.sblk]; simp
  · rcases h.arr with h0 | ⟨ab, ha, hr, h1, h2, h3⟩
    · exact .inl h0
    · exact .inr ⟨ab, ha, hr.kp k h1, h1, h2, h3⟩
  · obtain ⟨hr, h1, h2⟩ := h.rows e he
    exact ⟨hr.kp k h1, h1, h2⟩

theorem cssOf_getD (es : List Ent) (i : Nat) (h : i < es.length) : (cssOf es).getD i [] = es[i].ss := by
  simp [cssOf, List.getD_eq_getElem?_getD, h]
theorem cssOf_len (es : List Ent) : (cssOf es).length = es.length := by simp [cssOf]

theorem Own.len_flat (h : Own F w sb es ch a cap) : es.length ≤ (cssOf es).flatten.length := by
  have h1 := h.ok.1
  rw [← cssOf_len es]
  generalize cssOf es = css at *
  induction css with
  | nil => simp
  | cons c r ih =>
    have := ih (fun c hc => h1 c (by simp [hc]))
    have h2 := h1 c (by simp)
    simp only [List.length_cons, List.flatten_cons, List.length_append]
    omega

/-- What is read of it. -/
theorem Own.view (h : Own F w sb es ch a cap) (hb : (cssOf es).flatten.length ≤ 1073741824) : View w sb a cap (cssOf es) ch := by
  have hlf := h.len_flat
  refine ⟨by rw [cssOf_len]; exact h.c0, h.c1, ⟨by rw [cssOf_len]; omega, fun hp => ?_⟩, h.ok.fine, by rw [cssOf_len]; omega, fun c hc => by have := (h.ok.1 c hc).2; omega⟩
  rcases h.arr with ⟨_, h0, _⟩ | ⟨ab, ha, hr, h1, h2, h3⟩
  · subst h0; simp [cssOf] at hp
  · refine ⟨ab, 0, ha, fun i hi => ?_⟩
    rw [cssOf_len] at hi
    rw [cssOf_getD es i hi, Nat.zero_add]
    obtain ⟨hrow, _, _⟩ := h.rows es[i] (List.getElem_mem hi)
    have hl := (h.ok.1 es[i].ss (by simp [cssOf]; exact ⟨_, List.getElem_mem hi, rfl⟩))
    refine ⟨some ⟨es[i].g, 0, none⟩, es[i].c, hr.cell i (entVal es[i]) (by simp [hi]), ?_, by omega, fun _ => ⟨es[i].g, 0, rfl, fun j hj => ?_⟩⟩
    · have := hrow.le; rw [strVals_len] at this; exact this
    · rw [Nat.zero_add]
      exact hrow.cell j _ (by simp [strVals, List.getD_eq_getElem?_getD, hj])
end
end Go.Proofs.Qxb6617214a
