/-
  Law 6 (FnKeyWalkFromAgreesWithSetFromAtAnyTrueState): what its walk leans on.
-/
import Derived.Test.Qxb6617214aK
namespace Go.Proofs.Qxb6617214a
open Go.RowKit Go.Deep
set_option linter.unusedVariables false

/-- Every cell that was there holds what it held. -/
def Keep (w w' : World) : Prop := ∀ x v, w.cell? x = some v → w'.cell? x = some v
theorem Keep.trans {a b c : World} (h : Keep a b) (k : Keep b c) : Keep a c := fun x v hx => k x v (h x v hx)
theorem keep_below {w w' : World} (h : Below w.heap.size w w') : Keep w w' := fun x v hx => (h.cell (World.block_lt_of_cell? w x hx)).trans hx
theorem keep_alloc (w : World) (o : Obj) : Keep w (w.alloc o) := keep_below ((Below.refl _ _).alloc (Nat.le_refl _) o)
theorem keep_drewN (w : World) (q : Nat) : Keep w (w.drewN q) := fun x v hx => (World.Alike.cell (World.drewN_alike w q) x).trans hx
theorem only_cell {wb : Nat} {w w' : World} (h : Only wb w w') {x : Addr} (hx : x.block ≠ wb) : w'.cell? x = w.cell? x := World.cell?_of_block (w := w) (h.block _ hx)

theorem StrsA.keep {w w' : World} {a : Option Addr} {ss : List ByteArray} (h : StrsA w a ss) (hk : Keep w w') : StrsA w' a ss := strsA_same h (fun b off v hv => hk _ _ hv)
theorem ChunksA.keep {w w' : World} {a : Option Addr} {css : List (List ByteArray)} (h : ChunksA w a css) (hk : Keep w w') : ChunksA w' a css := by
  refine ⟨h.1, fun hp => ?_⟩
  obtain ⟨b, off, ha, h2⟩ := h.2 hp
  refine ⟨b, off, ha, fun i hi => ?_⟩
  obtain ⟨ai, ci, h3, h4, h5⟩ := h2 i hi
  exact ⟨ai, ci, hk _ _ h3, h4, h5.keep hk⟩
theorem View.keep {w w' : World} {sb : Nat} {a : Option Addr} {cap : Nat} {css : List (List ByteArray)} {ch : Int} (h : View w sb a cap css ch) (hk : Keep w w') : View w' sb a cap css ch :=
  ⟨hk _ _ h.c0, hk _ _ h.c1, h.chunks.keep hk, h.fine, h.len, h.lens⟩

theorem chunksA_of_cl {B : Nat} {w w' : World} {css : List (List ByteArray)} (h : Cl B w w' css css.length) (hl : css.length ≤ 1073741824) (ht : tot css ≤ 1073741824) : ChunksA w' (some ⟨B, 0, none⟩) css := by
  refine ⟨by omega, fun _ => ⟨B, 0, rfl, fun i hi => ?_⟩⟩
  have h1 := h.arr.cell hi
  have h2 := flat_len (css := css) hi
  have hlen : (css.getD i []).length ≤ 1073741824 := by unfold tot at ht; omega
  refine ⟨some ⟨B + 1 + i, 0, none⟩, (css.getD i []).length, ?_, Nat.le_refl _, ?_, fun _ => ⟨B + 1 + i, 0, rfl, fun j hj => ?_⟩⟩
  · rw [Nat.zero_add, h1]; unfold chv; rw [if_pos hi]
  · omega
  · rw [Nat.zero_add, (h.row i hi).cell hj]; rfl

/-- What came back from cloneChunks, in one form. -/
theorem clV_form {B : Nat} {w w' : World} {v : Value} {css : List (List ByteArray)} (h : ClV B w w' v css) (hB : w.heap.size = B) (hl : css.length ≤ 1073741824) (ht : tot css ≤ 1073741824) :
    ∃ a, v = .slice a css.length css.length ∧ ChunksA w' a css ∧ Below B w w' ∧ B ≤ w'.heap.size := by
  rcases h with ⟨rfl, rfl, rfl⟩ | ⟨rfl, h⟩
  · exact ⟨none, rfl, ⟨by simp, fun h => by simp at h⟩, Below.refl _ _, by omega⟩
  · exact ⟨_, rfl, chunksA_of_cl h hl ht, h.bel, by rw [h.size]; omega⟩

theorem strsA_of_row {w : World} {b n : Nat} {ss : List ByteArray} (h : w.rowIs b 9 n (full ss)) (hn : n = ss.length) (hl : ss.length ≤ 1073741824) : StrsA w (some ⟨b, 0, none⟩) ss :=
  ⟨by omega, fun _ => ⟨b, 0, rfl, fun j hj => by rw [Nat.zero_add, h.cell (by omega)]; rfl⟩⟩

theorem view_made {w : World} {a : Option Addr} {css : List (List ByteArray)} {ch : Int} (h : ChunksA w a css) (hok : Fine css) (hl : css.length ≤ 1073741824) (ht : tot css ≤ 1073741824) :
    View (w.alloc (.cells #[.slice a css.length css.length, .int .u64 ch] 54)) w.heap.size a css.length css ch := by
  refine ⟨?_, ?_, h.keep (keep_alloc _ _), hok, hl, fun c hc => ?_⟩
  · simp only [World.cell?, heap_alloc_new w (.cells #[.slice a css.length css.length, .int .u64 ch] 54)]; rfl
  · simp only [World.cell?, heap_alloc_new w (.cells #[.slice a css.length css.length, .int .u64 ch] 54)]; rfl
  · have := (List.sublist_flatten_of_mem hc).length_le
    unfold tot at ht; omega
theorem walk_made (w : World) (p : Option Addr) (ch : Int) (wat key : ByteArray) (past found : Bool) : WalkAt (w.alloc (.cells #[.pointer p, .int .u64 ch, .string wat, .bool past, .bool found, .string key] 57)) w.heap.size p ch wat past found key :=
  ⟨heap_alloc_new w _⟩

theorem RetS.xy {o : Option ByteArray} {e : Ending} {x : ByteArray} {y : Bool} (h : RetS o e) (hx : o.getD ByteArray.empty = x) (hy : o.isSome = y) : e = .returned (.tuple #[.string x, .bool y]) := by rw [← hx, ← hy]; exact h
theorem beq_l {x y : ByteArray} (h : x = y) : (x.toList == y.toList) = true := by rw [h]; simp
theorem bne_l {x y : ByteArray} (h : ¬ x = y) : (x.toList == y.toList) = false := by rw [beq_eq_false_iff_ne]; exact fun e => h (toList_inj e)

theorem Only.below {wb B : Nat} {w w' : World} (h : Only wb w w') (hB : B ≤ wb) : Below B w w' := ⟨h.os, h.tape, h.output, by rw [h.size]; exact Nat.le_refl _, fun k hk => h.block k (by omega)⟩
theorem below_drewN' {B : Nat} {w w' : World} (h : Below B w w') (q : Nat) : Below B w (w'.drewN q) :=
  ⟨(World.drewN_alike w' q).2.1.trans h.os, (drewN_tape w' q).trans h.tape, (World.drewN_alike w' q).2.2.trans h.output, by rw [drewN_heap]; exact h.size, fun k hk => by rw [drewN_heap]; exact h.block k hk⟩
end Go.Proofs.Qxb6617214a
