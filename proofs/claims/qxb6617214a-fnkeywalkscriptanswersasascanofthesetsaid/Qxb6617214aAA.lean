/-
  The shims ZZKeySetAdd (15) and ZZKeySetRemove (16); the set that the laws make is their own.
-/
import Derived.Test.Qxb6617214aZ
import Derived.Test.Qxb6617214aY
import Derived.Test.Qxb6617214aSD
namespace Go.Proofs.Qxb6617214a
open Go.RowKit Go.Lib Go.Deep
set_option linter.unusedVariables false

section
variable {F : Nat → Prop} {w : World} {sb : Nat} {es : List Ent} {ch : Int} {a : Option Addr} {cap : Nat}
set_option maxHeartbeats 400000 in
theorem zzAddKey_any (h : Own F w sb es ch a cap) (hb : (cssOf es).flatten.length ≤ 1073741000) (k : ByteArray) :
    Calls Try.prog 15 #[.pointer (some ⟨sb, 0, none⟩), .string k] w fun e w' => e = .returned (.tuple #[]) ∧ Added F w w' sb es ch k := by
  have HS : Hid _ := fun (_ : True) => add_any h hb k
  clear h
  go_enter Try.func15, Try.ntmps15
  go_wp2_with (go_at_call 32; refine (HS.out trivial).mono ?_; rintro e w' ⟨rfl, hA⟩)
  go_end0
  exact ⟨rfl, hA⟩
set_option maxHeartbeats 400000 in
theorem zzRemoveKey_any (h : Own F w sb es ch a cap) (hb : (cssOf es).flatten.length ≤ 1073741000) (k : ByteArray) :
    Calls Try.prog 16 #[.pointer (some ⟨sb, 0, none⟩), .string k] w fun e w' => e = .returned (.tuple #[]) ∧ Removed F w w' sb es ch k := by
  have HS : Hid _ := fun (_ : True) => remove_any h hb k
  clear h
  go_enter Try.func16, Try.ntmps16
  go_wp2_with (go_at_call 33; refine (HS.out trivial).mono ?_; rintro e w' ⟨rfl, hA⟩)
  go_end0
  exact ⟨rfl, hA⟩
end

/-- The chunks as cloneChunks laid them. -/
def madeEs (B : Nat) (css : List (List ByteArray)) : List Ent := (List.range css.length).map fun i => ⟨B + 1 + i, (css.getD i []).length, css.getD i []⟩
theorem madeEs_len (B : Nat) (css : List (List ByteArray)) : (madeEs B css).length = css.length := by simp [madeEs]
theorem madeEs_css (B : Nat) (css : List (List ByteArray)) : cssOf (madeEs B css) = css := by
  apply List.ext_getElem
  · simp [cssOf, madeEs]
  · intro i h1 h2
    simp [cssOf, madeEs, List.getD_eq_getElem?_getD, h2]
theorem madeEs_g (B : Nat) (css : List (List ByteArray)) : ((madeEs B css).map Ent.g).Nodup := by
  have : (madeEs B css).map Ent.g = (List.range css.length).map (fun i => B + 1 + i) := by simp [madeEs]
  rw [this, List.Nodup, List.pairwise_iff_getElem]
  intro i j hi hj hij
  simp
  omega
theorem rowV_of_rowIs {w : World} {b t n : Nat} {f : Nat → Value} {vals : List Value} (h : w.rowIs b t n f) (hl : vals.length = n) (hv : ∀ i (hi : i < vals.length), f i = vals[i]) (hn : n ≤ 9223372036854775807) : RowV w b t n vals := by
  obtain ⟨c, hb, hs, hc⟩ := h
  refine ⟨⟨c, hb, hs⟩, by omega, hn, fun j v hj => ?_⟩
  obtain ⟨hjl, hje⟩ := List.getElem?_eq_some_iff.1 hj
  have := hc j (by omega)
  rw [hv j hjl, hje] at this
  simp [World.cell?, hb, this]

theorem own_made {F : Nat → Prop} {B : Nat} {w wc W : World} {v : Value} {css : List (List ByteArray)} (h : ClV B w wc v css) (hB : w.heap.size = B) (hW : Below wc.heap.size wc W) (hok : OK css) (hl : css.length ≤ 1073741824) (ht : tot css ≤ 1073741824) (ch : Int)
    (hF : ∀ b, B ≤ b → b < wc.heap.size → F b) (hFs : F W.heap.size) :
    ∃ a, v = .slice a css.length css.length ∧ Own F (W.alloc (.cells #[.slice a css.length css.length, .int .u64 ch] 54)) W.heap.size (madeEs B css) ch a css.length := by
  rcases h with ⟨rfl, rfl, rfl⟩ | ⟨rfl, h⟩
  · refine ⟨none, rfl, heap_alloc_new W _, hFs, .inl ⟨rfl, rfl, rfl⟩, fun e he => ?_, by simp [madeEs], hok⟩
    simp [madeEs] at he
  · have hsz := h.size
    have hks : ∀ b, b < wc.heap.size → (W.alloc (.cells #[.slice (some ⟨B, 0, none⟩) css.length css.length, .int .u64 ch] 54)).heap[b]? = wc.heap[b]? := fun b hb => by
      exact (hW.alloc hW.size _).block b hb
    have hWs := hW.size
    refine ⟨_, rfl, ?_, hFs, .inr ⟨B, rfl, ?_, by omega, hF B (Nat.le_refl _) (by omega), ?_⟩, ?_, madeEs_g B css, by rw [madeEs_css]; exact hok⟩
    · rw [madeEs_len]; exact heap_alloc_new W _
    · refine rowV_of_rowIs (h.arr.of_block (hks B (by omega))) (by simp [madeEs]) (fun i hi => ?_) (by omega)
      have hi' : i < css.length := by simpa [madeEs] using hi
      unfold chv
      rw [if_pos hi']
      simp [madeEs, entVal]
    · intro e he
      simp only [madeEs, List.mem_map, List.mem_range] at he
      obtain ⟨i, hi, rfl⟩ := he
      show B + 1 + i ≠ B; omega
    · intro e he
      simp only [madeEs, List.mem_map, List.mem_range] at he
      obtain ⟨i, hi, rfl⟩ := he
      have hli := (hok.1 (css.getD i []) (by simp [List.getD_eq_getElem?_getD, hi])).2
      refine ⟨rowV_of_rowIs ((h.row i hi).of_block (hks _ (by omega))) (by simp [strVals]) (fun j hj => ?_) (by show (css.getD i []).length ≤ _; omega), by show B + 1 + i ≠ W.heap.size; omega, hF _ (by show B ≤ B + 1 + i; omega) (by show B + 1 + i < _; omega)⟩
      have hj' : j < (css.getD i []).length := by simpa [strVals] using hj
      have : ((css.getD i []).getD j ByteArray.empty) = (css.getD i [])[j] := by rw [List.getD_eq_getElem?_getD, List.getElem?_eq_getElem hj']; rfl
      unfold full
      rw [this]
      simp [strVals]

theorem u64wrap (n : Int) : IntKind.u64.wrap n = n % 18446744073709551616 := rfl
theorem incU_two (ch : Int) : incU (incU ch) = IntKind.u64.wrap (ch + 2) := by
  unfold incU
  simp only [u64wrap]
  omega
end Go.Proofs.Qxb6617214a
