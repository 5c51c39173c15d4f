/-
  A set told by its keys alone: OwnIn: some chunks lie in blocks not below B; add and remove on it.
-/
import Derived.Test.Qxb6617214aAA
namespace Go.Proofs.Qxb6617214a
open Go.RowKit Go.Lib Go.Deep
set_option linter.unusedVariables false

structure OwnIn (B : Nat) (w : World) (sb : Nat) (l : List ByteArray) (C : Int) : Prop where
  ex : ∃ F es a cap, Own F w sb es C a cap ∧ (cssOf es).flatten = l ∧ ∀ b, F b → B ≤ b

section
variable {B : Nat} {w w' : World} {sb : Nat} {l : List ByteArray} {C : Int}
theorem OwnIn.keep (h : OwnIn B w sb l C) (hb : Below w.heap.size w w') : OwnIn B w' sb l C := by
  obtain ⟨F, es, a, cap, hO, hf, hF⟩ := h.ex
  exact ⟨F, es, a, cap, hO.keep (fun b h1 _ => hb.block b h1), hf, hF⟩
theorem OwnIn.sort (h : OwnIn B w sb l C) : Incr l := by
  obtain ⟨F, es, a, cap, hO, hf, hF⟩ := h.ex
  rw [← hf]; exact hO.ok.2
theorem OwnIn.view (h : OwnIn B w sb l C) (hl : l.length ≤ 1073741824) : ∃ a cap cs, View w sb a cap cs C ∧ OK cs ∧ cs.flatten = l := by
  obtain ⟨F, es, a, cap, hO, hf, hF⟩ := h.ex
  exact ⟨a, cap, cssOf es, hO.view (by rw [hf]; exact hl), hO.ok, hf⟩
theorem OwnIn.lt (h : OwnIn B w sb l C) : sb < w.heap.size := by
  obtain ⟨F, es, a, cap, hO, hf, hF⟩ := h.ex
  exact hO.lt
theorem OwnIn.ge (h : OwnIn B w sb l C) : B ≤ sb := by
  obtain ⟨F, es, a, cap, hO, hf, hF⟩ := h.ex
  exact hF _ hO.fsb

/-- What add leaves. -/
structure AddIn (B : Nat) (w w' : World) (sb : Nat) (l : List ByteArray) (C : Int) (k : ByteArray) : Prop where
  own : OwnIn B w' sb (insS l k) (if isAt l k then C else incU C)
  bel : Below B w w'
structure DelIn (B : Nat) (w w' : World) (sb : Nat) (l : List ByteArray) (C : Int) (k : ByteArray) : Prop where
  own : OwnIn B w' sb (delS l k) (if isAt l k then incU C else C)
  bel : Below B w w'
theorem addIn_any (h : OwnIn B w sb l C) (hl : l.length ≤ 1073741000) (hB : B ≤ w.heap.size) (k : ByteArray) :
    Calls Try.prog 15 #[.pointer (some ⟨sb, 0, none⟩), .string k] w fun e w' => e = .returned (.tuple #[]) ∧ AddIn B w w' sb l C k := by
  obtain ⟨F, es, a, cap, hO, hf, hF⟩ := h.ex
  refine (zzAddKey_any hO (by rw [hf]; exact hl) k).mono ?_
  rintro e w' ⟨rfl, es', a', cap', hO', hf', hk⟩
  rw [hf] at hO' hf'
  refine ⟨rfl, ⟨_, es', a', cap', hO', hf', ?_⟩, hk.to_below (fun b _ h2 h3 => by have := hF b h3; omega) hB⟩
  rintro b (hb | ⟨hb, _⟩)
  · exact hF b hb
  · omega
theorem delIn_any (h : OwnIn B w sb l C) (hl : l.length ≤ 1073741000) (hB : B ≤ w.heap.size) (k : ByteArray) :
    Calls Try.prog 16 #[.pointer (some ⟨sb, 0, none⟩), .string k] w fun e w' => e = .returned (.tuple #[]) ∧ DelIn B w w' sb l C k := by
  obtain ⟨F, es, a, cap, hO, hf, hF⟩ := h.ex
  refine (zzRemoveKey_any hO (by rw [hf]; exact hl) k).mono ?_
  rintro e w' ⟨rfl, es', a', cap', hO', hf', hk⟩
  rw [hf] at hO' hf'
  refine ⟨rfl, ⟨_, es', a', cap', hO', hf', ?_⟩, hk.to_below (fun b _ h2 h3 => by have := hF b h3; omega) hB⟩
  rintro b (hb | ⟨hb, _⟩)
  · exact hF b hb
  · omega
end

theorem clV_nil {B : Nat} {w w' : World} {a : Option Addr} {n : Nat} {css : List (List ByteArray)} (h : ClV B w w' (.slice a n n) css) (hn : n = css.length) : a = none → n = 0 := by
  intro ha
  rcases h with ⟨h1, h2, h3⟩ | ⟨h1, h2⟩
  · subst hn; rw [h2]; rfl
  · subst ha; cases h1

/-- Cloned and made: a set of one's own. -/
theorem ownIn_made {w wc W : World} {a : Option Addr} {css : List (List ByteArray)} (h : ClV w.heap.size w wc (.slice a css.length css.length) css) (hW : Below wc.heap.size wc W) (hs : w.heap.size ≤ wc.heap.size) (hok : OK css) (hl : css.length ≤ 1073741824) (ht : tot css ≤ 1073741824) (ch : Int) :
    OwnIn w.heap.size (W.alloc (.cells #[.slice a css.length css.length, .int .u64 ch] 54)) W.heap.size css.flatten ch := by
  obtain ⟨a', he, ho⟩ := own_made (F := fun b => (w.heap.size ≤ b ∧ b < wc.heap.size) ∨ b = W.heap.size) h rfl hW hok hl ht ch (fun b h1 h2 => .inl ⟨h1, h2⟩) (.inr rfl)
  cases he
  refine ⟨_, _, _, _, ho, by rw [madeEs_css], ?_⟩
  have := hW.size
  rintro b (hb | hb)
  · exact hb.1
  · omega
end Go.Proofs.Qxb6617214a
