/-
  [][]string that came in, opened; []string that came in, opened.
-/
import Derived.Test.Qxb6617214aL
import Derived.Deep.Strs
namespace Go.Proofs.Qxb6617214a
open Go.RowKit Go.Deep
set_option linter.unusedVariables false

theorem cells29 : Try.prog.cellsOf 29 = 1 := by kernel_rfl
theorem cells9 : Try.prog.cellsOf 9 = 1 := by kernel_rfl

theorem addr_plain {w : World} {a : Addr} {v : Value} (h : w.cell? (a.add 0) = some v) : ∃ b off, a = ⟨b, off, none⟩ := by
  obtain ⟨b, off, spot⟩ := a
  have hs : spot = none := by simpa [Addr.add] using World.cell?_spot h
  subst hs
  exact ⟨b, off, rfl⟩

section
variable {H : Type} {enc : TypeId × Value → H} {w : World} {fuel : Nat} {x : DataW H × List MemPlace}

theorem open_strsA {v : Value} (h : DataW.trod enc Try.prog w 0 (fun _ => true) true fuel 29 [v] = some x) :
    ∃ a c ss, v = .slice a (ss : List ByteArray).length c ∧ ss.length ≤ c ∧ StrsA w a ss ∧ (a = none → c = 0) := by
  rcases open_strs Try.underlying29 Try.underlying9 cells9 h with ⟨hcs, _⟩ | ⟨a, len, cap, m, Sx, hcs, _, hl, hm, hmm, _, hx⟩
  · simp only [List.cons.injEq, and_true] at hcs
    exact ⟨none, 0, [], hcs, Nat.le_refl _, ⟨by simp, fun h => by simp at h⟩, fun _ => rfl⟩
  · simp only [List.cons.injEq, and_true] at hcs
    simp only [if_true] at hmm
    subst hmm
    unfold maxLen at hm
    have hlen : ((List.range len).map Sx).length = len := by simp
    refine ⟨some a, m, (List.range len).map Sx, by rw [hlen]; exact hcs, by omega, ⟨by omega, fun hp => ?_⟩, fun h => by cases h⟩
    obtain ⟨b, off, rfl⟩ := addr_plain (hx 0 (by omega)).1
    refine ⟨b, off, rfl, fun j hj => ?_⟩
    have hjl : j < len := by omega
    have := (hx j (by omega)).1
    rw [WideShapes.add_plain] at this
    rw [this]
    simp [List.getD_eq_getElem?_getD, hjl]

theorem open_chunksA {v : Value} (h : DataW.trod enc Try.prog w 0 (fun _ => true) true fuel 22 [v] = some x) :
    ∃ a c css, v = .slice a (css : List (List ByteArray)).length c ∧ ChunksA w a css ∧ (a = none → c = 0) := by
  rcases open_slice1 Try.underlying22 cells29 h with ⟨hcs, _⟩ | ⟨a, len, cap, m, nn, V, D, Pl, hcs, _, hl, hm, hmm, _, hx⟩
  · simp only [List.cons.injEq, and_true] at hcs
    exact ⟨none, 0, [], hcs, ⟨by simp, fun h => by simp at h⟩, fun _ => rfl⟩
  · simp only [List.cons.injEq, and_true] at hcs
    simp only [if_true] at hmm
    subst hmm
    unfold maxLen at hm
    have each : ∀ i, i < len → ∃ ss : List ByteArray, ∃ ai ci, w.cell? (a.add i) = some (.slice ai ss.length ci) ∧ ss.length ≤ ci ∧ StrsA w ai ss := by
      intro i hi
      obtain ⟨h1, h2⟩ := hx i (by omega)
      obtain ⟨ai, ci, ss, hv, hle, hS, _⟩ := open_strsA h2
      exact ⟨ss, ai, ci, by rw [h1, hv], hle, hS⟩
    obtain ⟨f, hf⟩ := choose_lt each
    have hlen : ((List.range len).map f).length = len := by simp
    refine ⟨some a, m, (List.range len).map f, by rw [hlen]; exact hcs, ⟨by omega, fun hp => ?_⟩, fun h => by cases h⟩
    obtain ⟨ai0, ci0, h0, _⟩ := hf 0 (by omega)
    obtain ⟨b, off, rfl⟩ := addr_plain h0
    refine ⟨b, off, rfl, fun i hi => ?_⟩
    have hil : i < len := by omega
    obtain ⟨ai, ci, h1, h2, h3⟩ := hf i hil
    rw [WideShapes.add_plain] at h1
    have e : ((List.range len).map f).getD i [] = f i := by simp [List.getD_eq_getElem?_getD, hil]
    rw [e]
    exact ⟨ai, ci, h1, h2, h3⟩
end
end Go.Proofs.Qxb6617214a
