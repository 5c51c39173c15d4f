/-
  []string and []bool that came in, opened.
-/
import Derived.Test.Qxb6617214aO
import Derived.Test.Qxb6617214aAC
import Derived.Deep.Grids
namespace Go.Proofs.Qxb6617214a
open Go.RowKit Go.Deep
set_option linter.unusedVariables false

theorem cells4 : Try.prog.cellsOf 4 = 1 := by kernel_rfl

section
variable {H : Type} {enc : TypeId × Value → H} {w : World} {fuel : Nat} {x : DataW H × List MemPlace}

theorem open_strsB {v : Value} (h : DataW.trod enc Try.prog w 0 (fun _ => true) true fuel 29 [v] = some x) :
    ∃ a c ss, v = .slice a (ss : List ByteArray).length c ∧ StrsA w a ss ∧ (a = none → c = 0) := by
  obtain ⟨a, c, ss, h1, _, h3, h4⟩ := open_strsA h
  exact ⟨a, c, ss, h1, h3, h4⟩

theorem open_boolsA {v : Value} (h : DataW.trod enc Try.prog w 0 (fun _ => true) true fuel 40 [v] = some x) :
    ∃ a c bs, v = .slice a (bs : List Bool).length c ∧ BoolsA w a bs ∧ (a = none → c = 0) := by
  rcases open_bools Try.underlying40 Try.underlying4 cells4 h with ⟨hcs, _⟩ | ⟨a, len, cap, Bx, hcs, _, hl, hm, _, hx⟩
  · simp only [List.cons.injEq, and_true] at hcs
    exact ⟨none, 0, [], hcs, ⟨by simp, fun h => by simp at h⟩, fun _ => rfl⟩
  · simp only [List.cons.injEq, and_true] at hcs
    unfold maxLen at hm
    have hlen : ((List.range len).map Bx).length = len := by simp
    refine ⟨some a, cap, (List.range len).map Bx, by rw [hlen]; exact hcs, ⟨by omega, fun hp => ?_⟩, fun h => by cases h⟩
    obtain ⟨b, off, rfl⟩ := addr_plain (hx 0 (by omega))
    refine ⟨b, off, rfl, fun j hj => ?_⟩
    have hjl : j < len := by omega
    have := hx j (by omega)
    rw [WideShapes.add_plain] at this
    rw [this]
    simp [List.getD_eq_getElem?_getD, hjl]
end
end Go.Proofs.Qxb6617214a
