/-
  Walks: zzBytes (5), zzCloneBytes (6).
-/
import Derived.Test.Qxb6617855aDoorRows
import Derived.WalkKit
import Derived.WalkSpells
import Derived.WalkLawsBesides
import Derived.Laws.CopyOwn
import Derived.Deep.OwnRows
import Derived.Lib.SliceRun
import Derived.Laws.AppendOwn
import Derived.Lib.BufferWrite
import Derived.Below
namespace Go.Proofs.Qxb6617855aDoor
open Go.RowKit Go.Deep
set_option linter.unusedVariables false

theorem info5 : (Tryd.prog.info? 5).map (fun i => (i.zero, i.size, i.bytes)) = some (some (.int .u8 0), 1, 1) := by kernel_rfl
theorem size5 : (Tryd.prog.info? 5).map (·.size) = some 1 := by kernel_rfl

/-- What is read of a []byte. -/
def BytesA (w : World) (a : Option Addr) (l : List UInt8) : Prop :=
  0 < l.length → ∃ b off, a = some ⟨b, off, none⟩ ∧ ∀ j, j < l.length → w.cell? ⟨b, off + j, none⟩ = some (.int .u8 ((l.getD j 0).toNat : Int))

/-- What a clone leaves. -/
structure ClB (w w' : World) (v : Value) (l : List UInt8) : Prop where
  own : w'.ownsRow w.heap.size 5 1 v l.length (Lib.byteCells l)
  bel : Below w.heap.size w w'

theorem zzBytes5_any (a : Option Addr) (n c : Nat) (i : Int) (w : World) (hn : n ≤ 9223372036854775807) : Calls Tryd.prog 5 #[.slice a n c, .int .i64 i] w fun e w' => e = .returned (.bool (decide (n ≤ 1048576))) ∧ w' = w := by
  by_cases h : (1048576 : Int) < (n : Int)
  · have : decide (n ≤ 1048576) = false := by simp; omega
    rw [this]
    go_enter Tryd.func5, Tryd.ntmps5
    go_wp2
    go_ret
    exact ⟨rfl, rfl⟩
  · have : decide (n ≤ 1048576) = true := by simp; omega
    rw [this]
    go_enter Tryd.func5, Tryd.ntmps5
    go_wp2
    go_ret
    exact ⟨rfl, rfl⟩

set_option maxHeartbeats 1000000 in
theorem clone_nil (w : World) : Calls Tryd.prog 6 #[.slice none 0 0] w fun e w' => ∃ v, e = .returned v ∧ ClB w w' v [] := by
  have hnil := fun w => Lib.run_eql_slice_nil (P := Tryd.prog) w 22 5 none 0 0 0 0 Tryd.underlying22
  go_enter Tryd.func6, Tryd.ntmps6
  go_wp2
  go_ret
  exact ⟨_, rfl, World.ownsRow_nil _ _ _ _, Below.refl _ _⟩

theorem bc_get (l : List UInt8) (j : Nat) (h : j < l.length) : (Lib.byteCells l)[j]? = some (.int .u8 ((l.getD j 0).toNat : Int)) := by simp [Lib.byteCells, h]

/-- 'copy' of l into the new row. -/
theorem copy_new (x : Addr) (c : Nat) (l : List UInt8) (w : World) (h : BytesA w (some x) l) :
    ∃ w2, (Builtin.copy_ #[22, 22] 3 #[.slice (some ⟨w.heap.size, 0, none⟩) l.length l.length, .slice (some x) l.length c]).run Tryd.prog (w.alloc (.cells (madeCells #[.int .u8 0] l.length) 5)) = .ok (.int .i64 l.length) w2 ∧
      w2.heap[w.heap.size]? = some (.cells (Lib.byteCells l).toArray 5 (0, 0)) ∧ Below w.heap.size w w2 := by
  have hnew : (w.alloc (.cells (madeCells #[.int .u8 0] l.length) 5)).heap[w.heap.size]? = some (.cells (madeCells #[.int .u8 0] l.length) 5 (0, 0)) := heap_alloc_new w _
  have hb1 : Below w.heap.size w (w.alloc (.cells (madeCells #[.int .u8 0] l.length) 5)) := (Below.refl _ _).alloc (Nat.le_refl _) _
  by_cases h0 : l = []
  · subst h0
    refine ⟨_, run_copy_none (P := Tryd.prog) _ 22 22 3 5 _ _ 0 0 0 c Tryd.underlying22 size5 rfl, ?_, hb1⟩
    have e : madeCells #[Value.int .u8 0] ([] : List UInt8).length = (Lib.byteCells []).toArray := by
      apply Array.eq_empty_of_size_eq_zero
      rw [size_madeCells]; rfl
    rw [← e]
    exact hnew
  · have hp : 0 < l.length := List.length_pos_iff.2 h0
    obtain ⟨b, off, he, hc⟩ := h hp
    cases he
    have hs : (madeCells #[Value.int .u8 0] l.length).size = l.length := size_madeCells _ _
    have hr := run_copy_row (P := Tryd.prog) (w.alloc (.cells (madeCells #[.int .u8 0] l.length) 5)) 22 22 3 5 w.heap.size 0 l.length l.length ⟨b, off, none⟩ l.length c _ 5 (Lib.byteCells l) Tryd.underlying22 size5 hnew (by rw [Lib.byteCells_length]; simp) (fun j v hj => by
      have hjl : j < l.length := by
        have := (List.getElem?_eq_some_iff.1 hj).1
        rwa [Lib.byteCells_length] at this
      rw [bc_get l j hjl] at hj
      cases hj
      have h1 := hc j hjl
      have hb : b < w.heap.size := World.block_lt_of_cell? w _ h1
      have hadd : (⟨b, off, none⟩ : Addr).add j = ⟨b, off + j, none⟩ := by unfold Addr.add; split <;> simp_all
      rw [hadd]
      exact (hb1.cell (by exact hb)).trans h1) (by rw [Lib.byteCells_length, hs]; omega) (Lib.byteCells_one l)
    rw [Lib.byteCells_length] at hr
    have e : (List.take 0 (madeCells #[Value.int .u8 0] l.length).toList ++ Lib.byteCells l ++ List.drop (0 + l.length) (madeCells #[Value.int .u8 0] l.length).toList).toArray = (Lib.byteCells l).toArray := by
      rw [List.drop_of_length_le (by rw [Array.length_toList, hs]; omega)]
      simp
    rw [e] at hr
    exact ⟨_, hr, setRow_heap _ _ _ _ _ _ hnew, below_setRow hb1 (Nat.le_refl _) _⟩

set_option maxHeartbeats 1000000 in
theorem clone_some (x : Addr) (c : Nat) (l : List UInt8) (w : World) (h : BytesA w (some x) l) (hl : l.length ≤ 1073741824) :
    Calls Tryd.prog 6 #[.slice (some x) l.length c] w fun e w' => ∃ v, e = .returned v ∧ ClB w w' v l := by
  have hnil := fun w => Lib.run_eql_slice_nil (P := Tryd.prog) w 22 5 (some x) l.length c 0 0 Tryd.underlying22
  have hmk := run_make_row' (P := Tryd.prog) 22 5 (.int .u8 0) 1 Tryd.underlying22 info5 rfl .i64 .i64 l.length (by omega) (by omega)
  obtain ⟨w2, hcp, hg, hb⟩ := copy_new x c l w h
  have HG : Hid (w2.heap[w.heap.size]? = some (.cells (Lib.byteCells l).toArray 5 (0, 0))) := hg
  clear hg h
  go_enter Tryd.func6, Tryd.ntmps6
  go_wp2
  go_ret
  exact ⟨_, rfl, ⟨by rw [Lib.byteCells_length]; omega, .inr ⟨w.heap.size, l.length, _, rfl, Nat.le_refl _, HG.out, Nat.le_refl _, by unfold maxLen; omega, by rw [List.size_toArray, Lib.byteCells_length]; omega, by simp [Lib.byteCells_length, List.take_of_length_le]⟩⟩, hb⟩

theorem clone_any (a : Option Addr) (n c : Nat) (l : List UInt8) (w : World) (h : BytesA w a l) (hl : l.length ≤ 1073741824) (hn : n = l.length) (hnil : a = none → n = 0 ∧ c = 0) :
    Calls Tryd.prog 6 #[.slice a n c] w fun e w' => ∃ v, e = .returned v ∧ ClB w w' v l := by
  subst hn
  cases a with
  | none =>
    obtain ⟨h1, rfl⟩ := hnil rfl
    obtain rfl : l = [] := List.length_eq_zero_iff.1 h1
    exact clone_nil w
  | some x => exact clone_some x c l w h hl
end Go.Proofs.Qxb6617855aDoor
