/-
  The walk: zzDecimalText (6): some digits, twenty at most.
-/
import Derived.Test.Qxb6617228aA
import Derived.Laws.BytesArg
namespace Go.Proofs.Qxb6617228a
open Go.RowKit
set_option linter.unusedVariables false
def Digs (c : Array Value) (k : Nat) : Prop := ∀ j, k ≤ j → j < 20 → ∃ x : Int, c[j]? = some (.int .u8 x) ∧ 48 ≤ x ∧ x ≤ 57
theorem digs_set {c : Array Value} {k : Nat} (h : Digs c (k + 1)) (hs : c.size = 20) (hk : k < 20) {x : Int} (h1 : 48 ≤ x) (h2 : x ≤ 57) : Digs (c.setIfInBounds k (.int .u8 x)) k := by
  intro j h3 h4
  by_cases e : k = j
  · subst e
    exact ⟨x, by simp [hs, hk], h1, h2⟩
  · obtain ⟨y, hy, hy2⟩ := h j (by omega) h4
    exact ⟨y, by rw [Array.getElem?_setIfInBounds_ne e]; exact hy, hy2⟩
def numAt (c : Array Value) (i : Nat) : Int := match c[i]? with
  | some (.int _ x) => x
  | _ => 0
theorem digs_num {c : Array Value} {k : Nat} (h : Digs c k) (j : Nat) (h1 : k ≤ j) (h2 : j < 20) : c[j]? = some (.int .u8 (numAt c j)) ∧ 48 ≤ numAt c j ∧ numAt c j ≤ 57 := by
  obtain ⟨x, hx, h3, h4⟩ := h j h1 h2
  have : numAt c j = x := by unfold numAt; rw [hx]
  rw [this]
  exact ⟨hx, h3, h4⟩

theorem u1 (j : Nat) (h : j < 20) : IntKind.i64.wrap (j : Int) = (j : Int) := by
  have : ∀ j : Fin 20, IntKind.i64.wrap (j.val : Int) = (j.val : Int) := by decide
  exact this ⟨j, h⟩
theorem size5 (w : World) : (sizeOf (Try.prog.elem 28)).run Try.prog w = .ok 1 w := by rfl
theorem slice_buf (w : World) (b j : Nat) (hj : j < 20) : (Instr.sliceAt 28 (.pointer (some ⟨b, 0, none⟩)) (some (.int .i64 j)) none none).run Try.prog w = .ok (.slice (some ⟨b, j, none⟩) (20 - j) (20 - j)) w := by
  rw [run_sliceAt_array_l (P := Try.prog) w 28 ⟨b, 0, none⟩ (by kernel_rfl) .i64 j (by omega) (by rw [show Try.prog.arrayLen 28 = 20 from by kernel_rfl]; omega), size5]
  rw [show Try.prog.arrayLen 28 = 20 from by kernel_rfl]
  simp [slicedAt, Addr.add, Result.andThen, show ¬ 20 = j from by omega]
  exact fun h => h.symm

theorem cell_new (w : World) (c : Array Value) (i : Nat) : (w.alloc (.cells c 28)).cell? ⟨w.heap.size, i, none⟩ = c[i]? := by
  have hn : (w.alloc (.cells c 28)).heap[w.heap.size]? = some (.cells c 28) := heap_alloc_new w _
  unfold World.cell?
  rw [hn]
  rfl

theorem conv_buf (w : World) (c : Array Value) (j : Nat) (hj : j < 20) (hc : c.size = 20) (hD : Digs c j) : ∃ s : ByteArray, (convert 27 9 (.slice (some ⟨w.heap.size, j, none⟩) (20 - j) (20 - j))).run Try.prog (w.alloc (.cells c 28)) = .ok (.string s) (w.alloc (.cells c 28)) ∧ allD s.data.toList = true ∧ s.size ≤ 20 := by
  refine ⟨strOfNums ((List.range (20 - j)).map fun i => numAt c (j + i)), ?_, ?_, ?_⟩
  · refine run_convert_bytes_arg (P := Try.prog) _ 27 5 Try.underlying27 Try.underlying5 w.heap.size j (20 - j) (20 - j) _ (by simp) ?_ 9 Try.underlying9
    intro i hi
    have := (digs_num hD (j + i) (by omega) (by omega)).1
    have e : ((List.range (20 - j)).map fun i => numAt c (j + i)).getD i 0 = numAt c (j + i) := by
      simp [List.getD, hi]
    rw [e, ← this]
    exact cell_new w c (j + i)
  · rw [strOfNums_data]
    unfold allD
    rw [Bool.and_eq_true]
    constructor
    · have : 0 < ((List.map (fun n => UInt8.ofNat n.toNat) ((List.range (20 - j)).map fun i => numAt c (j + i)))).length := by simp; omega
      cases h : (List.map (fun n => UInt8.ofNat n.toNat) ((List.range (20 - j)).map fun i => numAt c (j + i))) with
      | nil => rw [h] at this; simp at this
      | cons a l => rfl
    · rw [List.all_eq_true]
      intro x hx
      rw [List.mem_map] at hx
      obtain ⟨n, hn, rfl⟩ := hx
      rw [List.mem_map] at hn
      obtain ⟨i, hi, rfl⟩ := hn
      rw [List.mem_range] at hi
      obtain ⟨_, h1, h2⟩ := digs_num hD (j + i) (by omega) (by omega)
      generalize numAt c (j + i) = x at h1 h2
      unfold dg
      rw [show (UInt8.ofNat x.toNat).toNat = x.toNat from by simp [UInt8.toNat_ofNat']; omega]
      simp
      omega
  · rw [strOfNums_size]; simp

set_option maxHeartbeats 1000000 in
theorem text_any (n : Int) (h0 : 0 ≤ n) (h1 : n ≤ 18446744073709551615) (w : World) : Calls Try.prog 6 #[.int .u64 n] w fun e w' => (∃ s : ByteArray, e = .returned (.string s) ∧ allD s.data.toList = true ∧ s.size ≤ 20) ∧ Grown w w' := by
  go_enter Try.func6, Try.ntmps6
  go_wp2
  go_loopw [0, 4] (fun n i wr => ∃ (m : Int) (k : Nat) (c : Array Value), n = .int .u64 m ∧ i = .int .i64 k ∧ wr = w.alloc (.cells c 28) ∧ 0 ≤ m ∧ m ≤ 18446744073709551615 ∧ k ≤ 20 ∧ c.size = 20 ∧ Digs c k) (fun n i _ => (intOf i).toNat)
  case atStart => exact ⟨n, 20, _, rfl, rfl, rfl, h0, h1, by omega, by simp, fun j h2 h3 => by omega⟩
  case round =>
    obtain ⟨m, k, c, rfl, rfl, rfl, hm0, hm1, hk, hcs, hD⟩ := hrel
    cases k with
    | zero =>
      have hsl := slice_buf (w.alloc (.cells c 28)) w.heap.size 0 (by omega)
      obtain ⟨s, hcv, hs⟩ := conv_buf w c 0 (by omega) hcs hD
      go_wp2
      go_ret
      exact ⟨⟨s, rfl, hs⟩, (Grown.refl w).alloc _ _⟩
    | succ j =>
      have hj : j < 20 := by omega
      have e1 : IntKind.i64.wrap (((j + 1 : Nat) : Int) - 1) = (j : Int) := by
        rw [show ((j + 1 : Nat) : Int) - 1 = (j : Int) by omega]; exact u1 j (by omega)
      have e2 : (0 : Int) < ((j + 1 : Nat) : Int) := by omega
      have hc : (w.alloc (.cells c 28)).cell? ⟨w.heap.size, j, none⟩ = some (c[j]'(by omega)) := by rw [cell_new]; simp
      have hjj : (j : Int) < 20 := by omega
      have hD2 : Digs (c.setIfInBounds j (.int .u8 (48 + m % 10))) j := digs_set hD hcs hj (by omega) (by omega)
      have hsl := slice_buf (w.alloc (.cells (c.setIfInBounds j (.int .u8 (48 + m % 10))) 28)) w.heap.size j (by omega)
      obtain ⟨s, hcv, hs⟩ := conv_buf w (c.setIfInBounds j (.int .u8 (48 + m % 10))) j (by omega) (by simpa using hcs) hD2
      go_wp2
      · go_ret
        exact ⟨⟨s, rfl, hs⟩, (Grown.refl w).alloc _ _⟩
      · exact ⟨⟨m / 10, j, _, rfl, rfl, rfl, by omega, by omega, by omega, by simpa using hcs, hD2⟩, by simp [intOf]⟩
end Go.Proofs.Qxb6617228a
