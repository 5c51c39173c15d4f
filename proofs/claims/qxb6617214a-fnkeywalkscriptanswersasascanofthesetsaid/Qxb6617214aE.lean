/-
  flatten at no chunk; cloneChunks (11).
-/
import Derived.Test.Qxb6617214aD
namespace Go.Proofs.Qxb6617214a
open Go.RowKit

set_option maxHeartbeats 400000 in
theorem flatten_zero (a : Option Addr) (c : Nat) (w : World) :
    Calls Try.prog 12 #[.slice a 0 c] w fun e w' =>
      e = .returned (.slice (some ⟨w.heap.size, 0, none⟩) (tot []) (tot [])) ∧ w'.rowIs w.heap.size 9 (tot []) (full []) ∧ Below w.heap.size w w' ∧ w'.heap.size = w.heap.size + 1 := by
  have e0 : tot [] = 0 := by simp [tot]
  rw [e0]
  have hmk := run_make_row' (P := Try.prog) 29 9 (.string ⟨#[]⟩) 16 Try.underlying29 info9 rfl .i64 .i64 0 (by omega) (by omega)
  simp only [Int.natCast_zero] at hmk
  clear e0
  go_enter Try.func12, Try.ntmps12
  go_wp2
  refine wp_loop_rounds 1 ?_; rw [rounds_succ]; go_wp2
  refine wp_loop_rounds 1 ?_; rw [rounds_succ]; go_wp2
  go_ret
  exact ⟨rfl, (World.rowIs_made w _ _ 9).congr (fun j hj => by omega), (Below.refl _ _).alloc (Nat.le_refl _) _, by simp⟩

theorem ok_ne {css : List (List ByteArray)} (h : OK css) (i : Nat) (hi : i < css.length) : 0 < (css.getD i []).length :=
  (h.1 (css.getD i []) (by simp [List.getD_eq_getElem?_getD, hi])).1

theorem flatten_any (a : Option Addr) (c n : Nat) (css : List (List ByteArray)) (w : World) (hl : css.length ≤ 1073741824) (ht : tot css ≤ 1073741824) (hok : ∀ i, i < css.length → 0 < (css.getD i []).length) (h : ChunksA w a css) (hn : n = css.length) :
    Calls Try.prog 12 #[.slice a n c] w fun e w' =>
      e = .returned (.slice (some ⟨w.heap.size, 0, none⟩) (tot css) (tot css)) ∧ w'.rowIs w.heap.size 9 (tot css) (full css.flatten) ∧ Below w.heap.size w w' ∧ w'.heap.size = w.heap.size + 1 := by
  subst hn
  by_cases h0 : css = []
  · subst h0; exact flatten_zero a c w
  · have hp : 0 < css.length := List.length_pos_iff.2 h0
    obtain ⟨b, off, rfl, hc⟩ := h.2 hp
    exact flatten_some b off c css w hl ht hok hc

/-! ### cloneChunks: chunk i lies in block B + 1 + i -/
def chv (B : Nat) (css : List (List ByteArray)) (k i : Nat) : Value := if i < k then .slice (some ⟨B + 1 + i, 0, none⟩) (css.getD i []).length (css.getD i []).length else .slice none 0 0
def chf (B : Nat) (css : List (List ByteArray)) (i : Nat) : Value := .slice (some ⟨B + 1 + i, 0, none⟩) (css.getD i []).length (css.getD i []).length

/-- What cloneChunks has made when k chunks are laid. -/
structure Cl (B : Nat) (w wr : World) (css : List (List ByteArray)) (k : Nat) : Prop where
  arr : wr.rowIs B 29 css.length (chv B css k)
  row : ∀ i, i < k → wr.rowIs (B + 1 + i) 9 (css.getD i []).length (full (css.getD i []))
  bel : Below B w wr
  size : wr.heap.size = B + 1 + k

theorem rowIs_below {w w' : World} {b t n : Nat} {f : Nat → Value} (h : w.rowIs b t n f) {B : Nat} (hb : Below B w w') (hlt : b < B) : w'.rowIs b t n f := h.of_block (hb.block b hlt)

theorem cl_step {B : Nat} {w wr w1 : World} {css : List (List ByteArray)} {k : Nat} {ss : List ByteArray} (h : Cl B w wr css k) (hss : css.getD k [] = ss) (hr : w1.rowIs wr.heap.size 9 ss.length (full ss)) (hb : Below wr.heap.size wr w1) (hs : w1.heap.size = wr.heap.size + 1) :
    Cl B w (w1.setCell ⟨B, k, none⟩ (.slice (some ⟨wr.heap.size, 0, none⟩) ss.length ss.length)) css (k + 1) := by
  have hz := h.size
  refine ⟨?_, ?_, ?_, ?_⟩
  · refine ((rowIs_below h.arr hb (by omega)).set k _).congr fun j hj => ?_
    unfold chv
    by_cases e : j = k
    · subst e; rw [if_pos rfl, if_pos (by omega), hss, hz]
    · rw [if_neg e]
      by_cases hjk : j < k
      · rw [if_pos hjk, if_pos (by omega)]
      · rw [if_neg hjk, if_neg (by omega)]
  · intro i hi
    by_cases e : i = k
    · subst e; rw [hss, ← hz]; exact hr.setOther (by show wr.heap.size ≠ B; omega) _
    · exact (rowIs_below (h.row i (by omega)) hb (by omega)).setOther (by show _ ≠ B; omega) _
  · exact (h.bel.trans (hb.mono (by omega))).setCell (Nat.le_refl _) _
  · simp [World.setCell]; omega

theorem cl_at {B : Nat} {w wr w1 : World} {css : List (List ByteArray)} {k i : Nat} (h : Cl B w wr css k) (hb : Below wr.heap.size wr w1) (hi : i < css.length) : ∃ u, w1.cell? ⟨B, i, none⟩ = some u ∧ w1.frozen? ⟨B, i, none⟩ = false :=
  have hr := rowIs_below h.arr hb h.arr.lt
  ⟨_, hr.cell hi, hr.frozen i⟩

set_option maxHeartbeats 1000000 in
theorem cloneChunks_some (b off c B : Nat) (css : List (List ByteArray)) (w : World) (hB : w.heap.size = B) (hl : css.length ≤ 1073741824) (ht : tot css ≤ 1073741824) (hne : ∀ i, i < css.length → 0 < (css.getD i []).length)
    (hc : ∀ i, i < css.length → ∃ ai ci, w.cell? ⟨b, off + i, none⟩ = some (.slice ai (css.getD i []).length ci) ∧ (css.getD i []).length ≤ ci ∧ StrsA w ai (css.getD i [])) :
    Calls Try.prog 11 #[.slice (some ⟨b, off, none⟩) css.length c] w fun e w' =>
      e = .returned (.slice (some ⟨B, 0, none⟩) css.length css.length) ∧ Cl B w w' css css.length := by
  have hnil := fun w => Lib.run_eql_slice_nil (P := Try.prog) w 22 29 (some ⟨b, off, none⟩) css.length c 0 0 Try.underlying22
  have hmk := run_make_row' (P := Try.prog) 22 29 (.slice none 0 0) 24 Try.underlying22 info29 rfl .i64 .i64 css.length (by omega) (by omega)
  have HBB : Hid (w.heap.size = B) := hB
  go_enter Try.func11, Try.ntmps11
  go_wp2
  clear hnil hmk
  go_loopw [4] (fun i wr => ∃ k : Nat, k ≤ css.length ∧ i = .int .i64 k ∧ Cl B w wr css k) (fun i _ => css.length - (intOf i).toNat)
  case atStart =>
    refine ⟨0, Nat.zero_le _, rfl, ?_, ?_, ?_, ?_⟩
    · rw [← HBB.out]; exact (World.rowIs_made w _ _ 29).congr (fun j _ => by unfold chv; rw [if_neg (by omega)])
    · intro i hi; omega
    · rw [← HBB.out]; exact (Below.refl _ _).alloc (Nat.le_refl _) _
    · rw [← HBB.out]; simp
  case round =>
    obtain ⟨k, hk, rfl, hcl⟩ := hrel
    by_cases hlt : k < css.length
    · obtain ⟨ai, ci, hcell0, hcap, hS⟩ := hc k hlt
      have hn := hne k hlt
      have h1 := tot_take css k hlt rfl
      have h2 := tot_le (css := css) (k + 1)
      obtain ⟨ss, hss⟩ : ∃ ss, css.getD k [] = ss := ⟨_, rfl⟩
      rw [hss] at hcell0 hS hn h1
      obtain ⟨bb, oo, rfl, hcs⟩ := hS.2 hn
      have hlen : ss.length ≤ 1073741824 := by omega
      have hblt : b < B := by rw [← hB]; exact World.block_lt_of_cell? w _ hcell0
      have hcell : wr.cell? ⟨b, off + k, none⟩ = some (.slice (some ⟨bb, oo, none⟩) ss.length ci) := (hcl.bel.cell (by exact hblt)).trans hcell0
      have hcs' : Hid (∀ j, j < ss.length → wr.cell? ⟨bb, oo + j, none⟩ = some (.string (ss.getD j ByteArray.empty))) := fun j hj => by
        have hbb : bb < B := by rw [← hB]; exact World.block_lt_of_cell? w _ (hcs j hj)
        exact (hcl.bel.cell (by exact hbb)).trans (hcs j hj)
      have HCL : Hid (Cl B w wr css k) := hcl
      have HSS : Hid (css.getD k [] = ss) := hss
      clear hc hne hS hcap hss h1 h2 hcell0 hcl hcs hB
      go_wp2_with (go_at_call 31; refine (cloneStrs_some _ _ _ ss _ hlen hcs'.out).mono ?_; rintro e w1 ⟨rfl, hr1, hb1, hs1⟩; have HN : Hid _ := cl_step HCL.out HSS.out hr1 hb1 hs1; obtain ⟨u, hold, hfz⟩ := cl_at HCL.out hb1 hlt; clear hr1 hb1 hs1)
      go_roundw
      case rel => exact ⟨k + 1, by omega, by go_num, HN.out⟩
      case measure => simp [intOf]; omega
    · have hke : k = css.length := by omega
      subst hke
      have HCL : Hid _ := hcl
      clear hc hcl hne
      go_wp2
      go_ret
      exact ⟨rfl, HCL.out⟩

set_option maxHeartbeats 400000 in
theorem cloneChunks_nil (w : World) :
    Calls Try.prog 11 #[.slice none 0 0] w fun e w' => e = .returned (.slice none 0 0) ∧ w' = w := by
  have hnil := fun w => Lib.run_eql_slice_nil (P := Try.prog) w 22 29 none 0 0 0 0 Try.underlying22
  go_enter Try.func11, Try.ntmps11
  go_wp2
  go_ret
  exact ⟨rfl, rfl⟩

/-- The empty slice that is not nil. -/
theorem cloneChunks_empty (x : Addr) (c B : Nat) (w : World) (hB : w.heap.size = B) :
    Calls Try.prog 11 #[.slice (some x) 0 c] w fun e w' => e = .returned (.slice (some ⟨B, 0, none⟩) 0 0) ∧ Cl B w w' [] 0 := by
  have hnil := fun w => Lib.run_eql_slice_nil (P := Try.prog) w 22 29 (some x) 0 c 0 0 Try.underlying22
  have hmk := run_make_row' (P := Try.prog) 22 29 (.slice none 0 0) 24 Try.underlying22 info29 rfl .i64 .i64 0 (by omega) (by omega)
  simp only [Int.natCast_zero] at hmk
  have HBB : Hid (w.heap.size = B) := hB
  go_enter Try.func11, Try.ntmps11
  go_wp2
  refine wp_loop_rounds 1 ?_; rw [rounds_succ]; go_wp2
  go_ret
  refine ⟨rfl, ?_, fun i hi => by omega, ?_, ?_⟩
  · rw [← HBB.out]; exact (World.rowIs_made w _ _ 29).congr (fun j hj => by omega)
  · rw [← HBB.out]; exact (Below.refl _ _).alloc (Nat.le_refl _) _
  · rw [← HBB.out]; simp

/-- What cloneChunks has handed back, whatever came in. -/
def ClV (B : Nat) (w w' : World) (v : Value) (css : List (List ByteArray)) : Prop :=
  (v = .slice none 0 0 ∧ css = [] ∧ w' = w) ∨ (v = .slice (some ⟨B, 0, none⟩) css.length css.length ∧ Cl B w w' css css.length)

theorem cloneChunks_any (a : Option Addr) (c n B : Nat) (css : List (List ByteArray)) (w : World) (hB : w.heap.size = B) (hl : css.length ≤ 1073741824) (ht : tot css ≤ 1073741824) (hok : ∀ i, i < css.length → 0 < (css.getD i []).length) (h : ChunksA w a css) (hn : n = css.length) (hnil : a = none → c = 0) :
    Calls Try.prog 11 #[.slice a n c] w fun e w' => ∃ v, e = .returned v ∧ ClV B w w' v css := by
  subst hn
  by_cases h0 : css = []
  · subst h0
    cases a with
    | none => rw [hnil rfl]; exact (cloneChunks_nil w).mono fun e w' ⟨he, hw⟩ => ⟨_, he, .inl ⟨rfl, rfl, hw⟩⟩
    | some x => exact (cloneChunks_empty x c B w hB).mono fun e w' ⟨he, hw⟩ => ⟨_, he, .inr ⟨rfl, hw⟩⟩
  · have hp : 0 < css.length := List.length_pos_iff.2 h0
    obtain ⟨b, off, rfl, hc⟩ := h.2 hp
    exact (cloneChunks_some b off c B css w hB hl ht hok hc).mono fun e w' ⟨he, hw⟩ => ⟨_, he, .inr ⟨rfl, hw⟩⟩
end Go.Proofs.Qxb6617214a
