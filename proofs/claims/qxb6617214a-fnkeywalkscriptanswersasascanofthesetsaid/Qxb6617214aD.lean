/-
  Walks that make memory: cloneStrs (31), flatten (12), cloneChunks (11).
-/
import Derived.Test.Qxb6617214aC
import Derived.Deep.OwnRows
import Derived.Lib.SliceRun
namespace Go.Proofs.Qxb6617214a
open Go.RowKit

theorem info9 : (Try.prog.info? 9).map (fun i => (i.zero, i.size, i.bytes)) = some (some (.string ⟨#[]⟩), 1, 16) := by kernel_rfl
theorem info29 : (Try.prog.info? 29).map (fun i => (i.zero, i.size, i.bytes)) = some (some (.slice none 0 0), 1, 24) := by kernel_rfl

/-- The first k strings are laid, the others are zero. -/
def part (ss : List ByteArray) (k : Nat) (j : Nat) : Value := if j < k then .string (ss.getD j ByteArray.empty) else .string ⟨#[]⟩
def full (ss : List ByteArray) (j : Nat) : Value := .string (ss.getD j ByteArray.empty)

theorem rowIs_step {w : World} {b n k : Nat} {ss : List ByteArray} {x : ByteArray} (h : w.rowIs b 9 n (part ss k)) (hx : ss.getD k ByteArray.empty = x) : (w.setCell ⟨b, k, none⟩ (.string x)).rowIs b 9 n (part ss (k + 1)) := by
  refine (h.set k (.string x)).congr fun j _ => ?_
  unfold part
  by_cases e : j = k
  · subst e; rw [if_pos rfl, if_pos (by omega), hx]
  · rw [if_neg e]
    by_cases h : j < k
    · rw [if_pos h, if_pos (by omega)]
    · rw [if_neg h, if_neg (by omega)]
theorem rowIs_done {w : World} {b n k : Nat} {ss : List ByteArray} (h : w.rowIs b 9 n (part ss k)) (hk : n ≤ k) : w.rowIs b 9 n (full ss) :=
  h.congr fun j hj => by unfold part full; rw [if_pos (by omega)]

set_option maxHeartbeats 400000 in
theorem cloneStrs_some (b off c : Nat) (ss : List ByteArray) (w : World) (hl : ss.length ≤ 1073741824)
    (hc : ∀ j, j < ss.length → w.cell? ⟨b, off + j, none⟩ = some (.string (ss.getD j ByteArray.empty))) :
    Calls Try.prog 31 #[.slice (some ⟨b, off, none⟩) ss.length c] w fun e w' =>
      e = .returned (.slice (some ⟨w.heap.size, 0, none⟩) ss.length ss.length) ∧ w'.rowIs w.heap.size 9 ss.length (full ss) ∧ Below w.heap.size w w' ∧ w'.heap.size = w.heap.size + 1 := by
  have hnil := fun w => Lib.run_eql_slice_nil (P := Try.prog) w 29 9 (some ⟨b, off, none⟩) ss.length c 0 0 Try.underlying29
  have hmk := run_make_row' (P := Try.prog) 29 9 (.string ⟨#[]⟩) 16 Try.underlying29 info9 rfl .i64 .i64 ss.length (by omega) (by omega)
  go_enter Try.func31, Try.ntmps31
  go_wp2
  clear hnil hmk
  go_loopw [4] (fun i wr => ∃ k : Nat, k ≤ ss.length ∧ i = .int .i64 k ∧ wr.rowIs w.heap.size 9 ss.length (part ss k) ∧ Below w.heap.size w wr ∧ wr.heap.size = w.heap.size + 1) (fun i _ => ss.length - (intOf i).toNat)
  case atStart => exact ⟨0, Nat.zero_le _, rfl, (World.rowIs_made w _ _ 9).congr (fun j _ => by unfold part; rw [if_neg (by omega)]), (Below.refl _ _).alloc (Nat.le_refl _) _, by simp⟩
  case round =>
    obtain ⟨k, hk, rfl, hrow, hbel, hsz⟩ := hrel
    by_cases hlt : k < ss.length
    · obtain ⟨x, hxe⟩ : ∃ x, ss.getD k ByteArray.empty = x := ⟨_, rfl⟩
      have hc0 := hc k hlt
      have hblt : b < w.heap.size := World.block_lt_of_cell? w _ hc0
      have hcx : wr.cell? ⟨b, off + k, none⟩ = some (.string x) := (hbel.cell (by exact hblt)).trans (by rw [hc0, hxe])
      have hold := hrow.cell hlt
      have hfz := hrow.frozen k
      have hnext := rowIs_step hrow hxe
      have HN : Hid _ := hnext
      have HB : Hid _ := hbel
      have HZ : Hid (wr.heap.size = w.heap.size + 1) := hsz
      clear hc hc0 hrow hbel hxe hnext hsz
      generalize part ss k k = u at hold
      go_wp2
      go_roundw
      case rel => exact ⟨k + 1, by omega, by go_num, HN.out, HB.out.setCell (Nat.le_refl _) _, by simpa [World.setCell] using HZ.out⟩
      case measure => simp [intOf]; omega
    · have hfin : Hid _ := rowIs_done hrow (by omega)
      have HB : Hid _ := hbel
      have HZ : Hid (wr.heap.size = w.heap.size + 1) := hsz
      clear hrow hbel hsz hc
      go_wp2
      go_ret
      exact ⟨rfl, hfin.out, HB.out, HZ.out⟩

/-! ### flatten -/
theorem tot_le {css : List (List ByteArray)} (k : Nat) : tot (css.take k) ≤ tot css := by
  unfold tot
  conv => rhs; rw [← List.take_append_drop k css]
  rw [List.flatten_append, List.length_append]; omega
theorem tot_all {css : List (List ByteArray)} {k : Nat} (h : k = css.length) : tot (css.take k) = tot css := by rw [h, List.take_length]
theorem flat_at {css : List (List ByteArray)} {k j : Nat} {ss : List ByteArray} (hk : k < css.length) (hss : css.getD k [] = ss) (hj : j < ss.length) : css.flatten.getD (tot (css.take k) + j) ByteArray.empty = ss.getD j ByteArray.empty := by
  subst hss
  unfold tot
  conv => lhs; arg 1; rw [drop_getD css k hk]
  rw [List.flatten_append, List.flatten_cons]
  rw [List.getD_eq_getElem?_getD, List.getElem?_append_right (by omega), Nat.add_sub_cancel_left, List.getElem?_append_left hj, ← List.getD_eq_getElem?_getD]

set_option maxHeartbeats 1000000 in
theorem flatten_some (b off c : Nat) (css : List (List ByteArray)) (w : World) (hl : css.length ≤ 1073741824) (ht : tot css ≤ 1073741824) (hne : ∀ i, i < css.length → 0 < (css.getD i []).length)
    (hc : ∀ i, i < css.length → ∃ ai ci, w.cell? ⟨b, off + i, none⟩ = some (.slice ai (css.getD i []).length ci) ∧ (css.getD i []).length ≤ ci ∧ StrsA w ai (css.getD i [])) :
    Calls Try.prog 12 #[.slice (some ⟨b, off, none⟩) css.length c] w fun e w' =>
      e = .returned (.slice (some ⟨w.heap.size, 0, none⟩) (tot css) (tot css)) ∧ w'.rowIs w.heap.size 9 (tot css) (full css.flatten) ∧ Below w.heap.size w w' ∧ w'.heap.size = w.heap.size + 1 := by
  obtain ⟨T, hT⟩ : ∃ T, tot css = T := ⟨_, rfl⟩
  rw [hT] at ht ⊢
  have hmk := run_make_row' (P := Try.prog) 29 9 (.string ⟨#[]⟩) 16 Try.underlying29 info9 rfl .i64 .i64 T (by omega) (by omega)
  have HT : Hid (tot css = T) := hT
  clear hT
  go_enter Try.func12, Try.ntmps12
  go_wp2
  go_loop [3, 4] (fun n i => ∃ (k z : Nat), k ≤ css.length ∧ i = .int .i64 k ∧ n = .int .i64 z ∧ z ≤ 1073741824 ∧ Hid (tot (css.take k) = z)) (fun _ i => css.length - (intOf i).toNat)
  case atStart => exact ⟨0, 0, Nat.zero_le _, rfl, rfl, by omega, by show tot _ = 0; simp [tot]⟩
  case round =>
    obtain ⟨k, z, hk, rfl, rfl, hz, HK⟩ := hrel
    by_cases hlt : k < css.length
    · obtain ⟨ai, ci, hcell, hcap, hS⟩ := hc k hlt
      obtain ⟨ss, hss⟩ : ∃ ss, css.getD k [] = ss := ⟨_, rfl⟩
      rw [hss] at hcell
      have h1 := tot_take css k hlt hss
      have h2 := tot_le (css := css) (k + 1)
      rw [HK.out] at h1
      rw [HT.out] at h2
      have hz' : z + ss.length ≤ 1073741824 := by omega
      have H1 : Hid (tot (css.take (k + 1)) = z + ss.length) := h1
      clear hc hmk hS hcap hss h1 h2
      go_wp2
      go_round
      case rel => exact ⟨k + 1, z + ss.length, by omega, by go_num, by go_num, hz', H1.out⟩
      case measure => simp [intOf]; omega
    · have hzT : z = T := by rw [← HK.out, ← HT.out]; exact tot_all (by omega)
      subst hzT
      clear HK
      go_wp2
      clear hmk
      go_loopw [6, 7] (fun p i wr => ∃ (k q : Nat), k ≤ css.length ∧ i = .int .i64 k ∧ p = .int .i64 q ∧ q ≤ z ∧ Hid (tot (css.take k) = q) ∧ wr.rowIs w.heap.size 9 z (part css.flatten q) ∧ Below w.heap.size w wr ∧ wr.heap.size = w.heap.size + 1) (fun _ i _ => css.length - (intOf i).toNat)
      case atStart => exact ⟨0, 0, Nat.zero_le _, rfl, rfl, by omega, by show tot _ = 0; simp [tot], (World.rowIs_made w _ _ 9).congr (fun j _ => by unfold part; rw [if_neg (by omega)]), (Below.refl _ _).alloc (Nat.le_refl _) _, by simp⟩
      case round =>
        obtain ⟨k, q, hk, rfl, rfl, hq, HK, hrow, hbel, hsz⟩ := hrel
        by_cases hlt : k < css.length
        · obtain ⟨ai, ci, hcell0, hcap, hS⟩ := hc k hlt
          have hn := hne k hlt
          obtain ⟨ss, hss⟩ : ∃ ss, css.getD k [] = ss := ⟨_, rfl⟩
          rw [hss] at hcell0 hS hn
          obtain ⟨bb, oo, rfl, hcs⟩ := hS.2 hn
          have hblt : b < w.heap.size := World.block_lt_of_cell? w _ hcell0
          have hcell : wr.cell? ⟨b, off + k, none⟩ = some (.slice (some ⟨bb, oo, none⟩) ss.length ci) := (hbel.cell (by exact hblt)).trans hcell0
          have h1 := tot_take css k hlt hss
          have h2 := tot_le (css := css) (k + 1)
          rw [HK.out] at h1
          rw [HT.out] at h2
          have hz' : q + ss.length ≤ z := by omega
          have H1 : Hid (tot (css.take (k + 1)) = q + ss.length) := h1
          have HA : Hid (∀ j, j < ss.length → css.flatten.getD (q + j) ByteArray.empty = ss.getD j ByteArray.empty) := fun j hj => by rw [← HK.out]; exact flat_at hlt hss hj
          have HB : Hid _ := hbel
          have HR : Hid _ := hrow
          have HZ : Hid (wr.heap.size = w.heap.size + 1) := hsz
          have HC0 : Hid (w.cell? ⟨b, off + k, none⟩ = some (.slice (some ⟨bb, oo, none⟩) ss.length ci)) := hcell0
          have HCS : Hid (∀ j, j < ss.length → w.cell? ⟨bb, oo + j, none⟩ = some (.string (ss.getD j ByteArray.empty))) := hcs
          clear hc hne hS hcap hss h1 h2 hcell0 hrow hbel HK hsz hcs
          go_wp2
          clear hcell
          go_loopw [6, 8] (fun p i wr => ∃ (j : Nat), j ≤ ss.length ∧ i = .int .i64 j ∧ p = .int .i64 (q + j : Nat) ∧ wr.rowIs w.heap.size 9 z (part css.flatten (q + j)) ∧ Below w.heap.size w wr ∧ wr.heap.size = w.heap.size + 1) (fun _ i _ => ss.length - (intOf i).toNat)
          case atStart => exact ⟨0, Nat.zero_le _, rfl, rfl, HR.out, HB.out, HZ.out⟩
          case round =>
            obtain ⟨j, hj, rfl, rfl, hrow, hbel, hsz⟩ := hrel
            have hcell : wr.cell? ⟨b, off + k, none⟩ = some (.slice (some ⟨bb, oo, none⟩) ss.length ci) := (hbel.cell (by exact hblt)).trans HC0.out
            by_cases hjl : j < ss.length
            · obtain ⟨x, hxe⟩ : ∃ x, ss.getD j ByteArray.empty = x := ⟨_, rfl⟩
              have hc0 := HCS.out j hjl
              have hbblt : bb < w.heap.size := World.block_lt_of_cell? w _ hc0
              have hcx : wr.cell? ⟨bb, oo + j, none⟩ = some (.string x) := (hbel.cell (by exact hbblt)).trans (by rw [hc0, hxe])
              have hold := hrow.cell (i := q + j) (by omega)
              have hfz := hrow.frozen (q + j)
              have hnext := rowIs_step hrow ((HA.out j hjl).trans hxe)
              have HN : Hid _ := hnext
              have HB' : Hid _ := hbel
              have HZ' : Hid (wr.heap.size = w.heap.size + 1) := hsz
              clear hc0 hrow hbel hxe hnext hsz
              generalize part css.flatten (q + j) (q + j) = u at hold
              go_wp2
              go_roundw
              case rel => exact ⟨j + 1, by omega, by go_num, by go_num, HN.out, HB'.out.setCell (Nat.le_refl _) _, by simpa [World.setCell] using HZ'.out⟩
              case measure => simp [intOf]; omega
            · have HN : Hid _ := hrow
              have HB' : Hid _ := hbel
              have HZ' : Hid (wr.heap.size = w.heap.size + 1) := hsz
              have hje : j = ss.length := by omega
              subst hje
              clear hrow hbel hsz
              go_wp2
              go_roundw
              case rel => exact ⟨k + 1, q + ss.length, by omega, by go_num, by go_num, by omega, H1, HN.out, HB'.out, HZ'.out⟩
              case measure => simp [intOf]; omega
        · have hqz : q = z := by rw [← HK.out, ← HT.out]; exact tot_all (by omega)
          subst hqz
          have hfin : Hid _ := rowIs_done hrow (Nat.le_refl _)
          have HB : Hid _ := hbel
          have HZ : Hid (wr.heap.size = w.heap.size + 1) := hsz
          clear hrow hbel hsz hc HK
          go_wp2
          go_ret
          exact ⟨rfl, hfin.out, HB.out, HZ.out⟩
end Go.Proofs.Qxb6617214a
