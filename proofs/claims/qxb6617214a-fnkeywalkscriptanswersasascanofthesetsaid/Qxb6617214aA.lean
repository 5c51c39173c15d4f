/-
  The walks over the functions that only count: zzAdd (8), strsBytes (23), chunksBytes (9).
-/
import Derived.Test.Qxb6617214aProg
import Derived.WalkKit
import Derived.WalkSpells
import Derived.WalkLawsBesides
import Derived.Deep.LoopGhost
namespace Go.Proofs.Qxb6617214a
open Go.RowKit

/-- A slice of strings that came in or was made: its address a, its elements ss. -/
def StrsA (w : World) (a : Option Addr) (ss : List ByteArray) : Prop :=
  ss.length ≤ 9223372036854775807 ∧ (0 < ss.length → ∃ b off, a = some ⟨b, off, none⟩ ∧ ∀ j, j < ss.length → w.cell? ⟨b, off + j, none⟩ = some (.string (ss.getD j ByteArray.empty)))

/-- A slice of slices of strings. -/
def ChunksA (w : World) (a : Option Addr) (css : List (List ByteArray)) : Prop :=
  css.length ≤ 9223372036854775807 ∧ (0 < css.length → ∃ b off, a = some ⟨b, off, none⟩ ∧ ∀ i, i < css.length → ∃ ai ci, w.cell? ⟨b, off + i, none⟩ = some (.slice ai (css.getD i []).length ci) ∧ (css.getD i []).length ≤ ci ∧ StrsA w ai (css.getD i []))

set_option maxHeartbeats 400000 in
theorem zzAdd_any (t p : Int) (w : World) (ht : 0 ≤ t) (hp : 0 ≤ p) :
    Calls Try.prog 8 #[.int .i64 t, .int .i64 p] w fun e w' => ∃ r : Int, e = .returned (.int .i64 r) ∧ 0 ≤ r ∧ r ≤ 1048577 ∧ w' = w := by
  by_cases h1 : t ≤ 1048576
  · by_cases h2 : p ≤ 1048576
    · by_cases h3 : t + p ≤ 1048576
      · go_enter Try.func8, Try.ntmps8
        go_wp2
        go_ret
        exact ⟨_, rfl, by omega, by omega, rfl⟩
      · go_enter Try.func8, Try.ntmps8
        go_wp2
        go_ret
        exact ⟨_, rfl, by omega, by omega, rfl⟩
    · go_enter Try.func8, Try.ntmps8
      go_wp2
      go_ret
      exact ⟨_, rfl, by omega, by omega, rfl⟩
  · go_enter Try.func8, Try.ntmps8
    go_wp2
    go_ret
    exact ⟨_, rfl, by omega, by omega, rfl⟩

set_option maxHeartbeats 400000 in
theorem strsBytes_some (b off c : Nat) (ss : List ByteArray) (w : World) (hl : ss.length ≤ 9223372036854775807)
    (hc : ∀ j, j < ss.length → w.cell? ⟨b, off + j, none⟩ = some (.string (ss.getD j ByteArray.empty))) :
    Calls Try.prog 23 #[.slice (some ⟨b, off, none⟩) ss.length c] w fun e w' => ∃ r : Int, e = .returned (.int .i64 r) ∧ 0 ≤ r ∧ r ≤ 1048577 ∧ w' = w := by
  go_enter Try.func23, Try.ntmps23
  go_wp2
  go_loop [3, 4] (fun n i => ∃ (k : Nat) (z : Int), k ≤ ss.length ∧ i = .int .i64 k ∧ n = .int .i64 z ∧ 0 ≤ z ∧ z ≤ 1048576) (fun _ i => ss.length - (intOf i).toNat)
  case atStart => exact ⟨0, 0, Nat.zero_le _, rfl, rfl, by omega, by omega⟩
  case round =>
    obtain ⟨k, z, hk, rfl, rfl, hz0, hz1⟩ := hrel
    by_cases hlt : k < ss.length
    · have hcell := hc k hlt
      go_wp2_with (first | (go_at_call 8; refine (zzAdd_any _ _ _ (by omega) (by omega)).mono ?_; rintro e w' ⟨r, rfl, hr0, hr1, rfl⟩))
      · go_ret
        exact ⟨_, rfl, by omega, by omega, rfl⟩
      · go_round
        case rel => exact ⟨k + 1, r, by omega, by go_num, rfl, by omega, by omega⟩
        case measure => simp [intOf]; omega
    · go_wp2
      go_ret
      exact ⟨_, rfl, by omega, by omega, rfl⟩

set_option maxHeartbeats 400000 in
theorem strsBytes_zero (a : Option Addr) (c : Nat) (w : World) :
    Calls Try.prog 23 #[.slice a 0 c] w fun e w' => ∃ r : Int, e = .returned (.int .i64 r) ∧ 0 ≤ r ∧ r ≤ 1048577 ∧ w' = w := by
  go_enter Try.func23, Try.ntmps23
  go_wp2
  refine wp_loop_rounds 1 ?_; rw [rounds_succ]; go_wp2
  go_ret
  exact ⟨_, rfl, by omega, by omega, rfl⟩

theorem strsBytes_any (a : Option Addr) (c n : Nat) (ss : List ByteArray) (w : World) (h : StrsA w a ss) (hn : n = ss.length) :
    Calls Try.prog 23 #[.slice a n c] w fun e w' => ∃ r : Int, e = .returned (.int .i64 r) ∧ 0 ≤ r ∧ r ≤ 1048577 ∧ w' = w := by
  subst hn
  by_cases h0 : ss.length = 0
  · rw [h0]; exact strsBytes_zero a c w
  · obtain ⟨b, off, rfl, hc⟩ := h.2 (by omega)
    exact strsBytes_some b off c ss w h.1 hc

set_option maxHeartbeats 400000 in
theorem chunksBytes_some (b off c : Nat) (css : List (List ByteArray)) (w : World) (hl : css.length ≤ 9223372036854775807)
    (hc : ∀ i, i < css.length → ∃ ai ci, w.cell? ⟨b, off + i, none⟩ = some (.slice ai (css.getD i []).length ci) ∧ (css.getD i []).length ≤ ci ∧ StrsA w ai (css.getD i [])) :
    Calls Try.prog 9 #[.slice (some ⟨b, off, none⟩) css.length c] w fun e w' => ∃ r : Int, e = .returned (.int .i64 r) ∧ 0 ≤ r ∧ r ≤ 1048577 ∧ w' = w := by
  go_enter Try.func9, Try.ntmps9
  go_wp2
  go_loop [3, 4] (fun n i => ∃ (k : Nat) (z : Int), k ≤ css.length ∧ i = .int .i64 k ∧ n = .int .i64 z ∧ 0 ≤ z ∧ z ≤ 1048576) (fun _ i => css.length - (intOf i).toNat)
  case atStart => exact ⟨0, 0, Nat.zero_le _, rfl, rfl, by omega, by omega⟩
  case round =>
    obtain ⟨k, z, hk, rfl, rfl, hz0, hz1⟩ := hrel
    by_cases hlt : k < css.length
    · obtain ⟨ai, ci, hcell, hcap, hS⟩ := hc k hlt
      clear hc
      generalize hss : css.getD k [] = ss at *
      clear hss
      generalize hn : ss.length = n at *
      have HN : Hid (ss.length = n) := hn
      clear hn
      go_wp2_with (first | (go_at_call 8; refine (zzAdd_any _ _ _ (by omega) (by omega)).mono ?_; rintro e w' ⟨r, rfl, hr0, hr1, rfl⟩) | (go_at_call 23; refine (strsBytes_any _ _ _ ss _ hS HN.out.symm).mono ?_; rintro e w' ⟨r, rfl, hr0, hr1, rfl⟩))
      · go_ret
        exact ⟨_, rfl, by omega, by omega, rfl⟩
      · go_round
        case rel => exact ⟨k + 1, _, by omega, by go_num, rfl, by omega, by omega⟩
        case measure => simp [intOf]; omega
    · go_wp2
      go_ret
      exact ⟨_, rfl, by omega, by omega, rfl⟩

set_option maxHeartbeats 400000 in
theorem chunksBytes_zero (a : Option Addr) (c : Nat) (w : World) :
    Calls Try.prog 9 #[.slice a 0 c] w fun e w' => ∃ r : Int, e = .returned (.int .i64 r) ∧ 0 ≤ r ∧ r ≤ 1048577 ∧ w' = w := by
  go_enter Try.func9, Try.ntmps9
  go_wp2
  refine wp_loop_rounds 1 ?_; rw [rounds_succ]; go_wp2
  go_ret
  exact ⟨_, rfl, by omega, by omega, rfl⟩

theorem chunksBytes_any (a : Option Addr) (c n : Nat) (css : List (List ByteArray)) (w : World) (h : ChunksA w a css) (hn : n = css.length) :
    Calls Try.prog 9 #[.slice a n c] w fun e w' => ∃ r : Int, e = .returned (.int .i64 r) ∧ 0 ≤ r ∧ r ≤ 1048577 ∧ w' = w := by
  subst hn
  by_cases h0 : css.length = 0
  · rw [h0]; exact chunksBytes_zero a c w
  · obtain ⟨b, off, rfl, hc⟩ := h.2 (by omega)
    exact chunksBytes_some b off c css w h.1 hc
end Go.Proofs.Qxb6617214a
