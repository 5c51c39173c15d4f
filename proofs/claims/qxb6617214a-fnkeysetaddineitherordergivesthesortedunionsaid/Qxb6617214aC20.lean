/-
  The walk over zzBytes (20).
-/
import Derived.Test.Qxb6617214aC
namespace Go.Proofs.Qxb6617214a
open Go.RowKit

set_option maxHeartbeats 1000000 in
theorem zzBytes4_some (b off c : Nat) (css : List (List ByteArray)) (ch : Int) (ka kb : ByteArray) (w : World) (hl : css.length ≤ 9223372036854775807)
    (hc : ∀ i, i < css.length → ∃ ai ci, w.cell? ⟨b, off + i, none⟩ = some (.slice ai (css.getD i []).length ci) ∧ (css.getD i []).length ≤ ci ∧ StrsA w ai (css.getD i [])) :
    Calls Try.prog 20 #[.slice (some ⟨b, off, none⟩) css.length c, .int .u64 ch, .string ka, .string kb] w fun e w' => RetI (css.length + tot css ≤ 1048576) e ∧ w' = w := by
  by_cases hbig : css.length ≤ 1048576
  · go_enter Try.func20, Try.ntmps20
    go_wp2
    go_loop [9, 10] (fun n i => ∃ (k : Nat) (z : Int), k ≤ css.length ∧ i = .int .i64 k ∧ n = .int .i64 z ∧ 0 ≤ z ∧ z ≤ 1048576 ∧ CntTo css k z) (fun _ i => css.length - (intOf i).toNat)
    case atStart => exact ⟨0, css.length, Nat.zero_le _, rfl, rfl, by omega, by omega, cnt_zero css (Int.le_refl _)⟩
    case round =>
      obtain ⟨k, z, hk, rfl, rfl, hz0, hz1, hst⟩ := hrel
      by_cases hlt : k < css.length
      · obtain ⟨ai, ci, hcell, hcap, hS⟩ := hc k hlt
        clear hc
        obtain ⟨ss, hss⟩ : ∃ ss, css.getD k [] = ss := ⟨_, rfl⟩
        rw [hss] at hcell hcap hS
        have HSS : Hid (css.getD k [] = ss) := hss
        clear hss
        by_cases h1 : z + ss.length ≤ 1048576
        · have hst' := cnt_step hst hlt HSS.out (Int.le_refl _)
          clear hst
          by_cases h0 : ss.length = 0
          · rw [h0] at hcell h1 hst'
            clear hS hcap
            go_wp2
            refine wp_loop_rounds 1 ?_; rw [rounds_succ]; go_wp2
            go_round
            case rel => exact ⟨k + 1, _, by omega, by go_num, rfl, by omega, by omega, by simpa using hst'⟩
            case measure => simp [intOf]; omega
          · obtain ⟨bb, oo, rfl, hcs⟩ := hS.2 (by omega)
            clear hS
            go_wp2
            go_loop [9, 11] (fun n i => ∃ (j : Nat) (z : Int), j ≤ ss.length ∧ i = .int .i64 j ∧ n = .int .i64 z ∧ 0 ≤ z ∧ z ≤ 1048576 ∧ CntTo css (k + 1) z) (fun _ i => ss.length - (intOf i).toNat)
            case atStart => exact ⟨0, _, Nat.zero_le _, rfl, rfl, by omega, by omega, hst'⟩
            case round =>
              obtain ⟨j, z', hj, rfl, rfl, hz0', hz1', hst⟩ := hrel
              by_cases hjl : j < ss.length
              · have hx := hcs j hjl
                obtain ⟨x, hxe⟩ : ∃ x, ss.getD j ByteArray.empty = x := ⟨_, rfl⟩
                rw [hxe] at hx
                clear hxe hcs
                by_cases h2 : z' + x.size ≤ 1048576
                · go_wp2
                  go_round
                  case rel => exact ⟨j + 1, _, by omega, by go_num, rfl, by omega, by omega, cnt_more hst (by omega)⟩
                  case measure => simp [intOf]; omega
                · go_wp2
                  all_goals (go_ret; exact ⟨retI_false, rfl⟩)
              · go_wp2
                go_round
                case rel => exact ⟨k + 1, z', by omega, by go_num, rfl, by omega, by omega, hst⟩
                case measure => simp [intOf]; omega
        · go_wp2
          all_goals (go_ret; exact ⟨retI_false, rfl⟩)
      · have hok : Hid (css.length + tot css ≤ 1048576) := cnt_done hst (by omega) hz1
        clear hc hst
        go_wp2
        all_goals (go_ret; first | exact ⟨retI_false, rfl⟩ | exact ⟨retI_true hok.out, rfl⟩)
  · go_enter Try.func20, Try.ntmps20
    go_wp2
    go_ret
    exact ⟨retI_false, rfl⟩

set_option maxHeartbeats 400000 in
theorem zzBytes4_zero (a : Option Addr) (c : Nat) (ch : Int) (ka kb : ByteArray) (w : World) :
    Calls Try.prog 20 #[.slice a 0 c, .int .u64 ch, .string ka, .string kb] w fun e w' => RetI (([] : List (List ByteArray)).length + tot [] ≤ 1048576) e ∧ w' = w := by
  have hok : Hid (([] : List (List ByteArray)).length + tot [] ≤ 1048576) := by show _ ≤ _; simp [tot]
  generalize (([] : List (List ByteArray)).length + tot [] ≤ 1048576) = φ at hok ⊢
  go_enter Try.func20, Try.ntmps20
  go_wp2
  refine wp_loop_rounds 1 ?_; rw [rounds_succ]; go_wp2
  all_goals (go_ret; first | exact ⟨retI_false, rfl⟩ | exact ⟨retI_true hok.out, rfl⟩)

theorem zzBytes4_any (a : Option Addr) (c n : Nat) (css : List (List ByteArray)) (ch : Int) (ka kb : ByteArray) (w : World) (h : ChunksA w a css) (hn : n = css.length) :
    Calls Try.prog 20 #[.slice a n c, .int .u64 ch, .string ka, .string kb] w fun e w' => RetI (css.length + tot css ≤ 1048576) e ∧ w' = w := by
  subst hn
  by_cases h0 : css = []
  · subst h0; exact zzBytes4_zero a c ch ka kb w
  · have hp : 0 < css.length := List.length_pos_iff.2 h0
    obtain ⟨b, off, rfl, hc⟩ := h.2 hp
    exact zzBytes4_some b off c css ch ka kb w h.1 hc
end Go.Proofs.Qxb6617214a
