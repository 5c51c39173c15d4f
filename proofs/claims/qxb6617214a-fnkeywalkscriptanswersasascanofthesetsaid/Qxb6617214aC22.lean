/-
  The walk over zzBytes of the script's law (22), and countBytes (24).
-/
import Derived.Test.Qxb6617214aC
namespace Go.Proofs.Qxb6617214a
open Go.RowKit
set_option linter.unusedVariables false

theorem countBytes_any (n : Int) (w : World) (h : 0 ≤ n) : Calls Try.prog 24 #[.int .i64 n, .int .i64 1] w fun e w' => ∃ r : Int, e = .returned (.int .i64 r) ∧ 0 ≤ r ∧ r ≤ 1048577 ∧ w' = w := by
  by_cases h1 : n ≤ 1048576
  · go_enter Try.func24, Try.ntmps24
    go_wp2
    go_ret
    exact ⟨_, rfl, by omega, by omega, rfl⟩
  · go_enter Try.func24, Try.ntmps24
    go_wp2
    go_ret
    exact ⟨_, rfl, by omega, by omega, rfl⟩

set_option maxRecDepth 100000 in
set_option maxHeartbeats 4000000 in
theorem zzBytes5_any (a a2 a3 a4 : Option Addr) (c c2 c3 c4 n n2 n3 n4 : Nat) (css : List (List ByteArray)) (ks ts : List ByteArray) (ch : Int) (w : World) (h : ChunksA w a css) (hn : n = css.length)
    (hk : StrsA w a2 ks) (hn2 : n2 = ks.length) (ht : StrsA w a4 ts) (hn4 : n4 = ts.length) (hn3 : n3 ≤ 9223372036854775807) :
    Calls Try.prog 22 #[.slice a n c, .int .u64 ch, .slice a2 n2 c2, .slice a3 n3 c3, .slice a4 n4 c4] w fun e w' => RetI (css.length + tot css ≤ 1048576 ∧ n2 ≤ 1048576) e ∧ w' = w := by
  have hl := h.1
  have hl2 := hk.1
  have hl4 := ht.1
  rw [← hn] at hl
  rw [← hn2] at hl2
  rw [← hn4] at hl4
  have HC : Hid (∀ i, i < n → ∃ b off ai ci, a = some ⟨b, off, none⟩ ∧ w.cell? ⟨b, off + i, none⟩ = some (.slice ai (css.getD i []).length ci) ∧ (css.getD i []).length ≤ ci ∧ StrsA w ai (css.getD i [])) := fun i hi => by
    obtain ⟨b, off, ha, hc⟩ := h.2 (by omega)
    obtain ⟨ai, ci, h1, h2, h3⟩ := hc i (by omega)
    exact ⟨b, off, ai, ci, ha, h1, h2, h3⟩
  have HK : Hid (∀ i, i < n2 → ∃ b off, a2 = some ⟨b, off, none⟩ ∧ w.cell? ⟨b, off + i, none⟩ = some (.string (ks.getD i ByteArray.empty))) := fun i hi => by
    obtain ⟨b, off, ha, hc⟩ := hk.2 (by omega)
    exact ⟨b, off, ha, hc i (by omega)⟩
  have HT : Hid (∀ i, i < n4 → ∃ b off, a4 = some ⟨b, off, none⟩ ∧ w.cell? ⟨b, off + i, none⟩ = some (.string (ts.getD i ByteArray.empty))) := fun i hi => by
    obtain ⟨b, off, ha, hc⟩ := ht.2 (by omega)
    exact ⟨b, off, ha, hc i (by omega)⟩
  have HN : Hid (n = css.length) := hn
  clear h hk ht hn hn2 hn4
  by_cases hbig : n ≤ 1048576
  · go_enter Try.func22, Try.ntmps22
    go_wp2
    go_loop [11, 12] (fun nn i => ∃ (k : Nat) (z : Int), k ≤ n ∧ i = .int .i64 k ∧ nn = .int .i64 z ∧ 0 ≤ z ∧ z ≤ 1048576 ∧ CntTo css k z) (fun _ i => n - (intOf i).toNat)
    case atStart => exact ⟨0, n, Nat.zero_le _, rfl, rfl, by omega, by omega, cnt_zero css (by rw [HN.out]; exact Int.le_refl _)⟩
    case round =>
      obtain ⟨k, z, hk, rfl, rfl, hz0, hz1, hst⟩ := hrel
      by_cases hlt : k < n
      · obtain ⟨b, off, ai, ci, rfl, hcell, hcap, hS⟩ := HC.out k hlt
        clear HC HK HT
        obtain ⟨ss, hss⟩ : ∃ ss, css.getD k [] = ss := ⟨_, rfl⟩
        rw [hss] at hcell hcap hS
        have HSS : Hid (css.getD k [] = ss) := hss
        clear hss
        by_cases h1 : z + ss.length ≤ 1048576
        · have hst' := cnt_step hst (by rw [← HN.out]; exact hlt) HSS.out (Int.le_refl _)
          clear hst
          by_cases h0 : ss.length = 0
          · rw [h0] at hcell h1 hst'
            clear hS hcap
            go_wp2
            refine wp_loop_rounds 1 ?_; rw [rounds_succ]; go_wp2
            go_round
            case rel => exact ⟨k + 1, _, by omega, by go_num, rfl, by omega, by omega, by simpa using hst'⟩
            case measure => simp [intOf]; omega
          · obtain ⟨bb, oo, rfl, hcs⟩ := hS.2 (by omega)
            clear hS
            go_wp2
            go_loop [11, 13] (fun nn i => ∃ (j : Nat) (z : Int), j ≤ ss.length ∧ i = .int .i64 j ∧ nn = .int .i64 z ∧ 0 ≤ z ∧ z ≤ 1048576 ∧ CntTo css (k + 1) z) (fun _ i => ss.length - (intOf i).toNat)
            case atStart => exact ⟨0, _, Nat.zero_le _, rfl, rfl, by omega, by omega, hst'⟩
            case round =>
              obtain ⟨j, z', hj, rfl, rfl, hz0', hz1', hst⟩ := hrel
              by_cases hjl : j < ss.length
              · have hx := hcs j hjl
                obtain ⟨x, hxe⟩ : ∃ x, ss.getD j ByteArray.empty = x := ⟨_, rfl⟩
                rw [hxe] at hx
                clear hxe hcs
                by_cases h2 : z' + x.size ≤ 1048576
                · go_wp2
                  go_round
                  case rel => exact ⟨j + 1, _, by omega, by go_num, rfl, by omega, by omega, cnt_more hst (by omega)⟩
                  case measure => simp [intOf]; omega
                · go_wp2
                  all_goals (go_ret; exact ⟨retI_false, rfl⟩)
              · go_wp2
                go_round
                case rel => exact ⟨k + 1, z', by omega, by go_num, rfl, by omega, by omega, hst⟩
                case measure => simp [intOf]; omega
        · go_wp2
          all_goals (go_ret; exact ⟨retI_false, rfl⟩)
      · have hok : Hid (css.length + tot css ≤ 1048576) := cnt_done hst (by rw [← HN.out]; omega) hz1
        clear HC hst
        by_cases hn2 : z + n2 ≤ 1048576
        · have hn2' : (n2 : Int) ≤ 1048576 := by omega
          go_wp2
          go_loop [11, 14] (fun nn i => ∃ (k : Nat) (z : Int), k ≤ n2 ∧ i = .int .i64 k ∧ nn = .int .i64 z ∧ 0 ≤ z ∧ z ≤ 1048576) (fun _ i => n2 - (intOf i).toNat)
          case atStart => exact ⟨0, _, Nat.zero_le _, rfl, rfl, by omega, by omega⟩
          case round =>
            obtain ⟨j, z', hj, rfl, rfl, hz0', hz1'⟩ := hrel
            by_cases hjl : j < n2
            · obtain ⟨b, off, rfl, hx⟩ := HK.out j hjl
              obtain ⟨x, hxe⟩ : ∃ x, ks.getD j ByteArray.empty = x := ⟨_, rfl⟩
              rw [hxe] at hx
              clear hxe HK HT
              by_cases h2 : z' + x.size ≤ 1048576
              · go_wp2
                go_round
                case rel => exact ⟨j + 1, _, by omega, by go_num, rfl, by omega, by omega⟩
                case measure => simp [intOf]; omega
              · go_wp2
                all_goals (go_ret; exact ⟨retI_false, rfl⟩)
            · clear HK
              by_cases h3 : z' + n3 ≤ 1048576
              · by_cases h4 : z' + n3 + n4 ≤ 1048576
                · go_wp2
                  go_loop [11, 15] (fun nn i => ∃ (k : Nat) (z : Int), k ≤ n4 ∧ i = .int .i64 k ∧ nn = .int .i64 z ∧ 0 ≤ z ∧ z ≤ 1048576) (fun _ i => n4 - (intOf i).toNat)
                  case atStart => exact ⟨0, _, Nat.zero_le _, rfl, rfl, by omega, by omega⟩
                  case round =>
                    obtain ⟨i4, z4, hi4, rfl, rfl, hz04, hz14⟩ := hrel
                    by_cases hil : i4 < n4
                    · obtain ⟨b, off, rfl, hx⟩ := HT.out i4 hil
                      obtain ⟨x, hxe⟩ : ∃ x, ts.getD i4 ByteArray.empty = x := ⟨_, rfl⟩
                      rw [hxe] at hx
                      clear hxe HT
                      by_cases h2 : z4 + x.size ≤ 1048576
                      · go_wp2
                        go_round
                        case rel => exact ⟨i4 + 1, _, by omega, by go_num, rfl, by omega, by omega⟩
                        case measure => simp [intOf]; omega
                      · go_wp2
                        all_goals (go_ret; exact ⟨retI_false, rfl⟩)
                    · have hfin : Hid (css.length + tot css ≤ 1048576 ∧ n2 ≤ 1048576) := ⟨hok.out, by omega⟩
                      clear HT hok
                      go_wp2
                      all_goals (go_ret; first | exact ⟨retI_false, rfl⟩ | exact ⟨retI_true hfin.out, rfl⟩)
                · go_wp2
                  all_goals (go_ret; exact ⟨retI_false, rfl⟩)
              · go_wp2
                all_goals (go_ret; exact ⟨retI_false, rfl⟩)
        · go_wp2
          all_goals (go_ret; exact ⟨retI_false, rfl⟩)
  · go_enter Try.func22, Try.ntmps22
    go_wp2
    go_ret
    exact ⟨retI_false, rfl⟩
end Go.Proofs.Qxb6617214a
