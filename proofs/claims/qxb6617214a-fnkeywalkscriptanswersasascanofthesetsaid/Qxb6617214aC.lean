/-
  The walk over zzBytes of law 6 (28).
-/
import Derived.Test.Qxb6617214aB
namespace Go.Proofs.Qxb6617214a
open Go.RowKit

/-- A bool came back; where it is true, φ holds. -/
def RetI (φ : Prop) (e : Ending) : Prop := ∃ r : Bool, e = .returned (.bool r) ∧ (r = true → φ)
theorem retI_true {φ : Prop} (h : φ) : RetI φ (.returned (.bool true)) := ⟨true, rfl, fun _ => h⟩
theorem retI_false {φ : Prop} : RetI φ (.returned (.bool false)) := ⟨false, rfl, fun h => by cases h⟩

/-- How many strings the chunks hold. -/
def tot (css : List (List ByteArray)) : Nat := css.flatten.length
theorem tot_take (css : List (List ByteArray)) (k : Nat) (h : k < css.length) {ss : List ByteArray} (hss : css.getD k [] = ss) : tot (css.take (k + 1)) = tot (css.take k) + ss.length := by
  unfold tot; rw [take_getD css k h, hss]; simp
def CntTo (css : List (List ByteArray)) (k : Nat) (z : Int) : Prop := ((css.length + tot (css.take k) : Nat) : Int) ≤ z
theorem cnt_zero (css : List (List ByteArray)) {z : Int} (h : ((css.length : Nat) : Int) ≤ z) : CntTo css 0 z := by
  unfold CntTo tot; simpa using h
theorem cnt_step {css : List (List ByteArray)} {k : Nat} {z y : Int} {ss : List ByteArray} (h : CntTo css k z) (hk : k < css.length) (hss : css.getD k [] = ss) (hy : z + ss.length ≤ y) : CntTo css (k + 1) y := by
  unfold CntTo at *; rw [tot_take css k hk hss]; omega
theorem cnt_more {css : List (List ByteArray)} {k : Nat} {z y : Int} (h : CntTo css k z) (hy : z ≤ y) : CntTo css k y := by
  unfold CntTo at *; omega
theorem cnt_done {css : List (List ByteArray)} {k : Nat} {z : Int} (h : CntTo css k z) (hk : k = css.length) (hz : z ≤ 1048576) : css.length + tot css ≤ 1048576 := by
  unfold CntTo at h; subst hk; rw [List.take_length] at h; omega

set_option maxHeartbeats 1000000 in
theorem zzBytes6_some (b off c : Nat) (css : List (List ByteArray)) (ch wch : Int) (ns wo wp wf past : Bool) (wat wkey kk : ByteArray) (w : World) (hl : css.length ≤ 9223372036854775807)
    (hc : ∀ i, i < css.length → ∃ ai ci, w.cell? ⟨b, off + i, none⟩ = some (.slice ai (css.getD i []).length ci) ∧ (css.getD i []).length ≤ ci ∧ StrsA w ai (css.getD i [])) :
    Calls Try.prog 28 #[.slice (some ⟨b, off, none⟩) css.length c, .int .u64 ch, .bool ns, .bool wo, .int .u64 wch, .string wat, .bool wp, .bool wf, .string wkey, .string kk, .bool past] w fun e w' => RetI (css.length + tot css ≤ 1048576) e ∧ w' = w := by
  by_cases hbig : css.length ≤ 1048576
  · go_enter Try.func28, Try.ntmps28
    go_wp2
    go_loop [23, 24] (fun n i => ∃ (k : Nat) (z : Int), k ≤ css.length ∧ i = .int .i64 k ∧ n = .int .i64 z ∧ 0 ≤ z ∧ z ≤ 1048576 ∧ CntTo css k z) (fun _ i => css.length - (intOf i).toNat)
    case atStart => exact ⟨0, css.length, Nat.zero_le _, rfl, rfl, by omega, by omega, cnt_zero css (Int.le_refl _)⟩
    case round =>
      obtain ⟨k, z, hk, rfl, rfl, hz0, hz1, hst⟩ := hrel
      by_cases hlt : k < css.length
      · obtain ⟨ai, ci, hcell, hcap, hS⟩ := hc k hlt
        clear hc
        obtain ⟨ss, hss⟩ : ∃ ss, css.getD k [] = ss := ⟨_, rfl⟩
        rw [hss] at hcell hcap hS
        have HSS : Hid (css.getD k [] = ss) := hss
        clear hss
        by_cases h1 : z + ss.length ≤ 1048576
        · have hst' := cnt_step hst hlt HSS.out (Int.le_refl _)
          clear hst
          by_cases h0 : ss.length = 0
          · rw [h0] at hcell h1 hst'
            clear hS hcap
            go_wp2
            refine wp_loop_rounds 1 ?_; rw [rounds_succ]; go_wp2
            go_round
            case rel => exact ⟨k + 1, _, by omega, by go_num, rfl, by omega, by omega, by simpa using hst'⟩
            case measure => simp [intOf]; omega
          · obtain ⟨bb, oo, rfl, hcs⟩ := hS.2 (by omega)
            clear hS
            go_wp2
            go_loop [23, 25] (fun n i => ∃ (j : Nat) (z : Int), j ≤ ss.length ∧ i = .int .i64 j ∧ n = .int .i64 z ∧ 0 ≤ z ∧ z ≤ 1048576 ∧ CntTo css (k + 1) z) (fun _ i => ss.length - (intOf i).toNat)
            case atStart => exact ⟨0, _, Nat.zero_le _, rfl, rfl, by omega, by omega, hst'⟩
            case round =>
              obtain ⟨j, z', hj, rfl, rfl, hz0', hz1', hst⟩ := hrel
              by_cases hjl : j < ss.length
              · have hx := hcs j hjl
                obtain ⟨x, hxe⟩ : ∃ x, ss.getD j ByteArray.empty = x := ⟨_, rfl⟩
                rw [hxe] at hx
                clear hxe hcs
                by_cases h2 : z' + x.size ≤ 1048576
                · go_wp2
                  go_round
                  case rel => exact ⟨j + 1, _, by omega, by go_num, rfl, by omega, by omega, cnt_more hst (by omega)⟩
                  case measure => simp [intOf]; omega
                · go_wp2
                  all_goals (go_ret; exact ⟨retI_false, rfl⟩)
              · go_wp2
                go_round
                case rel => exact ⟨k + 1, z', by omega, by go_num, rfl, by omega, by omega, hst⟩
                case measure => simp [intOf]; omega
        · go_wp2
          all_goals (go_ret; exact ⟨retI_false, rfl⟩)
      · have hok : Hid (css.length + tot css ≤ 1048576) := cnt_done hst (by omega) hz1
        clear hc hst
        go_wp2
        all_goals (go_ret; first | exact ⟨retI_false, rfl⟩ | exact ⟨retI_true hok.out, rfl⟩)
  · go_enter Try.func28, Try.ntmps28
    go_wp2
    go_ret
    exact ⟨retI_false, rfl⟩

set_option maxHeartbeats 400000 in
theorem zzBytes6_zero (a : Option Addr) (c : Nat) (ch wch : Int) (ns wo wp wf past : Bool) (wat wkey kk : ByteArray) (w : World) :
    Calls Try.prog 28 #[.slice a 0 c, .int .u64 ch, .bool ns, .bool wo, .int .u64 wch, .string wat, .bool wp, .bool wf, .string wkey, .string kk, .bool past] w fun e w' => RetI (([] : List (List ByteArray)).length + tot [] ≤ 1048576) e ∧ w' = w := by
  have hok : Hid (([] : List (List ByteArray)).length + tot [] ≤ 1048576) := by show _ ≤ _; simp [tot]
  generalize (([] : List (List ByteArray)).length + tot [] ≤ 1048576) = φ at hok ⊢
  go_enter Try.func28, Try.ntmps28
  go_wp2
  refine wp_loop_rounds 1 ?_; rw [rounds_succ]; go_wp2
  all_goals (go_ret; first | exact ⟨retI_false, rfl⟩ | exact ⟨retI_true hok.out, rfl⟩)

theorem zzBytes6_any (a : Option Addr) (c n : Nat) (css : List (List ByteArray)) (ch wch : Int) (ns wo wp wf past : Bool) (wat wkey kk : ByteArray) (w : World) (h : ChunksA w a css) (hn : n = css.length) :
    Calls Try.prog 28 #[.slice a n c, .int .u64 ch, .bool ns, .bool wo, .int .u64 wch, .string wat, .bool wp, .bool wf, .string wkey, .string kk, .bool past] w fun e w' => RetI (css.length + tot css ≤ 1048576) e ∧ w' = w := by
  subst hn
  by_cases h0 : css = []
  · subst h0; exact zzBytes6_zero a c ch wch ns wo wp wf past wat wkey kk w
  · have hp : 0 < css.length := List.length_pos_iff.2 h0
    obtain ⟨b, off, rfl, hc⟩ := h.2 hp
    exact zzBytes6_some b off c css ch wch ns wo wp wf past wat wkey kk w h.1 hc
end Go.Proofs.Qxb6617214a
