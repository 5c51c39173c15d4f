/-
  Law 2 (FnAllDigitsByteByByte): the walk.
-/
import Derived.Test.Qxb6617228aB
import Derived.BigQuiet
import Derived.Deep.QuietTactic
import Derived.Deep.DeepCutAuto
import Derived.Below
import Derived.Laws.Concat
namespace Go.Proofs.Qxb6617228a
open Go.RowKit
set_option linter.unusedVariables false

/-- How many bytes below b are digits. -/
def cnt (b : Nat) : Nat := min b 58 - min b 48
theorem cnt_yes {b : Nat} (h1 : 48 ≤ b) (h2 : b ≤ 57) : cnt (b + 1) = cnt b + 1 := by unfold cnt; omega
theorem cnt_no {b : Nat} (h : ¬ (48 ≤ b ∧ b ≤ 57)) : cnt (b + 1) = cnt b := by unfold cnt; omega
theorem allD_one (x : UInt8) : allD [x] = dg x := by simp [allD]

def one (b : Nat) : ByteArray := ⟨#[UInt8.ofNat b]⟩
theorem one_digit (b : Nat) (h : b < 256) : allD (one b).data.toList = decide (48 ≤ b ∧ b ≤ 57) := by
  show allD [UInt8.ofNat b] = _
  rw [allD_one]
  unfold dg
  rw [show (UInt8.ofNat b).toNat = b from by simp [UInt8.toNat_ofNat']; omega]
  simp

theorem conv_one (w : World) (b : Nat) (h : b < 256) : (convert 27 9 (.slice (some ⟨w.heap.size, 0, none⟩) 1 1)).run Try.prog (w.alloc (.cells #[.int .u8 b] 5)) = .ok (.string (one b)) (w.alloc (.cells #[.int .u8 b] 5)) := by
  have := run_convert_bytes_arg (P := Try.prog) (w.alloc (.cells #[.int .u8 b] 5)) 27 5 Try.underlying27 Try.underlying5 w.heap.size 0 1 1 [(b : Int)] rfl (by
    intro i hi
    obtain rfl : i = 0 := by omega
    have hn : (w.alloc (.cells #[.int .u8 b] 5)).heap[w.heap.size]? = some (.cells #[.int .u8 b] 5) := heap_alloc_new w _
    unfold World.cell?
    rw [hn]
    rfl) 9 Try.underlying9
  exact this

/-- What 'every' holds ahead of round k. -/
def evr (s : ByteArray) (k : Nat) : Bool := decide (0 < s.size) && (s.data.toList.take k).all dg
theorem evr_zero (s : ByteArray) : evr s 0 = decide (0 < s.size) := by simp [evr]
theorem piece (s : ByteArray) (k : Nat) (h : k < s.size) : (s.extract k (k + 1)).data.toList = [s[k]] := by
  rw [← data_get s k h]
  have hl : s.data.toList.length = s.size := by simp
  have e : (s.extract k (k + 1)).data.toList = (s.data.toList.drop k).take 1 := by simp
  rw [e, List.drop_eq_getElem_cons (by omega)]
  rfl
theorem evr_yes (s : ByteArray) (k : Nat) (h : k < s.size) (hd : dg s[k] = true) : evr s (k + 1) = evr s k := by
  have hl : s.data.toList.length = s.size := by simp
  unfold evr
  rw [take_succ_get _ _ (by omega), List.all_append, data_get s k h]
  simp [hd]
theorem evr_no (s : ByteArray) (k : Nat) (h : k < s.size) (hd : dg s[k] = false) : evr s (k + 1) = false := by
  have hl : s.data.toList.length = s.size := by simp
  unfold evr
  rw [take_succ_get _ _ (by omega), List.all_append, data_get s k h]
  simp [hd]
theorem evr_end (s : ByteArray) : allD s.data.toList = evr s s.size := by
  have hl : s.data.toList.length = s.size := by simp
  unfold evr
  rw [List.take_of_length_le (by omega)]
  unfold allD
  congr 1
  rw [← hl]
  cases s.data.toList with
  | nil => rfl
  | cons a l => simp

set_option maxRecDepth 100000 in
set_option maxHeartbeats 4000000 in
theorem law4_in (s : ByteArray) (n : Int) (h0 : 0 ≤ n) (h1 : n ≤ 18446744073709551615) (w : World) (hs : s.size ≤ 1048576) :
    Calls Try.prog 4 #[.string s, .int .u64 n] w fun e w' => e = .returned (.bool true) ∧ Grown w w' := by
  have hs' : (s.size : Int) ≤ 1048576 := by omega
  have hdec : decide (s.size ≤ 1048576) = true := by simpa using hs
  go_enter Try.func4, Try.ntmps4
  go_wp2_with (go_at_call 8; refine (zzBytes8_any s _ _).mono ?_; rw [hdec]; rintro e w ⟨rfl, rfl⟩)
  go_loopw [5, 6] (fun c b wr => ∃ k : Nat, k ≤ 256 ∧ c = .int .i64 (cnt k : Nat) ∧ b = .int .i64 k ∧ Grown w wr) (fun c b _ => 256 - (intOf b).toNat)
  case atStart => exact ⟨0, by omega, rfl, rfl, Grown.refl _⟩
  case round =>
    obtain ⟨k, hk, rfl, rfl, hg⟩ := hrel
    by_cases hlt : k < 256
    · have hlt' : (k : Int) < 256 := by omega
      have hcv := conv_one wr k hlt
      have hc10 : cnt k ≤ 256 := by unfold cnt; omega
      go_wp2_with fail
      refine (zz_any _ _ (by show 1 ≤ _; omega)).mono ?_
      rintro e w2 ⟨rfl, rfl⟩
      rw [one_digit k hlt]
      have hg2 := hg.alloc #[.int .u8 k] 5
      clear hcv hg
      by_cases hd : 48 ≤ k ∧ k ≤ 57
      · rw [decide_eq_true hd]
        have hcn := cnt_yes hd.1 hd.2
        go_wp2
        go_roundw
        case rel => exact ⟨k + 1, by omega, by rw [hcn]; go_num, by go_num, hg2⟩
        case measure => simp [intOf]; omega
      · rw [decide_eq_false hd]
        have hcn := cnt_no hd
        go_wp2
        go_roundw
        case rel => exact ⟨k + 1, by omega, by rw [hcn], by go_num, hg2⟩
        case measure => simp [intOf]; omega
    · obtain rfl : k = 256 := by omega
      have hten : ((cnt 256 : Nat) : Int) = 10 := by rfl
      have h256 : ((256 : Nat) : Int) = 256 := by rfl
      rw [hten, h256]
      have HG : Hid (Grown w wr) := hg
      clear hg hlt hk hten h256
      go_wp2
      go_loopw [8, 9] (fun e b wx => ∃ k : Nat, k ≤ s.size ∧ e = .bool (evr s k) ∧ b = .int .i64 k ∧ wx = wr) (fun e b _ => s.size - (intOf b).toNat)
      case atStart => exact ⟨0, by omega, by rw [evr_zero], rfl, rfl⟩
      case round =>
        obtain ⟨k, hk, rfl, rfl, rfl⟩ := hrel
        by_cases hlt : k < s.size
        · have hlt' : (k : Int) < (s.size : Int) := by omega
          have hk1 : (k : Int) + 1 ≤ (s.size : Int) := by omega
          have hpc := piece s k hlt
          have hps : (s.extract k (k + 1)).size ≤ 140737488351232 := by
            have : (s.extract k (k + 1)).data.toList.length = (s.extract k (k + 1)).size := by rw [Array.length_toList]; rfl
            have h2 : (s.extract k (k + 1)).size = 1 := by rw [← this, hpc]; rfl
            omega
          go_wp2_with fail
          refine (zz_any _ _ hps).mono ?_
          rintro e w2 ⟨rfl, rfl⟩
          rw [hpc, allD_one]
          cases hd : dg s[k] with
          | true =>
            have hst := evr_yes s k hlt hd
            generalize evr s k = E at hst
            go_wp2
            go_roundw
            case rel => exact ⟨k + 1, by omega, by rw [hst], by go_num, by first | trivial | rfl⟩
            case measure => simp [intOf]; omega
          | false =>
            have hst := evr_no s k hlt hd
            generalize evr s k = E
            go_wp2
            go_roundw
            case rel => exact ⟨k + 1, by omega, by rw [hst], by go_num, by first | trivial | rfl⟩
            case measure => simp [intOf]; omega
        · obtain rfl : k = s.size := by omega
          have hend := evr_end s
          generalize evr s s.size = E at hend
          go_wp2_with fail
          refine (text_any n h0 h1 _).mono ?_
          rintro e w1 ⟨⟨d, rfl, hd, hds⟩, hg⟩
          have HG2 : Hid (Grown w w1) := ⟨World.keptBut_trans HG.out.1 hg.1, fun a => (hg.2.1 a).trans (HG.out.2.1 a), Nat.le_trans HG.out.2.2 hg.2.2⟩
          clear hg HG
          go_wp2_with fail
          refine (zz_any s _ (by omega)).mono ?_
          rintro e w2 ⟨rfl, rfl⟩
          rw [hend]
          have z6 : ∀ w, Calls Try.prog 7 #[.string d] w fun e w' => e = .returned (.bool true) ∧ w' = w := fun w => by
            rw [← hd]; exact zz_any d w (by omega)
          clear hd hds hend
          cases E
          all_goals
            go_wp2_with fail
            refine (z6 _).mono ?_
            rintro e w2 ⟨rfl, rfl⟩
            go_wp2
            go_ret
            exact ⟨rfl, HG2.out⟩

theorem law4_any (s : ByteArray) (n : Int) (h0 : 0 ≤ n) (h1 : n ≤ 18446744073709551615) (w : World) :
    Calls Try.prog 4 #[.string s, .int .u64 n] w fun e w' => e = .returned (.bool true) ∧ Grown w w' := by
  by_cases hs : s.size ≤ 1048576
  · exact law4_in s n h0 h1 w hs
  · have hdec : decide (s.size ≤ 1048576) = false := by simpa using hs
    go_enter Try.func4, Try.ntmps4
    go_wp2_with (go_at_call 8; refine (zzBytes8_any s _ _).mono ?_; rw [hdec]; rintro e w' ⟨rfl, rfl⟩)
    go_ret
    exact ⟨rfl, Grown.refl _⟩
end Go.Proofs.Qxb6617228a
