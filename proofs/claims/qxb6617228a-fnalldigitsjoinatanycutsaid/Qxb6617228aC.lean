/-
  Law 1 (FnAllDigitsJoinAtAnyCut): the plain law and the walk.
-/
import Derived.Test.Qxb6617228aB
import Derived.BigQuiet
import Derived.Deep.QuietTactic
import Derived.Laws.Concat
import Derived.Deep.DeepCutAuto
import Derived.Below
namespace Go.Proofs.Qxb6617228a
open Go.RowKit
set_option linter.unusedVariables false

/-! ### The plain law -/
theorem allD_append {a b : List UInt8} : (a ++ b).all dg = (a.all dg && b.all dg) := List.all_append
theorem allD_of_ne {l : List UInt8} (h : l ≠ []) : allD l = l.all dg := by
  cases l with
  | nil => exact absurd rfl h
  | cons a l => simp [allD]
theorem allD_nil : allD [] = false := rfl

def lst (s : ByteArray) : List UInt8 := s.data.toList
theorem lst_len (s : ByteArray) : (lst s).length = s.size := by unfold lst; simp
theorem lst_append (a b : ByteArray) : lst (a ++ b) = lst a ++ lst b := by unfold lst; simp
theorem lst_left (s : ByteArray) (k : Nat) (h : k ≤ s.size) : lst (s.extract 0 k) = (lst s).take k := by unfold lst; simp
theorem lst_right (s : ByteArray) (k : Nat) (h : k ≤ s.size) : lst (s.extract k s.size) = (lst s).drop k := by
  unfold lst
  simp
  rw [List.take_of_length_le]
  simp

theorem whole_eq (l : List UInt8) (k : Nat) : l.all dg = ((l.take k).all dg && (l.drop k).all dg) := by
  rw [← List.all_append, List.take_append_drop]
theorem in_eq (l d : List UInt8) (k : Nat) (hd : d.all dg = true) (hne : d ≠ []) : allD (l.take k ++ d ++ l.drop k) = l.all dg := by
  rw [allD_of_ne (by simp [hne]), List.all_append, List.all_append, hd, Bool.and_true, ← whole_eq]
theorem allD_all {l : List UInt8} (h : allD l = true) : l.all dg = true ∧ l ≠ [] := by
  unfold allD at h
  rw [Bool.and_eq_true] at h
  exact ⟨h.2, fun e => by rw [e] at h; simp at h⟩
theorem dbl_eq (l : List UInt8) : allD (l ++ l) = allD l := by
  by_cases h : l = []
  · subst h; rfl
  · rw [allD_of_ne h, allD_of_ne (by simp [h]), List.all_append, Bool.and_self]

set_option maxRecDepth 100000 in
set_option maxHeartbeats 4000000 in
theorem law3_in (s : ByteArray) (k : Nat) (n : Int) (h0 : 0 ≤ n) (h1 : n ≤ 18446744073709551615) (w : World) (hs : s.size ≤ 1048576) (hk : k ≤ s.size) (W L R I D : Bool)
    (c1 : allD (lst s) = W) (c2 : allD (lst (s.extract 0 k)) = L) (c3 : allD (lst (s.extract k s.size)) = R) (c4 : ∀ d, allD (lst d) = true → allD (lst (s.extract 0 k ++ d ++ s.extract k s.size)) = I) (c5 : allD (lst (s ++ s)) = D)
    (P1 P2 P3 P4 : Bool) (f1 : decide ((0 : Int) < (s.size : Int)) = P1) (f2 : ((k : Int) == 0) = P2) (f3 : ((k : Int) == (s.size : Int)) = P3) (f4 : ((s.size : Int) == 0) = P4)
    (hW : W = (P1 && (P2 || L) && (P3 || R))) (hI : I = (P4 || W)) (hD : D = W) :
    Calls Try.prog 3 #[.string s, .int .i64 k, .int .u64 n] w fun e w' => e = .returned (.bool true) ∧ Grown w w' := by
  have hs' : (s.size : Int) ≤ 1048576 := by omega
  have hdec : decide (s.size ≤ 1048576) = true := by simpa using hs
  have hk' : (k : Int) ≤ (s.size : Int) := by omega
  have hk0 : decide ((k : Int) < 0) = false := by simp
  have z1 : ∀ w, Calls Try.prog 7 #[.string s] w fun e w' => e = .returned (.bool W) ∧ w' = w := fun w => by
    rw [← c1]; exact zz_any s w (by omega)
  have z2 : ∀ w, Calls Try.prog 7 #[.string (s.extract 0 k)] w fun e w' => e = .returned (.bool L) ∧ w' = w := fun w => by
    rw [← c2]; exact zz_any _ w (by rw [← lst_len, lst_left s k hk, List.length_take, lst_len]; omega)
  have z3 : ∀ w, Calls Try.prog 7 #[.string (s.extract k s.size)] w fun e w' => e = .returned (.bool R) ∧ w' = w := fun w => by
    rw [← c3]; exact zz_any _ w (by rw [← lst_len, lst_right s k hk, List.length_drop, lst_len]; omega)
  have hAs : (s.extract 0 k).size ≤ 1048576 := by rw [← lst_len, lst_left s k hk, List.length_take, lst_len]; omega
  have hBs : (s.extract k s.size).size ≤ 1048576 := by rw [← lst_len, lst_right s k hk, List.length_drop, lst_len]; omega
  have z5 : ∀ w, Calls Try.prog 7 #[.string (s ++ s)] w fun e w' => e = .returned (.bool D) ∧ w' = w := fun w => by
    rw [← c5]; exact zz_any _ w (by rw [← lst_len, lst_append, List.length_append, lst_len]; omega)
  have a5 : ∀ w, (Op.stringOp .add s s).run Try.prog w = .ok (.string (s ++ s)) w := fun w => run_string_add_sum _ _ _ (by omega)
  go_enter Try.func3, Try.ntmps3
  go_wp2_with (go_at_call 5; refine (zzBytes5_any s _ _ _).mono ?_; rw [hdec]; rintro e w' ⟨rfl, rfl⟩)
  refine (text_any n h0 h1 _).mono ?_
  rintro e w1 ⟨⟨d, rfl, hd, hds⟩, hg⟩
  have z4 : ∀ w, Calls Try.prog 7 #[.string (s.extract 0 k ++ d ++ s.extract k s.size)] w fun e w' => e = .returned (.bool I) ∧ w' = w := fun w => by
    rw [← c4 d hd]; exact zz_any _ w (by rw [← lst_len, lst_append, lst_append, List.length_append, List.length_append, lst_len, lst_len, lst_len]; omega)
  have z6 : ∀ w, Calls Try.prog 7 #[.string d] w fun e w' => e = .returned (.bool true) ∧ w' = w := fun w => by
    rw [← hd]; exact zz_any d w (by omega)
  have a1 : ∀ w, (Op.stringOp .add (s.extract 0 k) d).run Try.prog w = .ok (.string (s.extract 0 k ++ d)) w := fun w => run_string_add_sum _ _ _ (by omega)
  have a2 : ∀ w, (Op.stringOp .add (s.extract 0 k ++ d) (s.extract k s.size)).run Try.prog w = .ok (.string (s.extract 0 k ++ d ++ s.extract k s.size)) w := fun w => run_string_add_sum _ _ _ (by
    rw [← lst_len (_ ++ d), lst_append, List.length_append, lst_len, lst_len]; omega)
  clear c1 c2 c3 c4 c5 hd hds
  have HW : Hid (W = (P1 && (P2 || L) && (P3 || R))) := hW
  have HI : Hid (I = (P4 || W)) := hI
  have HD : Hid (D = W) := hD
  clear hW hI hD
  go_wp2_with fail
  refine (z1 _).mono ?_
  rintro e w2 ⟨rfl, rfl⟩
  go_wp2_with fail
  refine (z2 _).mono ?_
  rintro e w2 ⟨rfl, rfl⟩
  go_wp2_with fail
  refine (z3 _).mono ?_
  rintro e w2 ⟨rfl, rfl⟩
  go_upto_region 11 with fail
  go_cut [11] (fun x wx => x = .bool W ∧ wx = w2)
  case first =>
    have hW := HW.out
    clear HW HI HD z1 z2 z3 z4 z5 z6
    cases P1 with
    | false =>
      have g : ¬ (0 : Int) < (s.size : Int) := of_decide_eq_false f1
      obtain rfl : W = false := by rw [hW]; rfl
      clear hW
      go_wp2
      go_meet
      case rel => exact ⟨rfl, rfl⟩
    | true =>
      have g : (0 : Int) < (s.size : Int) := of_decide_eq_true f1
      subst hW
      cases P2 <;> cases P3 <;> cases L <;> cases R
      all_goals
        go_wp2
        go_meet
        case rel => exact ⟨rfl, rfl⟩
  case rest =>
  obtain ⟨rfl, rfl⟩ := hcut
  go_upto_region 12 with fail
  go_quiet ((go_at_call 7; exact Calls.quiet_of_same (z4 _)))
  go_wp2_with fail
  refine (z5 _).mono ?_
  rintro e w3 ⟨rfl, rfl⟩
  go_wp2_with fail
  refine (z6 _).mono ?_
  rintro e w3 ⟨rfl, rfl⟩
  have hI := HI.out
  have hD := HD.out
  clear HW HI HD z1 z2 z3 z4 z5 z6
  subst hI hD
  cases P4 <;> cases D
  all_goals
    go_wp2
    go_ret
    exact ⟨rfl, hg⟩

theorem plain_whole (s : ByteArray) (k : Nat) (hk : k ≤ s.size) : allD (lst s) = (decide ((0 : Int) < (s.size : Int)) && (((k : Int) == 0) || allD (lst (s.extract 0 k))) && (((k : Int) == (s.size : Int)) || allD (lst (s.extract k s.size)))) := by
  rw [lst_left s k hk, lst_right s k hk]
  have hl := lst_len s
  generalize lst s = l at hl
  rw [← hl] at hk ⊢
  clear hl
  by_cases h0 : l = []
  · subst h0; rfl
  · have hp : 0 < l.length := List.length_pos_iff.2 h0
    have e1 : decide ((0 : Int) < (l.length : Int)) = true := by simpa using hp
    rw [e1, allD_of_ne h0, Bool.true_and, whole_eq l k]
    by_cases hk0 : k = 0
    · subst hk0
      have e2 : (((0 : Nat) : Int) == (l.length : Int)) = false := by rw [beq_eq_false_iff_ne]; omega
      rw [e2]
      simp [allD_of_ne h0]
    · have e2 : ((k : Int) == 0) = false := by rw [beq_eq_false_iff_ne]; omega
      have t0 : l.take k ≠ [] := fun e => by have := congrArg List.length e; rw [List.length_take, List.length_nil] at this; omega
      rw [e2, allD_of_ne t0, Bool.false_or]
      by_cases hkl : k = l.length
      · subst hkl; simp
      · have e3 : ((k : Int) == (l.length : Int)) = false := by rw [beq_eq_false_iff_ne]; omega
        have t1 : l.drop k ≠ [] := fun e => by have := congrArg List.length e; rw [List.length_drop, List.length_nil] at this; omega
        rw [e3, allD_of_ne t1, Bool.false_or]

theorem plain_in (s d : ByteArray) (k : Nat) (hk : k ≤ s.size) (hd : allD (lst d) = true) : allD (lst (s.extract 0 k ++ d ++ s.extract k s.size)) = (((s.size : Int) == 0) || allD (lst s)) := by
  rw [lst_append, lst_append, lst_left s k hk, lst_right s k hk]
  have hl := lst_len s
  generalize lst s = l at hl
  rw [← hl]
  rw [in_eq l (lst d) k (allD_all hd).1 (allD_all hd).2]
  by_cases h0 : l = []
  · subst h0; rfl
  · have hp : 0 < l.length := List.length_pos_iff.2 h0
    have e1 : ((l.length : Int) == 0) = false := by rw [beq_eq_false_iff_ne]; omega
    rw [e1, allD_of_ne h0, Bool.false_or]

theorem law3_any (s : ByteArray) (i n : Int) (h0 : 0 ≤ n) (h1 : n ≤ 18446744073709551615) (w : World) :
    Calls Try.prog 3 #[.string s, .int .i64 i, .int .u64 n] w fun e w' => e = .returned (.bool true) ∧ Grown w w' := by
  by_cases hs : s.size ≤ 1048576
  · by_cases hi : 0 ≤ i ∧ i ≤ (s.size : Int)
    · obtain ⟨k, rfl⟩ : ∃ k : Nat, i = k := ⟨i.toNat, by omega⟩
      have hk : k ≤ s.size := by omega
      exact law3_in s k n h0 h1 w hs hk _ _ _ _ _ rfl rfl rfl (fun d hd => plain_in s d k hk hd) rfl _ _ _ _ rfl rfl rfl rfl (plain_whole s k hk) rfl (by rw [lst_append]; exact dbl_eq _)
    · have hdec : decide (s.size ≤ 1048576) = true := by simpa using hs
      have hs' : (s.size : Int) ≤ 1048576 := by omega
      by_cases hi0 : i < 0
      · go_enter Try.func3, Try.ntmps3
        go_wp2_with (go_at_call 5; refine (zzBytes5_any s _ _ _).mono ?_; rw [hdec]; rintro e w' ⟨rfl, rfl⟩)
        go_ret
        exact ⟨rfl, Grown.refl _⟩
      · have hi1 : (s.size : Int) < i := by omega
        go_enter Try.func3, Try.ntmps3
        go_wp2_with (go_at_call 5; refine (zzBytes5_any s _ _ _).mono ?_; rw [hdec]; rintro e w' ⟨rfl, rfl⟩)
        go_ret
        exact ⟨rfl, Grown.refl _⟩
  · have hdec : decide (s.size ≤ 1048576) = false := by simpa using hs
    go_enter Try.func3, Try.ntmps3
    go_wp2_with (go_at_call 5; refine (zzBytes5_any s _ _ _).mono ?_; rw [hdec]; rintro e w' ⟨rfl, rfl⟩)
    go_ret
    exact ⟨rfl, Grown.refl _⟩
end Go.Proofs.Qxb6617228a
