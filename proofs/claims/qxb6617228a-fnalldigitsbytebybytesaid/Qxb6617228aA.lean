/-
  Walks: allDigits (9), ZZallDigits (7), the two zzBytes (5, 8).
-/
import Derived.Test.Qxb6617228aRows
import Derived.WalkKit
import Derived.WalkSpells
import Derived.WalkLawsBesides
namespace Go.Proofs.Qxb6617228a
open Go.RowKit
set_option linter.unusedVariables false

/-- A digit. -/
def dg (b : UInt8) : Bool := decide (48 ≤ b.toNat) && decide (b.toNat ≤ 57)
def allD (l : List UInt8) : Bool := !l.isEmpty && l.all dg

theorem take_succ_get (l : List UInt8) (k : Nat) (h : k < l.length) : l.take (k + 1) = l.take k ++ [l[k]] := by
  rw [List.take_add_one]; simp [h]
theorem allD_bad {l : List UInt8} {k : Nat} (h : k < l.length) (hb : dg l[k] = false) : allD l = false := by
  unfold allD
  have : l.all dg = false := by
    rw [List.all_eq_false]
    exact ⟨l[k], List.getElem_mem h, by simp [hb]⟩
  simp [this]
theorem allD_good {l : List UInt8} (h : l ≠ []) (ha : (l.take l.length).all dg = true) : allD l = true := by
  rw [List.take_length] at ha
  unfold allD
  cases l with
  | nil => exact absurd rfl h
  | cons a l => simpa using ha

theorem data_get (s : ByteArray) (k : Nat) (h : k < s.size) : s.data.toList[k]'(by simpa using h) = s[k] := by rw [Array.getElem_toList]; rfl

theorem allDigits_empty (w : World) : Calls Try.prog 9 #[.string ByteArray.empty] w fun e w' => e = .returned (.bool (allD [])) ∧ w' = w := by
  go_enter Try.func9, Try.ntmps9
  have : (ByteArray.empty.toList == (ByteArray.mk #[]).toList) = true := by rw [show ByteArray.empty = ByteArray.mk #[] from rfl]; exact beq_self_eq_true _
  go_wp2
  go_ret
  exact ⟨rfl, rfl⟩

set_option maxHeartbeats 1000000 in
theorem allDigits_some (s : ByteArray) (w : World) (hs : s.size ≤ 140737488351232) (hp : 0 < s.size) :
    Calls Try.prog 9 #[.string s] w fun e w' => e = .returned (.bool (allD s.data.toList)) ∧ w' = w := by
  have hne2 : s.data.toList ≠ [] := fun h => by
    have := congrArg List.length h
    simp at this
    have h2 : s.size = s.data.size := rfl
    rw [h2, this] at hp
    simp at hp
  have hne : s.toList.isEmpty = false := by
    rw [ByteArray.toList_eq]
    cases h : s.data.toList with
    | nil => exact absurd h hne2
    | cons a l => rfl
  have hlen : s.data.toList.length = s.size := by simp
  go_enter Try.func9, Try.ntmps9
  go_wp2
  go_loopw [3] (fun i wr => ∃ k : Nat, k ≤ s.size ∧ i = .int .i64 k ∧ wr = w ∧ (s.data.toList.take k).all dg = true) (fun i _ => s.size - (intOf i).toNat)
  case atStart => exact ⟨0, Nat.zero_le _, rfl, rfl, by simp⟩
  case round =>
    obtain ⟨k, hk, rfl, rfl, hst⟩ := hrel
    by_cases hkl : k < s.size
    · have hget := data_get s k hkl
      have hkl' : (k : Int) < (s.size : Int) := by omega
      by_cases h1 : s[k].toNat < 48
      · have hbad : allD s.data.toList = false := allD_bad (k := k) (by omega) (by rw [hget]; unfold dg; simp; omega)
        go_wp2
        go_ret
        first | exact ⟨rfl, rfl⟩ | exact ⟨by rw [hbad]; rfl, rfl⟩
      · by_cases h2 : 57 < s[k].toNat
        · have hbad : allD s.data.toList = false := allD_bad (k := k) (by omega) (by rw [hget]; unfold dg; simp; omega)
          go_wp2
          go_ret
          first | exact ⟨rfl, rfl⟩ | exact ⟨by rw [hbad]; rfl, rfl⟩
        · have hst' : (s.data.toList.take (k+1)).all dg = true := by
            rw [take_succ_get _ _ (by omega), List.all_append, hst, hget]
            simp [dg]; omega
          go_wp2
          go_roundw
          case rel => exact ⟨k + 1, by omega, by go_num, by first | trivial | rfl, hst'⟩
          case measure => simp [intOf]; omega
    · have hke : k = s.data.toList.length := by omega
      have hbad : allD s.data.toList = true := allD_good hne2 (by rw [← hke]; exact hst)
      have hkl' : ¬ (k : Int) < (s.size : Int) := by omega
      go_wp2
      go_ret
      first | exact ⟨rfl, rfl⟩ | exact ⟨by rw [hbad]; rfl, rfl⟩

theorem allDigits_any (s : ByteArray) (w : World) (hs : s.size ≤ 140737488351232) : Calls Try.prog 9 #[.string s] w fun e w' => e = .returned (.bool (allD s.data.toList)) ∧ w' = w := by
  by_cases hp : 0 < s.size
  · exact allDigits_some s w hs hp
  · have : s = ByteArray.empty := ByteArray.size_eq_zero_iff.1 (by omega)
    subst this
    exact allDigits_empty w

theorem zz_any (s : ByteArray) (w : World) (hs : s.size ≤ 140737488351232) : Calls Try.prog 7 #[.string s] w fun e w' => e = .returned (.bool (allD s.data.toList)) ∧ w' = w := by
  go_enter Try.func7, Try.ntmps7
  go_wp2_with (go_at_call 9; refine (allDigits_any s _ hs).mono ?_; rintro e w' ⟨rfl, rfl⟩)
  go_ret
  exact ⟨rfl, rfl⟩

theorem zzBytes5_any (s : ByteArray) (i n : Int) (w : World) : Calls Try.prog 5 #[.string s, .int .i64 i, .int .u64 n] w fun e w' => e = .returned (.bool (decide (s.size ≤ 1048576))) ∧ w' = w := by
  by_cases h : (1048576 : Int) < (s.size : Int)
  · have : decide (s.size ≤ 1048576) = false := by simp; omega
    rw [this]
    go_enter Try.func5, Try.ntmps5
    go_wp2
    go_ret
    exact ⟨rfl, rfl⟩
  · have : decide (s.size ≤ 1048576) = true := by simp; omega
    rw [this]
    go_enter Try.func5, Try.ntmps5
    go_wp2
    go_ret
    exact ⟨rfl, rfl⟩

theorem zzBytes8_any (s : ByteArray) (n : Int) (w : World) : Calls Try.prog 8 #[.string s, .int .u64 n] w fun e w' => e = .returned (.bool (decide (s.size ≤ 1048576))) ∧ w' = w := by
  by_cases h : (1048576 : Int) < (s.size : Int)
  · have : decide (s.size ≤ 1048576) = false := by simp; omega
    rw [this]
    go_enter Try.func8, Try.ntmps8
    go_wp2
    go_ret
    exact ⟨rfl, rfl⟩
  · have : decide (s.size ≤ 1048576) = true := by simp; omega
    rw [this]
    go_enter Try.func8, Try.ntmps8
    go_wp2
    go_ret
    exact ⟨rfl, rfl⟩
end Go.Proofs.Qxb6617228a
