/-
  The searches: strings.Compare (44), find$1 (43), slices.BinarySearchFunc (42), slices.BinarySearch (45).
-/
import Derived.Test.Qxb6617214aF
import Derived.Lib.Strings
import Derived.Lib.Slices
import Derived.Lib.Walk
import Derived.Lib.Bytealg
import Derived.Laws.Externs
namespace Go.Proofs.Qxb6617214a
open Go.RowKit

theorem compare_lt : ∀ l m : List UInt8, (decide (Lib.compareBytes l m < 0)) = Op.bytesLess l m
  | [], [] => by simp [Lib.compareBytes, Op.bytesLess]
  | [], _ :: _ => by simp [Lib.compareBytes, Op.bytesLess]
  | _ :: _, [] => by simp [Lib.compareBytes, Op.bytesLess]
  | a :: x, b :: y => by
    have ih := compare_lt x y
    unfold Lib.compareBytes Op.bytesLess
    by_cases h : a < b
    · simp [h]
    · by_cases h2 : b < a
      · have : ¬ a = b := fun e => by subst e; exact h h2
        simp [h, h2, this]
      · have : a = b := UInt8.le_antisymm (UInt8.not_lt.1 h2) (UInt8.not_lt.1 h)
        subst this
        simpa [h] using ih

set_option maxHeartbeats 1000000 in
set_option maxRecDepth 100000 in
theorem CompareString_any (a b : ByteArray) (w : World) :
    Calls Try.prog 50 #[.string a, .string b] w fun e w' => e = .returned (.int .i64 (Lib.compareBytes a.data.toList b.data.toList)) ∧ w' = w := by
  go_enter Try.func50, Try.ntmps50
  go_wp2
  rw [run_callFunc_extern Try.func55 (by kernel_rfl) (by kernel_rfl) (by kernel_rfl) (e := Extern.BytealgCompare.compare) (by kernel_rfl), Lib.run_compareString]
  simp only [Result.andThen]
  rw [Oper.upon_value]
  go_wp2
  go_ret
  exact ⟨rfl, rfl⟩

set_option maxHeartbeats 400000 in
theorem Compare_any (a b : ByteArray) (w : World) :
    Calls Try.prog 44 #[.string a, .string b] w fun e w' => e = .returned (.int .i64 (Lib.compareBytes a.data.toList b.data.toList)) ∧ w' = w := by
  go_enter Try.func44, Try.ntmps44
  go_wp2_with (go_at_call 50; refine (CompareString_any _ _ _).mono ?_; rintro e w' ⟨rfl, rfl⟩)
  go_ret
  exact ⟨rfl, rfl⟩

/-- What the closure in find says of a chunk with the last string l. -/
def cmpI (l k : ByteArray) : Int := Lib.compareBytes l.data.toList k.data.toList
theorem cmpI_lt (l k : ByteArray) : decide (cmpI l k < 0) = slt l k := by
  unfold cmpI slt; rw [Lib.toList_data, Lib.toList_data]; exact compare_lt _ _

set_option maxHeartbeats 400000 in
theorem find1_any (b off n c : Nat) (l k : ByteArray) (w : World) (hn : 0 < n) (hn2 : n ≤ 9223372036854775807) (hc : w.cell? ⟨b, off + (n - 1), none⟩ = some (.string l)) :
    Calls Try.prog 43 #[.slice (some ⟨b, off, none⟩) n c, .string k] w fun e w' => e = .returned (.int .i64 (cmpI l k)) ∧ w' = w := by
  unfold cmpI
  obtain ⟨m, rfl⟩ : ∃ m, n = m + 1 := ⟨n - 1, by omega⟩
  rw [Nat.add_sub_cancel] at hc
  go_enter Try.func43, Try.ntmps43
  go_wp2_with (go_at_call 44; refine (Compare_any _ _ _).mono ?_; rintro e w' ⟨rfl, rfl⟩)
  go_ret
  exact ⟨rfl, rfl⟩

/-! ### slices.BinarySearchFunc at find's closure -/
def RetIdx (p : Nat) (e : Ending) : Prop := ∃ r : Bool, e = .returned (.tuple #[.int .i64 (p : Nat), .bool r])
theorem retIdx (p : Nat) (r : Bool) : RetIdx p (.returned (.tuple #[.int .i64 (p : Nat), .bool r])) := ⟨r, rfl⟩
set_option maxHeartbeats 1000000 in
theorem searchFunc_some (b off n c p : Nat) (k : ByteArray) (G O L C : Nat → Nat) (la : Nat → ByteArray) (w : World) (hn : n ≤ 1073741824)
    (hc : ∀ i, i < n → w.cell? ⟨b, off + i, none⟩ = some (.slice (some ⟨G i, O i, none⟩) (L i) (C i)) ∧ 0 < L i ∧ L i ≤ 9223372036854775807 ∧ w.cell? ⟨G i, O i + (L i - 1), none⟩ = some (.string (la i)))
    (hp : p ≤ n) (h1 : ∀ t, t < p → slt (la t) k = true) (h2 : ∀ t, p ≤ t → t < n → slt (la t) k = false) :
    Calls Try.prog 42 #[.slice (some ⟨b, off, none⟩) n c, .string k, .func (Fn.func 43) #[] #[]] w fun e w' => RetIdx p e ∧ w' = w := by
  go_enter Try.func42, Try.ntmps42
  go_wp2
  go_loop [9, 10] (fun s9 s10 => ∃ lo hi : Nat, s9 = .int .i64 lo ∧ s10 = .int .i64 hi ∧ lo ≤ p ∧ p ≤ hi ∧ hi ≤ n) (fun s9 s10 => (intOf s10 - intOf s9).toNat)
  case atStart => exact ⟨0, n, rfl, rfl, Nat.zero_le _, hp, Nat.le_refl _⟩
  case round =>
    obtain ⟨lo, hi, rfl, rfl, hlo, hph, hhn⟩ := hrel
    by_cases hlt : lo < hi
    · obtain ⟨cm, hL0, hL1, cl⟩ := hc ((lo + hi) / 2) (by omega)
      clear hc
      by_cases hm : (lo + hi) / 2 < p
      · have hneg : cmpI (la ((lo + hi) / 2)) k < 0 := of_decide_eq_true (by rw [cmpI_lt]; exact h1 _ hm)
        clear h1 h2
        generalize la ((lo + hi) / 2) = l at *
        generalize G ((lo + hi) / 2) = g at *
        generalize O ((lo + hi) / 2) = o at *
        generalize L ((lo + hi) / 2) = len at *
        generalize C ((lo + hi) / 2) = cc at *
        go_wp2_with (go_at_call 43; refine (find1_any _ _ _ _ l _ _ hL0 hL1 cl).mono ?_; rintro e w' ⟨rfl, rfl⟩)
        go_round
        case rel => exact ⟨(lo + hi) / 2 + 1, hi, by go_num, rfl, by omega, by omega, hhn⟩
        case measure => simp [intOf]; omega
      · have hneg : ¬ cmpI (la ((lo + hi) / 2)) k < 0 := of_decide_eq_false (by rw [cmpI_lt]; exact h2 _ (by omega) (by omega))
        clear h1 h2
        generalize la ((lo + hi) / 2) = l at *
        generalize G ((lo + hi) / 2) = g at *
        generalize O ((lo + hi) / 2) = o at *
        generalize L ((lo + hi) / 2) = len at *
        generalize C ((lo + hi) / 2) = cc at *
        go_wp2_with (go_at_call 43; refine (find1_any _ _ _ _ l _ _ hL0 hL1 cl).mono ?_; rintro e w' ⟨rfl, rfl⟩)
        go_round
        case rel => exact ⟨lo, (lo + hi) / 2, rfl, by go_num, by omega, by omega, by omega⟩
        case measure => simp [intOf]; omega
    · have e1 : hi = p := by omega
      have e2 : lo = p := by omega
      subst e1; subst e2
      by_cases hn' : lo < n
      · obtain ⟨cm, hL0, hL1, cl⟩ := hc lo hn'
        clear hc h1 h2
        generalize la lo = l at *
        generalize G lo = g at *
        generalize O lo = o at *
        generalize L lo = len at *
        generalize C lo = cc at *
        go_wp2_with (go_at_call 43; refine (find1_any _ _ _ _ l _ _ hL0 hL1 cl).mono ?_; rintro e w' ⟨rfl, rfl⟩)
        go_ret2
        exact ⟨retIdx _ _, rfl⟩
      · clear hc h1 h2
        go_wp2
        go_ret2
        exact ⟨retIdx _ _, rfl⟩

/-! ### slices.BinarySearch at []string -/
set_option maxHeartbeats 400000 in
theorem cmpNaN_any (x : ByteArray) (w : World) : Calls Try.prog 56 #[.string x] w fun e w' => e = .returned (.bool false) ∧ w' = w := by
  go_enter Try.func56, Try.ntmps56
  go_wp2
  go_ret
  exact ⟨by simp, rfl⟩
set_option maxHeartbeats 400000 in
theorem slNaN_any (x : ByteArray) (w : World) : Calls Try.prog 52 #[.string x] w fun e w' => e = .returned (.bool false) ∧ w' = w := by
  go_enter Try.func52, Try.ntmps52
  go_wp2
  go_ret
  exact ⟨by simp, rfl⟩
set_option maxHeartbeats 400000 in
theorem cmpLess_any (x y : ByteArray) (w : World) : Calls Try.prog 51 #[.string x, .string y] w fun e w' => e = .returned (.bool (slt x y)) ∧ w' = w := by
  unfold slt
  go_enter Try.func51, Try.ntmps51
  go_wp2_with (go_at_call 56; refine (cmpNaN_any _ _).mono ?_; rintro e w' ⟨rfl, rfl⟩)
  go_ret
  exact ⟨rfl, rfl⟩

set_option maxHeartbeats 1000000 in
theorem search_some (b off n c p : Nat) (k : ByteArray) (ss : List ByteArray) (w : World) (hn : n ≤ 1073741824) (hl : ss.length = n)
    (hc : ∀ i, i < n → w.cell? ⟨b, off + i, none⟩ = some (.string (ss.getD i ByteArray.empty)))
    (hp : p ≤ n) (h1 : ∀ t, t < p → slt (ss.getD t ByteArray.empty) k = true) (h2 : ∀ t, p ≤ t → t < n → slt (ss.getD t ByteArray.empty) k = false) :
    Calls Try.prog 45 #[.slice (some ⟨b, off, none⟩) n c, .string k] w fun e w' => e = .returned (.tuple #[.int .i64 (p : Nat), .bool (decide (p < n ∧ ss.getD p ByteArray.empty = k))]) ∧ w' = w := by
  obtain ⟨R, hR⟩ : ∃ R : Bool, decide (p < n ∧ ss.getD p ByteArray.empty = k) = R := ⟨_, rfl⟩
  rw [hR]
  have HR : Hid (decide (p < n ∧ ss.getD p ByteArray.empty = k) = R) := hR
  clear hR
  go_enter Try.func45, Try.ntmps45
  go_wp2
  go_loop [7, 8] (fun s9 s10 => ∃ lo hi : Nat, s9 = .int .i64 lo ∧ s10 = .int .i64 hi ∧ lo ≤ p ∧ p ≤ hi ∧ hi ≤ n) (fun s9 s10 => (intOf s10 - intOf s9).toNat)
  case atStart => exact ⟨0, n, rfl, rfl, Nat.zero_le _, hp, Nat.le_refl _⟩
  case round =>
    obtain ⟨lo, hi, rfl, rfl, hlo, hph, hhn⟩ := hrel
    by_cases hlt : lo < hi
    · have cm := hc ((lo + hi) / 2) (by omega)
      clear hc
      by_cases hm : (lo + hi) / 2 < p
      · have hb := h1 _ hm
        clear h1 h2 hl
        generalize ss.getD ((lo + hi) / 2) ByteArray.empty = x at *
        go_wp2_with (go_at_call 51; refine (cmpLess_any _ _ _).mono ?_; rintro e w' ⟨rfl, rfl⟩)
        go_round
        case rel => exact ⟨(lo + hi) / 2 + 1, hi, by go_num, rfl, by omega, by omega, hhn⟩
        case measure => simp [intOf]; omega
      · have hb := h2 _ (Nat.le_of_not_lt hm) (by omega)
        clear h1 h2 hl
        generalize ss.getD ((lo + hi) / 2) ByteArray.empty = x at *
        go_wp2_with (go_at_call 51; refine (cmpLess_any _ _ _).mono ?_; rintro e w' ⟨rfl, rfl⟩)
        go_round
        case rel => exact ⟨lo, (lo + hi) / 2, rfl, by go_num, by omega, by omega, by omega⟩
        case measure => simp [intOf]; omega
    · have e1 : hi = p := by omega
      have e2 : lo = p := by omega
      subst e1; subst e2
      by_cases hn' : lo < n
      · have cm := hc lo hn'
        clear hc h1 h2
        obtain ⟨x, hx⟩ : ∃ x, ss.getD lo ByteArray.empty = x := ⟨_, rfl⟩
        rw [hx] at cm
        have HR2 : Hid (decide (lo < n ∧ x = k) = R) := by rw [← hx]; exact HR.out
        clear HR hx hl
        by_cases he : x = k
        · have HE : Hid (R = true) := by rw [← HR2.out]; exact decide_eq_true ⟨hn', he⟩
          subst he
          clear HR2
          go_wp2
          go_ret2
          exact ⟨by rw [HE.out]; rfl, rfl⟩
        · have HE : Hid (R = false) := by rw [← HR2.out]; exact decide_eq_false (fun h => he h.2)
          have hne : (x.toList == k.toList) = false := by rw [beq_eq_false_iff_ne]; exact fun h => he (toList_inj h)
          clear HR2
          go_wp2_with (go_at_call 52; refine (slNaN_any _ _).mono ?_; rintro e w' ⟨rfl, rfl⟩)
          all_goals (go_ret2; exact ⟨by rw [HE.out]; rfl, rfl⟩)
      · have HE : Hid (R = false) := by rw [← HR.out]; exact decide_eq_false (fun h => hn' h.1)
        clear hc h1 h2 HR
        go_wp2
        go_ret2
        exact ⟨by rw [HE.out]; rfl, rfl⟩
end Go.Proofs.Qxb6617214a
