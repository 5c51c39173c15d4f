/-
  Plain laws of the decimal numeral.
-/
import Derived.Test.Qxb6617855aDoorU
namespace Go.Proofs.Qxb6617855aDoor
open Go.Lib
set_option linter.unusedVariables false

def val (l : List UInt8) : Nat := l.foldl (fun m b => m * 10 + (b.toNat - 48)) 0
theorem val_nil : val [] = 0 := rfl
theorem val_snoc (l : List UInt8) (b : UInt8) : val (l ++ [b]) = val l * 10 + (b.toNat - 48) := by simp [val]
theorem dig_nat (d : Nat) (h : d < 10) : (UInt8.ofNat (48 + d)).toNat = 48 + d := by simp [UInt8.toNat_ofNat']; omega
theorem dec_step (u : Nat) (h : ¬ u < 10) : decDigits u = decDigits (u / 10) ++ [UInt8.ofNat (48 + u % 10)] := by rw [decDigits, dif_neg h]
theorem val_dec (u : Nat) : val (decDigits u) = u := by
  induction u using Nat.strongRecOn with
  | _ u ih =>
    by_cases h : u < 10
    · rw [decDigits_one h]
      show 0 * 10 + _ = u
      rw [dig_nat u h]; omega
    · rw [dec_step u h, val_snoc, ih (u / 10) (by omega), dig_nat _ (by omega)]
      omega
theorem dec_digit (u : Nat) : ∀ b ∈ decDigits u, 48 ≤ b.toNat ∧ b.toNat ≤ 57 := by
  induction u using Nat.strongRecOn with
  | _ u ih =>
    by_cases h : u < 10
    · rw [decDigits_one h]
      intro b hb
      rw [List.mem_singleton] at hb
      subst hb
      rw [dig_nat u h]; omega
    · rw [dec_step u h]
      intro b hb
      rw [List.mem_append] at hb
      rcases hb with hb | hb
      · exact ih (u / 10) (by omega) b hb
      · rw [List.mem_singleton] at hb
        subst hb
        rw [dig_nat _ (by omega)]; omega
theorem dec_head (u : Nat) (h : 1 < (decDigits u).length) : ((decDigits u).getD 0 0).toNat ≠ 48 := by
  induction u using Nat.strongRecOn with
  | _ u ih =>
    by_cases h1 : u < 10
    · rw [decDigits_one h1] at h; simp at h
    · rw [dec_step u h1] at h ⊢
      have hp := dec_pos (u / 10)
      rw [List.getD_eq_getElem?_getD, List.getElem?_append_left hp, ← List.getD_eq_getElem?_getD]
      by_cases h2 : u / 10 < 10
      · rw [decDigits_one h2]
        show (UInt8.ofNat (48 + u / 10)).toNat ≠ 48
        rw [dig_nat _ h2]; omega
      · refine ih (u / 10) (by omega) ?_
        rw [decDigits_length, nDigits_big h2]
        have := nDigits_pos (u / 10 / 10)
        omega
theorem take_snoc (l : List UInt8) (k : Nat) (h : k < l.length) : l.take (k + 1) = l.take k ++ [l.getD k 0] := by
  rw [List.take_add_one]; simp [h]
theorem val_take (l : List UInt8) (k : Nat) (h : k < l.length) : val (l.take (k + 1)) = val (l.take k) * 10 + ((l.getD k 0).toNat - 48) := by
  rw [take_snoc l k h, val_snoc]
theorem val_le (l : List UInt8) : ∀ k, val (l.take k) ≤ val l := by
  intro k
  have key : ∀ m k, l.length = k + m → val (l.take k) ≤ val l := by
    intro m
    induction m with
    | zero => intro k hk; rw [List.take_of_length_le (by omega)]; exact Nat.le_refl _
    | succ m ih =>
      intro k hk
      have h1 := ih (k + 1) (by omega)
      rw [val_take l k (by omega)] at h1
      omega
  by_cases h : k ≤ l.length
  · exact key (l.length - k) k (by omega)
  · rw [List.take_of_length_le (by omega)]; exact Nat.le_refl _
theorem mem_getD (l : List UInt8) (k : Nat) (h : k < l.length) : l.getD k 0 ∈ l := by
  rw [List.getD_eq_getElem?_getD, List.getElem?_eq_getElem h]; exact List.getElem_mem h
theorem dec_inj {a b : Nat} (h : decDigits a = decDigits b) : a = b := by rw [← val_dec a, ← val_dec b, h]
theorem itoa_inj {a b : Int} (h : itoa a = itoa b) : a = b := by
  have hm : ∀ u : Nat, (45 : UInt8) ∉ decDigits u := fun u hh => by
    have := dec_digit u 45 hh
    have e : (45 : UInt8).toNat = 45 := rfl
    omega
  unfold itoa at h
  by_cases ha : a < 0 <;> by_cases hb : b < 0
  · rw [if_pos ha, if_pos hb, List.cons.injEq] at h
    have := dec_inj h.2; omega
  · rw [if_pos ha, if_neg hb] at h
    exact absurd (by rw [← h]; simp) (hm b.toNat)
  · rw [if_neg ha, if_pos hb] at h
    exact absurd (by rw [h]; simp) (hm a.toNat)
  · rw [if_neg ha, if_neg hb] at h
    have := dec_inj h; omega
theorem enc_inj {a b : Int} (h : enc a = enc b) : a = b := by
  unfold enc at h
  rw [List.cons.injEq] at h
  exact itoa_inj (List.append_cancel_right h.2)
end Go.Proofs.Qxb6617855aDoor
