/-
  The walk: zzReadCanonicalInt (8).
-/
import Derived.Test.Qxb6617855aDoorP
import Derived.Laws.Bits64
namespace Go.Proofs.Qxb6617855aDoor
open Go.RowKit Go.Lib
set_option linter.unusedVariables false

/-- int64(^mag + 1). -/
theorem neg_back (u : Nat) (h1 : 1 ≤ u) (h2 : u ≤ 9223372036854775808) : wrap64 (IntKind.u64.wrap (bits .xor .u64 IntKind.u64.max (u : Int) + 1)) = -(u : Int) := by
  have hx : (18446744073709551615 : Nat) ^^^ u = 18446744073709551615 - u := by
    have h := BitVec.toNat_not (x := BitVec.ofNat 64 u)
    rw [BitVec.not_def, BitVec.toNat_xor, BitVec.toNat_allOnes, BitVec.toNat_ofNat, Nat.mod_eq_of_lt (by omega)] at h
    exact h
  have hm : IntKind.u64.max = ((18446744073709551615 : Nat) : Int) := by rfl
  rw [hm, bits_xor_u64_nat 18446744073709551615 u (by omega) (by omega), hx, IntKind.wrap_u64]
  unfold wrap64
  omega

/-- The digits ds lie from place st on, an 'e' behind them. -/
structure Digs (w : World) (b off N st : Nat) (ds : List UInt8) : Prop where
  dig : ∀ j, j < ds.length → ∃ x : Int, w.cell? ⟨b, off + (st + j), none⟩ = some (.int .u8 x) ∧ x = ((ds.getD j 0).toNat : Int) ∧ 48 ≤ x ∧ x ≤ 57
  stop : w.cell? ⟨b, off + (st + ds.length), none⟩ = some (.int .u8 101)
  room : st + ds.length < N

set_option maxRecDepth 100000 in
set_option maxHeartbeats 4000000 in
theorem read_pos (b off c N p u : Nat) (w : World) (hN : N ≤ 1099511627776) (hu : u ≤ 9223372036854775807) (h0 : w.cell? ⟨b, off + p, none⟩ = some (.int .u8 105)) (hD : Digs w b off N (p + 1) (decDigits u)) :
    Calls Tryd.prog 8 #[.slice (some ⟨b, off, none⟩) N c, .int .i64 p] w fun e w' => e = .returned (.tuple #[.int .i64 u, .int .i64 ((p + 1 + (decDigits u).length + 1 : Nat) : Int), .bool true]) ∧ w' = w := by
  obtain ⟨m, hm⟩ : ∃ m, (decDigits u).length = m := ⟨_, rfl⟩
  have hroom := hD.room
  have hstop := hD.stop
  rw [hm] at hroom hstop ⊢
  have hm1 : 1 ≤ m := by rw [← hm]; exact dec_pos u
  obtain ⟨x0, hx0, hx0e, hx0a, hx0b⟩ := hD.dig 0 (by omega)
  have HD : Hid (Digs w b off N (p + 1) (decDigits u)) := hD
  have HM : Hid ((decDigits u).length = m) := hm
  have HX : Hid (x0 = (((decDigits u).getD 0 0).toNat : Int)) := hx0e
  clear hD hm hx0e
  have n45 : (x0 == 45) = false := by rw [beq_eq_false_iff_ne]; omega
  obtain ⟨st, hst⟩ : ∃ st : Int, st = (p : Int) + 1 := ⟨_, rfl⟩
  go_enter Tryd.func8, Tryd.ntmps8
  have hp1 : (p : Int) < (N : Int) := by omega
  have hp2 : (p : Int) + 1 < (N : Int) := by omega
  go_wp2
  clear h0 n45
  go_loopw [7, 11] (fun i z wr => ∃ (j : Nat) (y : Int), j ≤ m ∧ i = .int .i64 ((p : Int) + 1 + j) ∧ z = .int .u64 y ∧ wr = w ∧ Hid (y = (val ((decDigits u).take j) : Int)) ∧ 0 ≤ y ∧ y ≤ 9223372036854775807) (fun i _ _ => N - (RowKit.intOf i).toNat)
  case atStart => exact ⟨0, 0, Nat.zero_le _, by simp, rfl, rfl, (by rfl : (0 : Int) = _), by omega, by omega⟩
  case round =>
    obtain ⟨j, y, hj, rfl, rfl, rfl, HY, hy0, hy1⟩ := hrel
    by_cases hjm : j < m
    · obtain ⟨x, hx, hxe, hxa, hxb⟩ := HD.out.dig j (by rw [HM.out]; exact hjm)
      have hlt : (p : Int) + 1 + (j : Int) < (N : Int) := by omega
      have hval := val_take (decDigits u) j (by rw [HM.out]; exact hjm)
      have hle := val_le (decDigits u) (j + 1)
      rw [val_dec] at hle
      have hy := HY.out
      have hnew : y * 10 + (x - 48) = (val ((decDigits u).take (j + 1)) : Int) := by rw [hval, hy]; omega
      have HN : Hid (y * 10 + (x - 48) = (val ((decDigits u).take (j + 1)) : Int)) := hnew
      have hub : y * 10 + (x - 48) ≤ 9223372036854775807 := by omega
      have hq : y ≤ (9223372036854775807 - (x - 48)) / 10 := by omega
      clear hval hle hy hnew hxe HY hx0 hstop
      go_wp2
      exact ⟨⟨j + 1, _, by omega, by rw [Int.natCast_add, Int.add_assoc]; rfl, rfl, trivial, HN, by omega, hub⟩, by simp only [RowKit.intOf]; omega⟩
    · obtain rfl : j = m := by omega
      have hlt : (p : Int) + 1 + (j : Int) < (N : Int) := by omega
      have hyu : y = (u : Int) := by
        rw [HY.out, List.take_of_length_le (by rw [HM.out]; omega), val_dec]
      clear HY
      have e1 : ((p : Int) + 1 + (j : Int) == (p : Int) + 1) = false := by rw [beq_eq_false_iff_ne]; omega
      have e2 : IntKind.i64.wrap ((p : Int) + 1 + (j : Int) - ((p : Int) + 1)) = (j : Int) := by
        rw [show (p : Int) + 1 + (j : Int) - ((p : Int) + 1) = (j : Int) by omega]
        exact IntWalk.i64_in _ ⟨by omega, by omega⟩
      have ec : ((p + 1 + j + 1 : Nat) : Int) = (p : Int) + 1 + j + 1 := by omega
      by_cases hj1 : 1 < j
      · have hne := dec_head u (by rw [HM.out]; exact hj1)
        have n48 : (x0 == 48) = false := by rw [beq_eq_false_iff_ne, HX.out]; omega
        have hj1' : (1 : Int) < (j : Int) := by omega
        clear hne HX
        go_wp2
        refine bodyPost_ret (v := .tuple #[.int .i64 u, .int .i64 ((p : Int) + 1 + j + 1), .bool true]) (by simp [results, Tryd.results8, go_sem]) rfl ⟨by first | rfl | rw [ec], rfl⟩
      · have hj1' : ¬ (1 : Int) < (j : Int) := by omega
        clear HX
        go_wp2
        refine bodyPost_ret (v := .tuple #[.int .i64 u, .int .i64 ((p : Int) + 1 + j + 1), .bool true]) (by simp [results, Tryd.results8, go_sem]) rfl ⟨by first | rfl | rw [ec], rfl⟩

set_option maxRecDepth 100000 in
set_option maxHeartbeats 4000000 in
theorem read_neg (b off c N p u : Nat) (w : World) (hN : N ≤ 1099511627776) (hu : u ≤ 9223372036854775808) (hu1 : 1 ≤ u) (h0 : w.cell? ⟨b, off + p, none⟩ = some (.int .u8 105)) (h45 : w.cell? ⟨b, off + (p + 1), none⟩ = some (.int .u8 45)) (hD : Digs w b off N (p + 2) (decDigits u)) :
    Calls Tryd.prog 8 #[.slice (some ⟨b, off, none⟩) N c, .int .i64 p] w fun e w' => e = .returned (.tuple #[.int .i64 (-(u : Int)), .int .i64 ((p + 2 + (decDigits u).length + 1 : Nat) : Int), .bool true]) ∧ w' = w := by
  obtain ⟨m, hm⟩ : ∃ m, (decDigits u).length = m := ⟨_, rfl⟩
  have hroom := hD.room
  have hstop := hD.stop
  rw [hm] at hroom hstop ⊢
  have hm1 : 1 ≤ m := by rw [← hm]; exact dec_pos u
  obtain ⟨x0, hx0, hx0e, hx0a, hx0b⟩ := hD.dig 0 (by omega)
  have HD : Hid (Digs w b off N (p + 2) (decDigits u)) := hD
  have HM : Hid ((decDigits u).length = m) := hm
  have HX : Hid (x0 = (((decDigits u).getD 0 0).toNat : Int)) := hx0e
  clear hD hm hx0e
  obtain ⟨st, hst⟩ : ∃ st : Int, st = (p : Int) + 2 := ⟨_, rfl⟩
  go_enter Tryd.func8, Tryd.ntmps8
  have hp1 : (p : Int) < (N : Int) := by omega
  have hp2 : (p : Int) + 1 < (N : Int) := by omega
  have hp3 : (p : Int) + 2 < (N : Int) := by omega
  go_wp2
  clear h0 h45
  go_loopw [7, 11] (fun i z wr => ∃ (j : Nat) (y : Int), j ≤ m ∧ i = .int .i64 ((p : Int) + 2 + j) ∧ z = .int .u64 y ∧ wr = w ∧ Hid (y = (val ((decDigits u).take j) : Int)) ∧ 0 ≤ y ∧ y ≤ 9223372036854775808) (fun i _ _ => N - (RowKit.intOf i).toNat)
  case atStart => exact ⟨0, 0, Nat.zero_le _, by simp; omega, rfl, rfl, (by rfl : (0 : Int) = _), by omega, by omega⟩
  case round =>
    obtain ⟨j, y, hj, rfl, rfl, rfl, HY, hy0, hy1⟩ := hrel
    by_cases hjm : j < m
    · obtain ⟨x, hx, hxe, hxa, hxb⟩ := HD.out.dig j (by rw [HM.out]; exact hjm)
      have hlt : (p : Int) + 2 + (j : Int) < (N : Int) := by omega
      have hval := val_take (decDigits u) j (by rw [HM.out]; exact hjm)
      have hle := val_le (decDigits u) (j + 1)
      rw [val_dec] at hle
      have hy := HY.out
      have hnew : y * 10 + (x - 48) = (val ((decDigits u).take (j + 1)) : Int) := by rw [hval, hy]; omega
      have HN : Hid (y * 10 + (x - 48) = (val ((decDigits u).take (j + 1)) : Int)) := hnew
      have hub : y * 10 + (x - 48) ≤ 9223372036854775808 := by omega
      have hq : y ≤ (9223372036854775808 - (x - 48)) / 10 := by omega
      clear hval hle hy hnew hxe HY hx0 hstop
      go_wp2
      exact ⟨⟨j + 1, _, by omega, by rw [Int.natCast_add, Int.add_assoc]; rfl, rfl, trivial, HN, by omega, hub⟩, by simp only [RowKit.intOf]; omega⟩
    · obtain rfl : j = m := by omega
      have hlt : (p : Int) + 2 + (j : Int) < (N : Int) := by omega
      have hyu : y = (u : Int) := by
        rw [HY.out, List.take_of_length_le (by rw [HM.out]; omega), val_dec]
      clear HY
      have e1 : ((p : Int) + 2 + (j : Int) == (p : Int) + 2) = false := by rw [beq_eq_false_iff_ne]; omega
      have e2 : IntKind.i64.wrap ((p : Int) + 2 + (j : Int) - ((p : Int) + 2)) = (j : Int) := by
        rw [show (p : Int) + 2 + (j : Int) - ((p : Int) + 2) = (j : Int) by omega]
        exact IntWalk.i64_in _ ⟨by omega, by omega⟩
      have hu0 : ((u : Int) == 0) = false := by rw [beq_eq_false_iff_ne]; omega
      have ec : ((p + 2 + j + 1 : Nat) : Int) = (p : Int) + 2 + j + 1 := by omega
      have hnb := neg_back u hu1 hu
      by_cases hj1 : 1 < j
      · have hne := dec_head u (by rw [HM.out]; exact hj1)
        have n48 : (x0 == 48) = false := by rw [beq_eq_false_iff_ne, HX.out]; omega
        have hj1' : (1 : Int) < (j : Int) := by omega
        clear hne HX
        go_wp2
        refine bodyPost_ret (v := .tuple #[.int .i64 (-(u : Int)), .int .i64 ((p : Int) + 2 + j + 1), .bool true]) (by simp [results, Tryd.results8, go_sem]) rfl ⟨by first | rfl | rw [ec], rfl⟩
      · have hj1' : ¬ (1 : Int) < (j : Int) := by omega
        clear HX
        go_wp2
        refine bodyPost_ret (v := .tuple #[.int .i64 (-(u : Int)), .int .i64 ((p : Int) + 2 + j + 1), .bool true]) (by simp [results, Tryd.results8, go_sem]) rfl ⟨by first | rfl | rw [ec], rfl⟩

theorem getD_mid (pre mid post : List UInt8) (i : Nat) (h : i < mid.length) : (pre ++ (mid ++ post)).getD (pre.length + i) 0 = mid.getD i 0 := by
  rw [List.getD_eq_getElem?_getD, List.getElem?_append_right (by omega), show pre.length + i - pre.length = i by omega, List.getElem?_append_left h, ← List.getD_eq_getElem?_getD]
theorem enc_len (v : Int) : (enc v).length = (itoa v).length + 2 := by simp [enc]

theorem read_any (b off c N p : Nat) (L pre post : List UInt8) (v : Int) (w : World) (hL : L = pre ++ (enc v ++ post)) (hNL : N = L.length) (hp : p = pre.length) (hN : N ≤ 1099511627776) (h0 : -9223372036854775808 ≤ v) (h1 : v ≤ 9223372036854775807)
    (hc : ∀ j, j < N → w.cell? ⟨b, off + j, none⟩ = some (.int .u8 ((L.getD j 0).toNat : Int))) :
    Calls Tryd.prog 8 #[.slice (some ⟨b, off, none⟩) N c, .int .i64 p] w fun e w' => e = .returned (.tuple #[.int .i64 v, .int .i64 ((p + (enc v).length : Nat) : Int), .bool true]) ∧ w' = w := by
  subst hp
  have hlen : N = pre.length + ((enc v).length + post.length) := by rw [hNL, hL, List.length_append, List.length_append]
  have hat : ∀ i, i < (enc v).length → w.cell? ⟨b, off + (pre.length + i), none⟩ = some (.int .u8 (((enc v).getD i 0).toNat : Int)) := fun i hi => by
    rw [hc (pre.length + i) (by omega), hL, getD_mid pre (enc v) post i hi]
  clear hc hL hNL
  have e0 := hat 0 (by rw [enc_len]; omega)
  by_cases hneg : v < 0
  · obtain ⟨u, rfl⟩ : ∃ u : Nat, v = -(u : Int) := ⟨v.natAbs, by omega⟩
    have hu1 : 1 ≤ u := by omega
    have hen : enc (-(u : Int)) = 105 :: 45 :: (decDigits u ++ [101]) := by unfold enc; rw [itoa_neg u hu1]; rfl
    rw [hen] at hat hlen ⊢
    have hl : (105 :: 45 :: (decDigits u ++ [101]) : List UInt8).length = (decDigits u).length + 3 := by simp
    rw [hl] at hat hlen ⊢
    rw [show pre.length + ((decDigits u).length + 3) = pre.length + 2 + (decDigits u).length + 1 by omega]
    refine read_neg b off c N pre.length u w hN (by omega) hu1 ?_ ?_ ⟨fun j hj => ?_, ?_, by omega⟩
    · have := hat 0 (by omega); exact this
    · have := hat 1 (by omega); exact this
    · have h2 := hat (j + 2) (by omega)
      have hd := dec_digit u _ (mem_getD (decDigits u) j hj)
      refine ⟨_, ?_, rfl, by omega, by omega⟩
      rw [show pre.length + 2 + j = pre.length + (j + 2) by omega, h2]
      have e : (105 :: 45 :: (decDigits u ++ [101]) : List UInt8).getD (j + 2) 0 = (decDigits u).getD j 0 := by
        show (decDigits u ++ [101]).getD j 0 = _
        rw [List.getD_eq_getElem?_getD, List.getElem?_append_left hj, ← List.getD_eq_getElem?_getD]
      rw [e]
    · have h2 := hat ((decDigits u).length + 2) (by omega)
      rw [show pre.length + 2 + (decDigits u).length = pre.length + ((decDigits u).length + 2) by omega, h2]
      have e : (105 :: 45 :: (decDigits u ++ [101]) : List UInt8).getD ((decDigits u).length + 2) 0 = 101 := by
        show (decDigits u ++ [101]).getD (decDigits u).length 0 = _
        rw [List.getD_eq_getElem?_getD, List.getElem?_append_right (Nat.le_refl _)]
        simp
      rw [e]; rfl
  · obtain ⟨u, rfl⟩ : ∃ u : Nat, v = u := ⟨v.toNat, by omega⟩
    have hen : enc (u : Int) = 105 :: (decDigits u ++ [101]) := by unfold enc; rw [itoa_nonneg]
    rw [hen] at hat hlen ⊢
    have hl : (105 :: (decDigits u ++ [101]) : List UInt8).length = (decDigits u).length + 2 := by simp
    rw [hl] at hat hlen ⊢
    rw [show pre.length + ((decDigits u).length + 2) = pre.length + 1 + (decDigits u).length + 1 by omega]
    refine read_pos b off c N pre.length u w hN (by omega) ?_ ⟨fun j hj => ?_, ?_, by omega⟩
    · have := hat 0 (by omega); exact this
    · have h2 := hat (j + 1) (by omega)
      have hd := dec_digit u _ (mem_getD (decDigits u) j hj)
      refine ⟨_, ?_, rfl, by omega, by omega⟩
      rw [show pre.length + 1 + j = pre.length + (j + 1) by omega, h2]
      have e : (105 :: (decDigits u ++ [101]) : List UInt8).getD (j + 1) 0 = (decDigits u).getD j 0 := by
        show (decDigits u ++ [101]).getD j 0 = _
        rw [List.getD_eq_getElem?_getD, List.getElem?_append_left hj, ← List.getD_eq_getElem?_getD]
      rw [e]
    · have h2 := hat ((decDigits u).length + 1) (by omega)
      rw [show pre.length + 1 + (decDigits u).length = pre.length + ((decDigits u).length + 1) by omega, h2]
      have e : (105 :: (decDigits u ++ [101]) : List UInt8).getD ((decDigits u).length + 1) 0 = 101 := by
        show (decDigits u ++ [101]).getD (decDigits u).length 0 = _
        rw [List.getD_eq_getElem?_getD, List.getElem?_append_right (Nat.le_refl _)]
        simp
      rw [e]; rfl
end Go.Proofs.Qxb6617855aDoor
