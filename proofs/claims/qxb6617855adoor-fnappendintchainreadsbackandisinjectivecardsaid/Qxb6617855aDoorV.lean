/-
  Law 1 (FnAppendIntIsBPlusCanonicalDecimal): the walk.
-/
import Derived.Test.Qxb6617855aDoorR
import Derived.Deep.QuietTactic
import Derived.BigQuiet
namespace Go.Proofs.Qxb6617855aDoor
open Go.RowKit Go.Lib
set_option linter.unusedVariables false

/-- A row of one's own, read. -/
theorem own_form {w : World} {B : Nat} {v : Value} {l : List UInt8} (h : w.ownsRow B 5 1 v l.length (byteCells l)) : ∃ a c, v = .slice a l.length c ∧ BytesA w a l ∧ (a = none → l.length = 0 ∧ c = 0) := by
  have h2 := h.2
  rcases h2 with ⟨rfl, h0⟩ | ⟨g, cap, cur, rfl, _, hg, _, _, _, _⟩
  · exact ⟨none, 0, by rw [h0], fun hp => by omega, fun _ => ⟨h0, rfl⟩⟩
  · refine ⟨some ⟨g, 0, none⟩, cap, rfl, fun hp => ⟨g, 0, rfl, fun j hj => ?_⟩, fun h => by cases h⟩
    have := h.cells (g := g) rfl j _ (bc_get l j hj)
    rw [Lib.add_plain] at this
    exact this
theorem BytesA.keep {w w' : World} {a : Option Addr} {l : List UInt8} (h : BytesA w a l) (hb : Below w.heap.size w w') : BytesA w' a l := fun hp => by
  obtain ⟨b, off, ha, hc⟩ := h hp
  exact ⟨b, off, ha, fun j hj => (hb.cell (by exact World.block_lt_of_cell? w _ (hc j hj))).trans (hc j hj)⟩
theorem tab_up {B B' : Nat} {w : World} {s : String} {k : IntKind} {zs : List Int} (h : TabBelow Tryd.prog B w s k zs) (hB : B ≤ B') : TabBelow Tryd.prog B' w s k zs := fun w' hb => h w' (hb.mono hB)
theorem getD_left (l r : List UInt8) (j : Nat) (h : j < l.length) : (l ++ r).getD j 0 = l.getD j 0 := by
  rw [List.getD_eq_getElem?_getD, List.getElem?_append_left h, ← List.getD_eq_getElem?_getD]
theorem getD_right (l r : List UInt8) (j : Nat) (h : j < r.length) : (l ++ r).getD (l.length + j) 0 = r.getD j 0 := by
  rw [List.getD_eq_getElem?_getD, List.getElem?_append_right (by omega), show l.length + j - l.length = j by omega, ← List.getD_eq_getElem?_getD]

/-- What an appender has left, in bytes. -/
theorem apd_form {B n : Nat} {sv : Value} {w w' : World} {l r : List UInt8} {e : Ending} (h : Apd B sv w w' n (byteCells l) r e) (hn : n = l.length) :
    ∃ v' a c, e = .returned v' ∧ v' = .slice a (l ++ r).length c ∧ w'.ownsRow B 5 1 v' (l ++ r).length (byteCells (l ++ r)) ∧ BytesA w' a (l ++ r) ∧ (a = none → (l ++ r).length = 0 ∧ c = 0) ∧ w.grownBy w' sv.ownBlock := by
  subst hn
  obtain ⟨v', rfl, ha⟩ := h.ex
  have ho := ha.own
  rw [← byteCells_append, ← List.length_append] at ho
  obtain ⟨a, c, hv, hb, hn⟩ := own_form ho
  exact ⟨v', a, c, rfl, hv, ho, hb, hn, ha.grown⟩

set_option maxHeartbeats 400000 in
theorem law1_big (a : Option Addr) (n c : Nat) (v : Int) (w : World) (hn0 : n ≤ 9223372036854775807) (hbig : ¬ n ≤ 1048576) :
    Calls Tryd.prog 3 #[.slice a n c, .int .i64 v] w fun e w' => e = .returned (.bool true) ∧ Below w.heap.size w w' := by
  have H5 : Hid (Calls Tryd.prog 5 #[.slice a n c, .int .i64 v] w fun e w' => e = .returned (.bool false) ∧ w' = w) := by
    have h := zzBytes5_any a n c v w hn0
    rw [decide_eq_false hbig] at h
    exact h
  clear hbig hn0
  go_enter Tryd.func3, Tryd.ntmps3
  go_wp2_with fail
  refine H5.out.mono ?_
  rintro e w ⟨rfl, rfl⟩
  go_wp2
  go_ret
  exact ⟨rfl, Below.refl _ _⟩

set_option maxRecDepth 100000 in
set_option maxHeartbeats 4000000 in
theorem law1_any (a : Option Addr) (c : Nat) (l : List UInt8) (v : Int) (w : World) (hA : BytesA w a l) (hn0 : l.length ≤ 9223372036854775807) (hnil : a = none → l.length = 0 ∧ c = 0) (h0 : -9223372036854775808 ≤ v) (h1 : v ≤ 9223372036854775807)
    (htab : TabIs Tryd.prog w pow10Name .u64 pow10Tab) :
    Calls Tryd.prog 3 #[.slice a l.length c, .int .i64 v] w fun e w' => e = .returned (.bool true) ∧ Below w.heap.size w w' := by
  obtain ⟨n, hn⟩ : ∃ n, n = l.length := ⟨_, rfl⟩
  rw [← hn] at hnil hn0 ⊢
  by_cases hbig : n ≤ 1048576
  · have hdec : decide (n ≤ 1048576) = true := by simpa using hbig
    have hbig' : (n : Int) ≤ 1048576 := by omega
    have HA : Hid (BytesA w a l) := hA
    have HN : Hid (n = l.length) := hn
    have HNIL : Hid (a = none → n = 0 ∧ c = 0) := hnil
    have HT : Hid (TabBelow Tryd.prog w.heap.size w pow10Name .u64 pow10Tab) := tabBelow_of_tabIs htab
    have HEL : Hid ((enc v).length ≤ 23) := by show _ ≤ _; rw [enc_len]; have := itoa_length_le v h0 h1; omega
    clear hA hn hnil htab
    go_enter Tryd.func3, Tryd.ntmps3
    go_wp2_with (go_at_call 5; refine (zzBytes5_any a n c _ _ hn0).mono ?_; rw [hdec]; rintro e w ⟨rfl, rfl⟩)
    -- want
    refine (clone_any a n c l w HA.out (by rw [← HN.out]; omega) HN.out HNIL.out).mono ?_
    rintro e w1 ⟨v1, rfl, hcl1⟩
    obtain ⟨a1, c1, hv1, hb1, hn1⟩ := own_form hcl1.own
    rw [← HN.out] at hv1
    subst hv1
    have HB1 : Hid (Below w.heap.size w w1) := hcl1.bel
    have HW1 : Hid (BytesA w1 a1 l) := hb1
    clear hcl1 hb1 hn1
    -- b
    go_wp2_with fail
    refine (clone_any a n c l w1 (HA.out.keep HB1.out) (by rw [← HN.out]; omega) HN.out HNIL.out).mono ?_
    rintro e w2 ⟨v2, rfl, hcl2⟩
    have HO2 : Hid (w2.ownsRow w1.heap.size 5 1 v2 n (byteCells l)) := by have := hcl2.own; rw [← HN.out] at this; exact this
    have HB2 : Hid (Below w1.heap.size w1 w2) := hcl2.bel
    have HT2 : Hid (TabBelow Tryd.prog w1.heap.size w2 pow10Name .u64 pow10Tab) := tab_up (HT.out.on (HB1.out.trans (hcl2.bel.mono HB1.out.size))) HB1.out.size
    clear hcl2
    -- got
    go_wp2_with fail
    refine (bencode_any v h0 h1 HO2.out HB2.out.size (by omega) HT2.out).mono ?_
    rintro e w3 hap
    obtain ⟨v3, a3, c3, rfl, rfl, ho3, hb3, _, hg3⟩ := apd_form hap HN.out
    have HB3 : Hid (Below w1.heap.size w2 w3) := (Below.refl _ _).grown hg3 HB2.out.size (fun k hk => (HO2.out.lt k hk).1)
    have HG3 : Hid (BytesA w3 a3 (l ++ enc v)) := hb3
    clear hap ho3 hb3 hg3
    have HT3 : Hid (TabBelow Tryd.prog w3.heap.size w3 pow10Name .u64 pow10Tab) := tab_up (HT2.out.on HB3.out) (Nat.le_trans HB2.out.size HB3.out.size)
    -- alone
    obtain ⟨E, hE⟩ : ∃ E, (enc v).length = E := ⟨_, rfl⟩
    have hlen3 : (l ++ enc v).length = n + E := by rw [List.length_append, ← HN.out, hE]
    rw [hlen3]
    have hE23 : E ≤ 23 := by rw [← hE]; exact HEL.out
    have HE : Hid ((enc v).length = E) := hE
    have HL3 : Hid ((l ++ enc v).length = n + E) := hlen3
    clear hE hlen3
    go_wp2_with fail
    refine (bencode_any v h0 h1 (World.ownsRow_nil w3 w3.heap.size 5 1) (Nat.le_refl _) (by omega) HT3.out).mono ?_
    rintro e w4 hap
    obtain ⟨v4, a4, c4, rfl, rfl, ho4, hb4, _, hg4⟩ := apd_form (l := []) hap rfl
    have HB4 : Hid (Below w3.heap.size w3 w4) := ⟨hg4.os, hg4.tape, hg4.output, hg4.size, fun k hk => hg4.block k hk (by simp [Value.ownBlock])⟩
    have HG4 : Hid (BytesA w4 a4 (enc v)) := hb4
    clear hap ho4 hb4 hg4
    rw [show (([] : List UInt8) ++ enc v).length = E from HE.out]
    have HB14 : Hid (Below w1.heap.size w1 w4) := HB2.out.trans (HB3.out.trans (HB4.out.mono (Nat.le_trans HB2.out.size HB3.out.size)))
    have HC1 : Hid (∀ k, k < n → ∃ b off, a1 = some ⟨b, off, none⟩ ∧ w4.cell? ⟨b, off + k, none⟩ = some (.int .u8 ((l.getD k 0).toNat : Int))) := fun k hk => by
      obtain ⟨b, off, ha, hc⟩ := (HW1.out.keep HB14.out) (by rw [← HN.out]; omega)
      exact ⟨b, off, ha, hc k (by rw [← HN.out]; exact hk)⟩
    have HC3 : Hid (∃ b off, a3 = some ⟨b, off, none⟩ ∧ ∀ k, k < n + E → w4.cell? ⟨b, off + k, none⟩ = some (.int .u8 (((l ++ enc v).getD k 0).toNat : Int))) := by
      obtain ⟨b, off, ha, hc⟩ := (HG3.out.keep HB4.out) (by rw [HL3.out, ← HE.out, enc_len]; omega)
      exact ⟨b, off, ha, fun k hk => hc k (by rw [HL3.out]; exact hk)⟩
    have HC4 : Hid (∃ b off, a4 = some ⟨b, off, none⟩ ∧ ∀ k, k < E → w4.cell? ⟨b, off + k, none⟩ = some (.int .u8 (((enc v).getD k 0).toNat : Int))) := by
      obtain ⟨b, off, ha, hc⟩ := HG4.out (by rw [enc_len]; omega)
      exact ⟨b, off, ha, fun k hk => hc k (by rw [HE.out]; exact hk)⟩
    have HBE : Hid (Below w.heap.size w w4) := HB1.out.trans (HB14.out.mono HB1.out.size)
    clear HA HNIL HT HW1 HB1 HO2 HB2 HT2 HB3 HG3 HT3 HB4 HG4 HB14
    obtain ⟨b3, o3, rfl, hc3⟩ := HC3.out
    obtain ⟨b4, o4, rfl, hc4⟩ := HC4.out
    have HC3' : Hid (∀ k, k < n + E → w4.cell? ⟨b3, o3 + k, none⟩ = some (.int .u8 (((l ++ enc v).getD k 0).toNat : Int))) := hc3
    have HC4' : Hid (∀ k, k < E → w4.cell? ⟨b4, o4 + k, none⟩ = some (.int .u8 (((enc v).getD k 0).toNat : Int))) := hc4
    clear HC3 HC4 hc3 hc4
    have HRD : Hid (∀ q, Calls Tryd.prog 8 #[.slice (some ⟨b4, o4, none⟩) E c4, .int .i64 0] (w4.drewN q) fun e w' => e = .returned (.tuple #[.int .i64 v, .int .i64 (E : Int), .bool true]) ∧ w' = w4.drewN q) := fun q => by
      have := read_any b4 o4 c4 E 0 (enc v) [] [] v (w4.drewN q) (by simp) HE.out.symm rfl (by omega) h0 h1 (fun k hk => (World.Alike.cell (World.drewN_alike w4 q) _).trans (HC4'.out k hk))
      rw [Nat.zero_add, HE.out] at this
      exact this
    go_wp2
    go_loopw [8] (fun i wr => ∃ (k q : Nat), k ≤ n ∧ i = .int .i64 k ∧ wr = w4.drewN q) (fun i _ => n - (RowKit.intOf i).toNat)
    case atStart => exact ⟨0, 0, Nat.zero_le _, rfl, rfl⟩
    case round =>
      obtain ⟨k, q, hk, rfl, rfl⟩ := hrel
      by_cases hlt : k < n
      · obtain ⟨b1, o1, rfl, cx⟩ := HC1.out k hlt
        have cy := HC3'.out k (by omega)
        rw [getD_left l (enc v) k (by rw [← HN.out]; exact hlt)] at cy
        obtain ⟨x, hx⟩ : ∃ x : Int, ((l.getD k 0).toNat : Int) = x := ⟨_, rfl⟩
        rw [hx] at cx cy
        have hlt' : (k : Int) < (n : Int) := by omega
        have hlt3 : (k : Int) < (n : Int) + (E : Int) := by omega
        clear hx HC1 HC3' HC4' HRD
        go_wp2
        go_quiet (fail)
        go_wp2
        go_roundw
        case rel => exact ⟨k + 1, _, by omega, by go_num, rfl⟩
        case measure => simp [RowKit.intOf]; omega
      · clear HC1
        go_wp2
        go_loopw [9] (fun i wr => ∃ (k q : Nat), k ≤ E ∧ i = .int .i64 k ∧ wr = w4.drewN q) (fun i _ => E - (RowKit.intOf i).toNat)
        case atStart => exact ⟨0, q, Nat.zero_le _, rfl, rfl⟩
        case round =>
          obtain ⟨j, q2, hj, rfl, rfl⟩ := hrel
          by_cases hjl : j < E
          · have cx := HC4'.out j hjl
            have cy := HC3'.out (n + j) (by omega)
            rw [HN.out, getD_right l (enc v) j (by rw [HE.out]; exact hjl), ← HN.out] at cy
            obtain ⟨x, hx⟩ : ∃ x : Int, (((enc v).getD j 0).toNat : Int) = x := ⟨_, rfl⟩
            rw [hx] at cx cy
            have hlt' : (j : Int) < (E : Int) := by omega
            have hlt3 : (n : Int) + (j : Int) < (n : Int) + (E : Int) := by omega
            clear hx HC3' HC4' HRD
            go_wp2
            go_quiet (fail)
            go_wp2
            go_roundw
            case rel => exact ⟨j + 1, _, by omega, by go_num, rfl⟩
            case measure => simp [RowKit.intOf]; omega
          · clear HC3' HC4'
            go_wp2_with fail
            refine (HRD.out q2).mono ?_
            rintro e w5 ⟨rfl, rfl⟩
            go_wp2
            go_ret
            exact ⟨rfl, HBE.out.trans ⟨rfl, rfl, rfl, Nat.le_refl _, fun _ _ => rfl⟩⟩
  · exact law1_big a n c v w hn0 hbig
end Go.Proofs.Qxb6617855aDoor
