/-
  Law 2 (FnAppendIntChainReadsBackAndIsInjective): the walk.
-/
import Derived.Test.Qxb6617855aDoorX
namespace Go.Proofs.Qxb6617855aDoor
open Go.RowKit Go.Lib
set_option linter.unusedVariables false

set_option maxHeartbeats 400000 in
theorem law2_big (a : Option Addr) (n c : Nat) (v1 v2 : Int) (w : World) (hn0 : n ≤ 9223372036854775807) (hbig : ¬ n ≤ 1048576) :
    Calls Tryd.prog 4 #[.slice a n c, .int .i64 v1, .int .i64 v2] w fun e w' => e = .returned (.bool true) ∧ Below w.heap.size w w' := by
  have H5 : Hid (Calls Tryd.prog 9 #[.slice a n c, .int .i64 v1, .int .i64 v2] w fun e w' => e = .returned (.bool false) ∧ w' = w) := by
    have h := zzBytes9_any a n c v1 v2 w hn0
    rw [decide_eq_false hbig] at h
    exact h
  clear hbig hn0
  go_enter Tryd.func4, Tryd.ntmps4
  go_wp2_with fail
  refine H5.out.mono ?_
  rintro e w ⟨rfl, rfl⟩
  go_wp2
  go_ret
  exact ⟨rfl, Below.refl _ _⟩

theorem below_kept {w w' : World} {B : Nat} {v : Value} {n : Nat} {xs : List Value} (h : w.ownsRow B 5 1 v n xs) (hb : Below w.heap.size w w') : w'.ownsRow B 5 1 v n xs :=
  h.kept (row := none) ⟨hb.os, hb.tape, hb.output, hb.size, fun k hk _ => hb.block k hk⟩ (by cases v.ownBlock <;> simp)
theorem below_drewN1 {B : Nat} {w w' : World} (h : Below B w w') (q : Nat) : Below B w (w'.drewN q) := h.trans ⟨rfl, rfl, rfl, Nat.le_refl _, fun _ _ => rfl⟩

set_option maxRecDepth 100000 in
set_option maxHeartbeats 4000000 in
theorem law2_any (a : Option Addr) (c : Nat) (l : List UInt8) (v1 v2 : Int) (w : World) (hA : BytesA w a l) (hn0 : l.length ≤ 9223372036854775807) (hnil : a = none → l.length = 0 ∧ c = 0) (h0 : -9223372036854775808 ≤ v1) (h1 : v1 ≤ 9223372036854775807) (g0 : -9223372036854775808 ≤ v2) (g1 : v2 ≤ 9223372036854775807)
    (htab : TabIs Tryd.prog w pow10Name .u64 pow10Tab) :
    Calls Tryd.prog 4 #[.slice a l.length c, .int .i64 v1, .int .i64 v2] w fun e w' => e = .returned (.bool true) ∧ Below w.heap.size w w' := by
  obtain ⟨n, hn⟩ : ∃ n, n = l.length := ⟨_, rfl⟩
  rw [← hn] at hnil hn0 ⊢
  by_cases hbig : n ≤ 1048576
  · have hbig' : (n : Int) ≤ 1048576 := by omega
    have HA : Hid (BytesA w a l) := hA
    have HN : Hid (n = l.length) := hn
    have HNIL : Hid (a = none → n = 0 ∧ c = 0) := hnil
    have HT : Hid (TabBelow Tryd.prog w.heap.size w pow10Name .u64 pow10Tab) := tabBelow_of_tabIs htab
    have HE1 : Hid ((enc v1).length ≤ 23) := by show _ ≤ _; rw [enc_len]; have := itoa_length_le v1 h0 h1; omega
    have HE2 : Hid ((enc v2).length ≤ 23) := by show _ ≤ _; rw [enc_len]; have := itoa_length_le v2 g0 g1; omega
    have H9 : Hid (Calls Tryd.prog 9 #[.slice a n c, .int .i64 v1, .int .i64 v2] w fun e w' => e = .returned (.bool true) ∧ w' = w) := by
      have h := zzBytes9_any a n c v1 v2 w hn0
      rw [decide_eq_true hbig] at h
      exact h
    clear hA hn hnil htab
    go_enter Tryd.func4, Tryd.ntmps4
    go_wp2_with fail
    refine H9.out.mono ?_
    rintro e w ⟨rfl, rfl⟩
    clear H9
    -- want
    go_wp2_with fail
    refine (clone_any a n c l w HA.out (by rw [← HN.out]; omega) HN.out HNIL.out).mono ?_
    rintro e w1 ⟨x1, rfl, hcl1⟩
    obtain ⟨a1, c1, hv1, hb1, hn1⟩ := own_form hcl1.own
    rw [← HN.out] at hv1
    subst hv1
    have HB1 : Hid (Below w.heap.size w w1) := hcl1.bel
    have HW1 : Hid (BytesA w1 a1 l) := hb1
    clear hcl1 hb1 hn1
    -- b
    go_wp2_with fail
    refine (clone_any a n c l w1 (HA.out.keep HB1.out) (by rw [← HN.out]; omega) HN.out HNIL.out).mono ?_
    rintro e w2 ⟨x2, rfl, hcl2⟩
    have HO2 : Hid (w2.ownsRow w1.heap.size 5 1 x2 n (byteCells l)) := by have := hcl2.own; rw [← HN.out] at this; exact this
    have HB2 : Hid (Below w1.heap.size w1 w2) := hcl2.bel
    have HT2 : Hid (TabBelow Tryd.prog w1.heap.size w2 pow10Name .u64 pow10Tab) := tab_up (HT.out.on (HB1.out.trans (hcl2.bel.mono HB1.out.size))) HB1.out.size
    clear hcl2
    -- first
    go_wp2_with fail
    refine (bencode_any v1 h0 h1 HO2.out HB2.out.size (by omega) HT2.out).mono ?_
    rintro e w3 hap
    obtain ⟨x3, a3, c3, rfl, hx3, ho3, hb3, hnl3, hg3⟩ := apd_form hap HN.out
    have HB3 : Hid (Below w1.heap.size w2 w3) := (Below.refl _ _).grown hg3 HB2.out.size (fun k hk => (HO2.out.lt k hk).1)
    obtain ⟨E1, hE1⟩ : ∃ E1, (enc v1).length = E1 := ⟨_, rfl⟩
    obtain ⟨E2, hE2⟩ : ∃ E2, (enc v2).length = E2 := ⟨_, rfl⟩
    obtain ⟨l1, hl1⟩ : ∃ l1, l ++ enc v1 = l1 := ⟨_, rfl⟩
    have hlen1 : l1.length = n + E1 := by rw [← hl1, List.length_append, ← HN.out, hE1]
    have hE1b : E1 ≤ 23 := by rw [← hE1]; exact HE1.out
    have hE1p : 2 ≤ E1 := by rw [← hE1, enc_len]; omega
    have hE2b : E2 ≤ 23 := by rw [← hE2]; exact HE2.out
    have hE2p : 2 ≤ E2 := by rw [← hE2, enc_len]; omega
    rw [hl1] at hx3 ho3 hb3 hnl3
    rw [hlen1] at hx3 ho3 hnl3
    have HO3 : Hid (w3.ownsRow w1.heap.size 5 1 x3 (n + E1) (byteCells l1)) := ho3
    have HG3 : Hid (BytesA w3 a3 l1) := hb3
    have HX3 : Hid (x3 = .slice a3 (n + E1) c3) := hx3
    have HNL3 : Hid (a3 = none → n + E1 = 0 ∧ c3 = 0) := hnl3
    have HL1 : Hid (l ++ enc v1 = l1) := hl1
    have HLEN1 : Hid (l1.length = n + E1) := hlen1
    have HEE1 : Hid ((enc v1).length = E1) := hE1
    have HEE2 : Hid ((enc v2).length = E2) := hE2
    clear hap ho3 hb3 hg3 hnl3 hl1 hlen1 hE1 hE2 HE1 HE2 hx3
    have HS13 : Hid (w1.heap.size ≤ w3.heap.size) := Nat.le_trans HB2.out.size HB3.out.size
    -- firstWas
    rw [HX3.out]
    go_wp2_with fail
    refine (clone_any a3 (n + E1) c3 l1 w3 HG3.out (by rw [HLEN1.out]; omega) HLEN1.out.symm HNL3.out).mono ?_
    rintro e w4 ⟨x4, rfl, hcl4⟩
    have HCL4 : Hid (ClB w3 w4 x4 l1) := hcl4
    obtain ⟨a4, c4, hx4, _, _⟩ := own_form hcl4.own
    rw [HLEN1.out] at hx4
    have HX4 : Hid (x4 = .slice a4 (n + E1) c4) := hx4
    have HB4 : Hid (Below w3.heap.size w3 w4) := hcl4.bel
    clear hcl4 hx4
    have HO4 : Hid (w4.ownsRow w1.heap.size 5 1 x3 (n + E1) (byteCells l1)) := below_kept HO3.out HB4.out
    have HB24 : Hid (Below w1.heap.size w2 w4) := HB3.out.trans (HB4.out.mono HS13.out)
    have HT4 : Hid (TabBelow Tryd.prog w1.heap.size w4 pow10Name .u64 pow10Tab) := HT2.out.on HB24.out
    rw [HX4.out]
    -- second
    go_wp2_with fail
    rw [← HX3.out]
    refine (bencode_any v2 g0 g1 HO4.out (Nat.le_trans HS13.out HB4.out.size) (by omega) HT4.out).mono ?_
    rintro e w5 hap
    obtain ⟨x5, a5, c5, rfl, rfl, ho5, hb5, _, hg5⟩ := apd_form hap HLEN1.out.symm
    have HB5 : Hid (Below w1.heap.size w4 w5) := (Below.refl _ _).grown hg5 (Nat.le_trans HS13.out HB4.out.size) (fun k hk => (HO4.out.lt k hk).1)
    have HG5 : Hid (BytesA w5 a5 (l1 ++ enc v2)) := hb5
    have HF5 : Hid (BytesA w5 a4 l1) := by
      have hk : w5.ownsRow w3.heap.size 5 1 x4 l1.length (byteCells l1) := HCL4.out.own.kept hg5 (by
        cases h4 : x4.ownBlock with
        | none => exact .inl rfl
        | some g4 =>
          right
          intro e
          have h5 := HCL4.out.own.lt g4 h4
          have h6 := HO3.out.lt g4 e.symm
          omega)
      obtain ⟨a4', c4', hx, hbb, _⟩ := own_form hk
      have := HX4.out.symm.trans hx
      simp only [Value.slice.injEq] at this
      obtain ⟨rfl, _, _⟩ := this
      exact hbb
    clear hap ho5 hb5 hg5
    have hlen5 : (l1 ++ enc v2).length = n + E1 + E2 := by rw [List.length_append, HLEN1.out, HEE2.out]
    rw [hlen5]
    have HLEN5 : Hid ((l1 ++ enc v2).length = n + E1 + E2) := hlen5
    clear hlen5
    have HB15 : Hid (Below w1.heap.size w1 w5) := HB2.out.trans (HB24.out.trans HB5.out)
    have HBE : Hid (Below w.heap.size w w5) := HB1.out.trans (HB15.out.mono HB1.out.size)
    have HC1 : Hid (∀ k, k < n → ∃ b off, a1 = some ⟨b, off, none⟩ ∧ w5.cell? ⟨b, off + k, none⟩ = some (.int .u8 ((l.getD k 0).toNat : Int))) := fun k hk => by
      obtain ⟨b, off, ha, hc⟩ := (HW1.out.keep HB15.out) (by rw [← HN.out]; omega)
      exact ⟨b, off, ha, hc k (by rw [← HN.out]; exact hk)⟩
    obtain ⟨b4, o4, hq4, hc4⟩ := HF5.out (by rw [HLEN1.out]; omega)
    obtain ⟨b5, o5, hq5, hc5⟩ := HG5.out (by rw [HLEN5.out]; omega)
    rw [HLEN1.out] at hc4
    rw [HLEN5.out] at hc5
    have HC4 : Hid (∀ k, k < n + E1 → w5.cell? ⟨b4, o4 + k, none⟩ = some (.int .u8 ((l1.getD k 0).toNat : Int))) := hc4
    have HC5 : Hid (∀ k, k < n + E1 + E2 → w5.cell? ⟨b5, o5 + k, none⟩ = some (.int .u8 (((l1 ++ enc v2).getD k 0).toNat : Int))) := hc5
    subst hq4 hq5
    rw [HX3.out]
    clear HA HNIL HW1 HB1 HO2 HB2 HT2 HB3 HG3 HX3 HNL3 HO3 HCL4 HX4 HB4 HO4 HB24 HT4 HB5 HG5 HF5 HB15 hc4 hc5 HS13
    have HR1 : Hid (∀ q, Calls Tryd.prog 8 #[.slice (some ⟨b5, o5, none⟩) (n + E1 + E2) c5, .int .i64 n] (w5.drewN q) fun e w' => e = .returned (.tuple #[.int .i64 v1, .int .i64 ((n : Int) + (E1 : Int)), .bool true]) ∧ w' = w5.drewN q) := fun q => by
      have := read_any b5 o5 c5 (n + E1 + E2) n (l1 ++ enc v2) l (enc v2) v1 (w5.drewN q) (by rw [← HL1.out, List.append_assoc]) HLEN5.out.symm HN.out (by omega) h0 h1 (fun k hk => (World.Alike.cell (World.drewN_alike w5 q) _).trans (HC5.out k hk))
      rw [HEE1.out, Int.natCast_add n E1] at this
      exact this
    have HR2 : Hid (∀ q, Calls Tryd.prog 8 #[.slice (some ⟨b5, o5, none⟩) (n + E1 + E2) c5, .int .i64 ((n : Int) + (E1 : Int))] (w5.drewN q) fun e w' => e = .returned (.tuple #[.int .i64 v2, .int .i64 ((n : Int) + (E1 : Int) + (E2 : Int)), .bool true]) ∧ w' = w5.drewN q) := fun q => by
      have := read_any b5 o5 c5 (n + E1 + E2) (n + E1) (l1 ++ enc v2) l1 [] v2 (w5.drewN q) (by rw [List.append_nil]) HLEN5.out.symm HLEN1.out.symm (by omega) g0 g1 (fun k hk => (World.Alike.cell (World.drewN_alike w5 q) _).trans (HC5.out k hk))
      rw [HEE2.out, Int.natCast_add (n + E1) E2, Int.natCast_add n E1] at this
      exact this
    go_wp2
    go_loopw [11] (fun i wr => ∃ (k q : Nat), k ≤ n ∧ i = .int .i64 k ∧ wr = w5.drewN q) (fun i _ => n - (RowKit.intOf i).toNat)
    case atStart => exact ⟨0, 0, Nat.zero_le _, rfl, rfl⟩
    case round =>
      obtain ⟨k, q, hk, rfl, rfl⟩ := hrel
      by_cases hlt : k < n
      · obtain ⟨b1, o1, rfl, cx⟩ := HC1.out k hlt
        have cy := HC4.out k (by omega)
        rw [← HL1.out, getD_left l (enc v1) k (by rw [← HN.out]; exact hlt)] at cy
        obtain ⟨x, hx⟩ : ∃ x : Int, ((l.getD k 0).toNat : Int) = x := ⟨_, rfl⟩
        rw [hx] at cx cy
        have hlt' : (k : Int) < (n : Int) := by omega
        have hlt3 : (k : Int) < (n : Int) + (E1 : Int) := by omega
        clear hx HC1 HC4 HC5 HR1 HR2 HT
        go_wp2
        go_quiet (fail)
        go_wp2
        go_roundw
        case rel => exact ⟨k + 1, _, by omega, by go_num, rfl⟩
        case measure => simp [RowKit.intOf]; omega
      · clear HC1
        go_wp2
        go_loopw [12] (fun i wr => ∃ (k q : Nat), k ≤ n + E1 ∧ i = .int .i64 k ∧ wr = w5.drewN q) (fun i _ => n + E1 - (RowKit.intOf i).toNat)
        case atStart => exact ⟨0, q, Nat.zero_le _, rfl, rfl⟩
        case round =>
          obtain ⟨j, q2, hj, rfl, rfl⟩ := hrel
          by_cases hjl : j < n + E1
          · have cx := HC4.out j hjl
            have cy := HC5.out j (by omega)
            rw [getD_left l1 (enc v2) j (by rw [HLEN1.out]; exact hjl)] at cy
            obtain ⟨x, hx⟩ : ∃ x : Int, ((l1.getD j 0).toNat : Int) = x := ⟨_, rfl⟩
            rw [hx] at cx cy
            have hlt' : (j : Int) < (n : Int) + (E1 : Int) := by omega
            have hlt3 : (j : Int) < (n : Int) + (E1 : Int) + (E2 : Int) := by omega
            clear hx HC4 HC5 HR1 HR2 HT
            go_wp2
            go_quiet (fail)
            go_wp2
            go_roundw
            case rel => exact ⟨j + 1, _, by omega, by go_num, rfl⟩
            case measure => simp [RowKit.intOf]; omega
          · clear HC4 HC5
            have hjn : ¬ (j : Int) < (n : Int) + (E1 : Int) := by omega
            go_wp2_with fail
            refine (HR1.out q2).mono ?_
            rintro e w6 ⟨rfl, rfl⟩
            go_wp2_with fail
            refine (HR2.out q2).mono ?_
            rintro e w6 ⟨rfl, rfl⟩
            clear HR1 HR2
            have HBW : Hid (Below w.heap.size w (w5.drewN q2)) := below_drewN1 HBE.out q2
            obtain ⟨W, hW⟩ : ∃ W, w5.drewN q2 = W := ⟨_, rfl⟩
            rw [hW] at HBW ⊢
            clear hW HBE
            have HTW : Hid (TabBelow Tryd.prog w.heap.size W pow10Name .u64 pow10Tab) := HT.out.on HBW.out
            clear HT
            -- e1
            go_wp2_with fail
            refine (bencode_any v1 h0 h1 (World.ownsRow_nil W W.heap.size 5 1) (Nat.le_refl _) (by omega) (tab_up HTW.out HBW.out.size)).mono ?_
            rintro e w7 hap
            obtain ⟨x7, a7, c7, rfl, rfl, _, hb7, _, hg7⟩ := apd_form (l := []) hap rfl
            have HB7 : Hid (Below W.heap.size W w7) := ⟨hg7.os, hg7.tape, hg7.output, hg7.size, fun k hk => hg7.block k hk (by simp [Value.ownBlock])⟩
            have HG7 : Hid (BytesA w7 a7 (enc v1)) := hb7
            clear hap hb7 hg7
            rw [show (([] : List UInt8) ++ enc v1).length = E1 from HEE1.out]
            have HBW7 : Hid (Below w.heap.size w w7) := HBW.out.trans (HB7.out.mono HBW.out.size)
            have HT7 : Hid (TabBelow Tryd.prog w7.heap.size w7 pow10Name .u64 pow10Tab) := tab_up (HTW.out.on (HB7.out.mono HBW.out.size)) HBW7.out.size
            -- e2
            go_wp2_with fail
            refine (bencode_any v2 g0 g1 (World.ownsRow_nil w7 w7.heap.size 5 1) (Nat.le_refl _) (by omega) HT7.out).mono ?_
            rintro e w8 hap
            obtain ⟨x8, a8, c8, rfl, rfl, _, hb8, _, hg8⟩ := apd_form (l := []) hap rfl
            have HB8 : Hid (Below w7.heap.size w7 w8) := ⟨hg8.os, hg8.tape, hg8.output, hg8.size, fun k hk => hg8.block k hk (by simp [Value.ownBlock])⟩
            have HG8 : Hid (BytesA w8 a8 (enc v2)) := hb8
            clear hap hb8 hg8
            rw [show (([] : List UInt8) ++ enc v2).length = E2 from HEE2.out]
            have HBW8 : Hid (Below w.heap.size w w8) := HBW7.out.trans (HB8.out.mono HBW7.out.size)
            obtain ⟨b7, o7, hq7, hc7⟩ := (HG7.out.keep HB8.out) (by rw [HEE1.out]; omega)
            obtain ⟨b8, o8, hq8, hc8⟩ := HG8.out (by rw [HEE2.out]; omega)
            rw [HEE1.out] at hc7
            rw [HEE2.out] at hc8
            subst hq7 hq8
            have H10 : Hid (Calls Tryd.prog 10 #[.slice (some ⟨b7, o7, none⟩) E1 c7, .slice (some ⟨b8, o8, none⟩) E2 c8] w8 fun e w' => RetQ (enc v1 = enc v2) e ∧ ∃ q, w' = w8.drewN q) := equal_any b7 o7 c7 b8 o8 c8 E1 E2 (enc v1) (enc v2) w8 HEE1.out.symm HEE2.out.symm (by omega) (by omega) hc7 hc8
            clear hc7 hc8 HG7 HG8 HT7 HTW HBW HBW7 HB7 HB8
            go_wp2_with fail
            refine H10.out.mono ?_
            rintro e w9 ⟨⟨r, rfl, hr⟩, q9, rfl⟩
            by_cases hv : v1 = v2
            · obtain rfl : r = true := hr.2 (by rw [hv])
              clear hr H10
              have hvv : (v1 == v2) = true := by rw [beq_iff_eq]; exact hv
              go_wp2
              go_ret
              exact ⟨rfl, below_drewN1 HBW8.out q9⟩
            · obtain rfl : r = false := by
                cases r with
                | false => rfl
                | true => exact absurd (enc_inj (hr.1 rfl)) hv
              clear hr H10
              have hvv : (v1 == v2) = false := by rw [beq_eq_false_iff_ne]; exact hv
              go_wp2
              go_ret
              exact ⟨rfl, below_drewN1 HBW8.out q9⟩
  · exact law2_big a n c v1 v2 w hn0 hbig
end Go.Proofs.Qxb6617855aDoor
