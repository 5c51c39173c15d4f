/-
  The script's law (FnKeyWalkScriptAnswersAsAScanOfTheSet): the walk.
-/
import Derived.Test.Qxb6617214aAC
namespace Go.Proofs.Qxb6617214a
open Go.RowKit Go.Deep
set_option linter.unusedVariables false

theorem sr_strs {w w' : World} {l : List ByteArray} {b : Bool} {e : Ending} (h : SortRet w w' l b e) (hl : l.length ≤ 1073741824) : StrsA w' (some ⟨w.heap.size, 0, none⟩) l := strsA_of_row h.2.1 rfl hl
theorem st_cells {w : World} {b : Nat} {ss : List ByteArray} (h : StrsA w (some ⟨b, 0, none⟩) ss) : ∀ j, j < ss.length → w.cell? ⟨b, 0 + j, none⟩ = some (.string (ss.getD j ByteArray.empty)) := fun j hj => by
  obtain ⟨b', off, he, hc⟩ := h.2 (by omega)
  cases he
  exact hc j hj

set_option maxRecDepth 100000 in
set_option maxHeartbeats 8000000 in
theorem law5_any (a : Option Addr) (c : Nat) (css : List (List ByteArray)) (ch : Int) (a2 : Option Addr) (c2 : Nat) (ks : List ByteArray) (a3 : Option Addr) (c3 : Nat) (bs : List Bool) (a4 : Option Addr) (c4 : Nat) (ts : List ByteArray) (w : World)
    (hA : ChunksA w a css) (hnil : a = none → c = 0) (hK : StrsA w a2 ks) (hnil2 : a2 = none → c2 = 0) (hP : BoolsA w a3 bs) (hnil3 : a3 = none → c3 = 0) (hT : StrsA w a4 ts) (hnil4 : a4 = none → c4 = 0) :
    Calls Try.prog 5 #[.slice a css.length c, .int .u64 ch, .slice a2 ks.length c2, .slice a3 bs.length c3, .slice a4 ts.length c4] w fun e w' => e = .returned (.bool true) ∧ Below w.heap.size w w' := by
  clear hnil2 hnil3 hnil4
  obtain ⟨n2, hn2⟩ : ∃ n2, n2 = ks.length := ⟨_, rfl⟩
  obtain ⟨n3, hn3⟩ : ∃ n3, n3 = bs.length := ⟨_, rfl⟩
  obtain ⟨n4, hn4⟩ : ∃ n4, n4 = ts.length := ⟨_, rfl⟩
  rw [← hn2, ← hn3, ← hn4]
  have hl2 : n2 ≤ 9223372036854775807 := by rw [hn2]; exact hK.1
  have hl3 : n3 ≤ 9223372036854775807 := by rw [hn3]; exact hP.1
  have hl4 : n4 ≤ 9223372036854775807 := by rw [hn4]; exact hT.1
  have H7 : Hid _ := fun (_ : True) => zzBytes5_any a a2 a3 a4 c c2 c3 c4 css.length n2 n3 n4 css ks ts ch w hA rfl hK hn2 hT hn4 hl3
  have H9 : Hid _ := fun (_ : True) => chunksBytes_any a c css.length css w hA rfl
  have H10 : Hid _ := fun (_ : True) => chunksOK_any a c css.length css w hA rfl
  have H23a : Hid _ := fun (_ : True) => strsBytes_any a2 c2 n2 ks w hK hn2
  have H23b : Hid _ := fun (_ : True) => strsBytes_any a4 c4 n4 ts w hT hn4
  have HK : Hid (∀ w', Below w.heap.size w w' → ∀ i, i < n2 → ∃ b off, a2 = some ⟨b, off, none⟩ ∧ w'.cell? ⟨b, off + i, none⟩ = some (.string (ks.getD i ByteArray.empty))) := fun w' hb i hi => by
    obtain ⟨b, off, ha, hc⟩ := (hK.keep (keep_below hb)).2 (by omega)
    exact ⟨b, off, ha, hc i (by omega)⟩
  have HP : Hid (∀ w', Below w.heap.size w w' → ∀ i, i < n3 → ∃ b off, a3 = some ⟨b, off, none⟩ ∧ w'.cell? ⟨b, off + i, none⟩ = some (.bool (bs.getD i false))) := fun w' hb i hi => by
    obtain ⟨b, off, ha, hc⟩ := (hP.keep (keep_below hb)).2 (by omega)
    exact ⟨b, off, ha, hc i (by omega)⟩
  have HT4 : Hid (∀ w', Below w.heap.size w w' → ∀ i, i < n4 → ∃ b off, a4 = some ⟨b, off, none⟩ ∧ w'.cell? ⟨b, off + i, none⟩ = some (.string (ts.getD i ByteArray.empty))) := fun w' hb i hi => by
    obtain ⟨b, off, ha, hc⟩ := (hT.keep (keep_below hb)).2 (by omega)
    exact ⟨b, off, ha, hc i (by omega)⟩
  clear hK hP hT hn2 hn3 hn4
  go_enter Try.func5, Try.ntmps5
  go_wp2_with fail
  refine (H7.out trivial).mono ?_
  rintro e w ⟨⟨r, rfl, hr⟩, rfl⟩
  cases r with
  | false =>
    go_wp2
    go_ret
    exact ⟨rfl, Below.refl _ _⟩
  | true =>
  have hb := hr rfl
  have ht : tot css ≤ 1048576 := by omega
  have hl : css.length ≤ 1048576 := by omega
  have hn2 : n2 ≤ 1048576 := hb.2
  clear hr H7
  have HT : Hid (tot css ≤ 1048576) := ht
  have HL : Hid (css.length ≤ 1048576) := hl
  clear hb ht
  go_wp2_with fail
  refine (H9.out trivial).mono ?_
  rintro e w ⟨r, rfl, hr0, hr1, rfl⟩
  go_wp2_with fail
  refine (H23a.out trivial).mono ?_
  rintro e w ⟨r2, rfl, hr20, hr21, rfl⟩
  go_wp2_with fail
  refine (zzAdd_any _ _ _ (by omega) (by omega)).mono ?_
  rintro e w ⟨r3, rfl, hr30, hr31, rfl⟩
  go_wp2_with fail
  refine (countBytes_any _ _ (by omega)).mono ?_
  rintro e w ⟨r4, rfl, hr40, hr41, rfl⟩
  go_wp2_with fail
  refine (zzAdd_any _ _ _ (by omega) (by omega)).mono ?_
  rintro e w ⟨r5, rfl, hr50, hr51, rfl⟩
  go_wp2_with fail
  refine (H23b.out trivial).mono ?_
  rintro e w ⟨r6, rfl, hr60, hr61, rfl⟩
  go_wp2_with (go_at_call 8; refine (zzAdd_any _ _ _ (by omega) (by omega)).mono ?_; rintro e w ⟨r7, rfl, hr70, hr71, rfl⟩)
  · go_ret
    exact ⟨rfl, Below.refl _ _⟩
  refine (H10.out trivial).mono ?_
  rintro e w ⟨⟨r, rfl, hr⟩, rfl⟩
  cases r with
  | false =>
    go_wp2
    go_ret
    exact ⟨rfl, Below.refl _ _⟩
  | true =>
  have HOK : Hid (OK css) := hr.1 rfl
  clear hr H9 H10 H23a H23b
  have HA : Hid (ChunksA w a css) := hA
  clear hA
  have HLL : Hid (css.length ≤ 1073741824) := Nat.le_trans HL.out (by omega)
  have HTU : Hid (tot css ≤ 1073741824) := Nat.le_trans HT.out (by omega)
  -- chunks = cloneChunks(chunks)
  go_wp2_with fail
  refine (cloneChunks_any a c css.length _ css w rfl HLL.out HTU.out (ok_ne HOK.out) HA.out rfl hnil).mono ?_
  rintro e w1 ⟨v, rfl, hcl⟩
  obtain ⟨a1, hv, hA1, hb1, hs1⟩ := clV_form hcl rfl HLL.out HTU.out
  subst hv
  have HCL : Hid (ClV w.heap.size w w1 (.slice a1 css.length css.length) css) := hcl
  have HA1 : Hid (ChunksA w1 a1 css) := hA1
  have HB1 : Hid (Below w.heap.size w w1) := hb1
  have HS1 : Hid (w.heap.size ≤ w1.heap.size) := hs1
  clear hcl hA1 hb1 hs1 HA hnil
  -- cur := flatten(chunks)
  go_wp2_with fail
  refine (flatten_any a1 css.length css.length css w1 HLL.out HTU.out (ok_ne HOK.out) HA1.out rfl).mono ?_
  rintro e w2 ⟨rfl, hrow, hbel, hsz⟩
  have HO2 : Hid (StrsA w2 (some ⟨w1.heap.size, 0, none⟩) css.flatten) := strsA_of_row hrow rfl HTU.out
  have HB2 : Hid (Below w1.heap.size w1 w2) := hbel
  have HS2 : Hid (w2.heap.size = w1.heap.size + 1) := hsz
  clear hrow hbel hsz
  rw [show tot css = css.flatten.length from rfl]
  obtain ⟨L0, hL0⟩ : ∃ L0, css.flatten = L0 := ⟨_, rfl⟩
  rw [hL0] at HO2 ⊢
  have HL0 : Hid (css.flatten = L0) := hL0
  clear hL0
  -- s, w
  go_wp2_with (go_at_call 14; refine (makeSet_any _ _ _ _ _).mono ?_; rintro e y1 ⟨rfl, rfl⟩)
  refine (makeWalk_any _ _ _ _ _ _ _).mono ?_
  rintro e y2 ⟨rfl, rfl⟩
  have hSC := sc_start HCL.out HB1.out HS1.out HB2.out HS2.out HOK.out HLL.out HT.out ch (by rw [HL0.out]; exact HO2.out)
  rw [HL0.out] at hSC
  have hsz : (w2.alloc (.cells #[.slice a1 css.length css.length, .int .u64 ch] 54)).heap.size = w2.heap.size + 1 := by simp
  rw [hsz]
  clear hsz
  have hne : w2.heap.size + 1 ≠ w1.heap.size := by have := HS2.out; omega
  obtain ⟨W, hW⟩ : ∃ W, (w2.alloc (.cells #[.slice a1 css.length css.length, .int .u64 ch] 54)).alloc (.cells #[.pointer none, .int .u64 0, .string ⟨#[]⟩, .bool false, .bool false, .string ⟨#[]⟩] 57) = W := ⟨_, rfl⟩
  rw [hW] at hSC ⊢
  clear hW
  obtain ⟨wb, hwb⟩ : ∃ wb, w2.heap.size + 1 = wb := ⟨_, rfl⟩
  rw [hwb] at hSC hne ⊢
  clear hwb
  obtain ⟨sb, hsb⟩ : ∃ sb, w2.heap.size = sb := ⟨_, rfl⟩
  rw [hsb] at hSC ⊢
  clear hsb
  obtain ⟨cb0, hcb⟩ : ∃ cb0, w1.heap.size = cb0 := ⟨_, rfl⟩
  rw [hcb] at hSC hne ⊢
  clear hcb
  have HSC : Hid (Sc w.heap.size w W sb wb cb0 L0 ch 0) := hSC
  clear hSC HCL HB1 HS1 HB2 HS2 HO2 HA1 HL0
  obtain ⟨N, hN⟩ : ∃ N, css.length = N := ⟨_, rfl⟩
  rw [hN]
  clear hN
  go_wp2
  go_loopw [12, 16] (fun cu i wr => ∃ (k cb cc : Nat) (l : List ByteArray) (C : Int), k ≤ n2 ∧ i = .int .i64 k ∧ cu = .slice (some ⟨cb, 0, none⟩) l.length cc ∧ wb ≠ cb ∧ Hid (Sc w.heap.size w wr sb wb cb l C k)) (fun _ i _ => n2 - (intOf i).toNat)
  case atStart => exact ⟨0, cb0, _, L0, ch, Nat.zero_le _, rfl, rfl, hne, HSC⟩
  case round =>
    obtain ⟨k, cb, cc, l, C, hk, rfl, rfl, hwc, HI⟩ := hrel
    clear HSC hne
    by_cases hlt : k < n2
    · have hlt' : (k : Int) < (n2 : Int) := by omega
      obtain ⟨b2, o2, rfl, hx⟩ := HK.out wr HI.out.bel k hlt
      obtain ⟨q, hq⟩ : ∃ q, ks.getD k ByteArray.empty = q := ⟨_, rfl⟩
      rw [hq] at hx
      have HQ0 : Hid (ks.getD k ByteArray.empty = q) := hq
      clear hq
      go_upto_region 18 with fail
      go_cut [17] from 60 to 132 (fun s wx => IsB s ∧ wx = wr)
      case first =>
        clear hx
        by_cases hk3 : k < n3
        · obtain ⟨b3, o3, rfl, hy⟩ := HP.out wr HI.out.bel k hk3
          have hk3' : (k : Int) < (n3 : Int) := by omega
          clear HK HP HT4 HI
          go_wp2
          go_meet
          case rel => exact ⟨⟨_, rfl⟩, rfl⟩
        · have hk3' : ¬ (k : Int) < (n3 : Int) := by omega
          clear HK HP HT4 HI
          go_wp2
          go_meet
          case rel => exact ⟨⟨_, rfl⟩, rfl⟩
      case rest =>
      obtain ⟨⟨p, rfl⟩, rfl⟩ := hcut
      have H26 : Hid _ := fun (_ : True) => HI.out.question (by omega) hwc q p
      go_wp2_with fail
      refine (H26.out trivial).mono ?_
      rintro e w1 ⟨rfl, hsq⟩
      have HQ : Hid (Sq w.heap.size w w1 sb wb cb l C k) := hsq
      have H27 : Hid _ := fun (_ : True) => Sc.scan hsq cc q p
      clear hsq H26 hx HI
      have hx : w1.cell? ⟨b2, o2 + k, none⟩ = some (.string q) := by
        obtain ⟨b, off, he, hc⟩ := HK.out w1 HQ.out.bel k hlt
        cases he
        rw [HQ0.out] at hc
        exact hc
      obtain ⟨o, ho⟩ : ∃ o, scan l q p = o := ⟨_, rfl⟩
      rw [ho] at H27 ⊢
      clear ho
      go_wp2_with fail
      refine (H27.out trivial).mono ?_
      rintro e w1 ⟨rfl, rfl⟩
      clear H27 hx
      obtain ⟨g, hg⟩ : ∃ g, o.getD ByteArray.empty = g := ⟨_, rfl⟩
      rw [hg]
      obtain ⟨f, hf⟩ : ∃ f, o.isSome = f := ⟨_, rfl⟩
      rw [hf]
      clear hg hf
      have hgg : (g.toList != g.toList) = false := by simp
      have hff : (f != f) = false := by simp
      by_cases hk4 : k < n4
      · have hk4' : (k : Int) < (n4 : Int) := by omega
        obtain ⟨b4, o4, rfl, hx⟩ := HT4.out w1 HQ.out.bel k hk4
        obtain ⟨x, hxx⟩ : ∃ x, ts.getD k ByteArray.empty = x := ⟨_, rfl⟩
        rw [hxx] at hx
        clear hxx
        have HLN : Hid (l.length ≤ 2097152) := by show _ ≤ _; have := HQ.out.len; omega
        have H21 : Hid _ := fun (_ : True) => sortedInsert_any cb 0 cc l x w1 (Nat.le_trans HLN.out (by omega)) (st_cells HQ.out.cur)
        go_wp2_with fail
        refine (H21.out trivial).mono ?_
        rintro e w2 hS
        have HR2 : Hid (StrsA w2 (some ⟨w1.heap.size, 0, none⟩) (insS l x)) := sr_strs hS (by rw [insS_length]; have := HLN.out; split <;> omega)
        obtain ⟨rfl, _, hb2, hs2⟩ := hS
        have HB2 : Hid (Below w1.heap.size w1 w2) := hb2
        have HS2 : Hid (w2.heap.size = w1.heap.size + 1) := hs2
        have HBW : Hid (w.heap.size ≤ w1.heap.size) := HQ.out.bel.size
        clear hb2 hs2 H21 hx
        cases hat : isAt l x with
        | false =>
          have H15 : Hid _ := fun (_ : True) => addZ_any (HQ.out.ownNew HB2.out) (Nat.le_trans HLN.out (by omega)) (Nat.le_trans HBW.out HB2.out.size) (fun y hy => by
            simp only [List.mem_cons, List.not_mem_nil, or_false] at hy
            have h1 := HQ.out.fresh.lt
            have h2 := HS2.out
            rcases hy with rfl | rfl <;> omega) x
          rw [hat] at H15
          clear hat
          go_wp2_with fail
          refine (H15.out trivial).mono ?_
          rintro e w3 ⟨rfl, hadd⟩
          have HF : Hid (Sc w.heap.size w w3 sb wb w1.heap.size (insS l x) (incU C) (k + 1)) := HQ.out.added HBW.out HB2.out HS2.out HR2.out hadd
          have hwn : wb ≠ w1.heap.size := by have := HQ.out.fresh.lt; omega
          clear hadd H15 HR2 HB2 HS2 HBW
          obtain ⟨nb, hnb⟩ : ∃ nb, w1.heap.size = nb := ⟨_, rfl⟩
          rw [hnb] at HF hwn ⊢
          clear hnb HQ
          obtain ⟨L1, hL1⟩ : ∃ L1, insS l x = L1 := ⟨_, rfl⟩
          rw [hL1] at HF ⊢
          clear hL1
          go_wp2
          go_roundw
          case rel => exact ⟨k + 1, nb, _, L1, _, by omega, by go_num, rfl, hwn, HF⟩
          case measure => simp [intOf]; omega
        | true =>
          have hq2 := HQ.out.laid HBW.out HB2.out
          have HQ2 : Hid (Sq w.heap.size w w2 sb wb cb l C k) := hq2
          have H16 : Hid _ := fun (_ : True) => delZ_any hq2.own (Nat.le_trans HLN.out (by omega)) hq2.bel.size (fun y hy => by
            simp only [List.mem_cons, List.not_mem_nil, or_false] at hy
            have h1 := HQ2.out.fresh.lt
            have h2 := HQ2.out.clt
            rcases hy with rfl | rfl <;> omega) x
          rw [hat] at H16
          clear hat hq2 HQ HR2 HB2 HS2 HBW
          obtain ⟨nb, hnb⟩ : ∃ nb, w1.heap.size = nb := ⟨_, rfl⟩
          rw [hnb]
          clear hnb
          obtain ⟨L1, hL1⟩ : ∃ L1, insS l x = L1 := ⟨_, rfl⟩
          rw [hL1]
          clear hL1
          go_wp2_with fail
          refine (H16.out trivial).mono ?_
          rintro e w3 ⟨rfl, hdel⟩
          have HD : Hid (AddZ w.heap.size [wb, cb] w2 w3 sb (delS l x) (incU C)) := hdel
          have HBW : Hid (w.heap.size ≤ w3.heap.size) := Nat.le_trans HQ2.out.bel.size hdel.bel.size
          have H13 : Hid _ := fun (_ : True) => sortedDelete_any cb 0 cc l x w3 (Nat.le_trans HLN.out (by omega)) (st_cells (strs_block HQ2.out.cur (hdel.same cb (by simp))))
          clear hdel H16
          go_wp2_with fail
          refine (H13.out trivial).mono ?_
          rintro e w4 hS
          have HR4 : Hid (StrsA w4 (some ⟨w3.heap.size, 0, none⟩) (delS l x)) := sr_strs hS (by have := delS_len_le l x; have := HLN.out; omega)
          obtain ⟨rfl, _, hb4, hs4⟩ := hS
          have HF : Hid (Sc w.heap.size w w4 sb wb w3.heap.size (delS l x) (incU C) (k + 1)) := HQ2.out.removed HD.out HBW.out hb4 hs4 HR4.out
          have hwn : wb ≠ w3.heap.size := by have := HQ2.out.fresh.lt; have := HD.out.bel.size; omega
          clear hb4 hs4 H13 HR4 HD HQ2 HBW
          obtain ⟨nb2, hnb2⟩ : ∃ nb2, w3.heap.size = nb2 := ⟨_, rfl⟩
          rw [hnb2] at HF hwn ⊢
          clear hnb2
          obtain ⟨L2, hL2⟩ : ∃ L2, delS l x = L2 := ⟨_, rfl⟩
          rw [hL2] at HF ⊢
          clear hL2
          generalize isAt l x = dropped
          go_wp2
          go_roundw
          case rel => exact ⟨k + 1, nb2, _, L2, _, by omega, by go_num, rfl, hwn, HF⟩
          case measure => simp [intOf]; omega
      · have hk4' : ¬ (k : Int) < (n4 : Int) := by omega
        go_wp2
        go_roundw
        case rel => exact ⟨k + 1, cb, cc, l, C, by omega, by go_num, rfl, hwc, HQ.out.next⟩
        case measure => simp [intOf]; omega
    · have hlt' : ¬ (k : Int) < (n2 : Int) := by omega
      have HLN : Hid (l.length ≤ 2097152) := by show _ ≤ _; have := HI.out.len; omega
      obtain ⟨a3', cap3, cs3, hv3, hok3, hf3⟩ := HI.out.own.view (Nat.le_trans HLN.out (by omega))
      have HV3 : Hid (View wr sb a3' cap3 cs3 C) := hv3
      have HK3 : Hid (OK cs3) := hok3
      have HF3 : Hid (cs3.flatten = l) := hf3
      have HT3 : Hid (tot cs3 ≤ 1073741824) := by show cs3.flatten.length ≤ _; rw [hf3]; exact Nat.le_trans HLN.out (by omega)
      have HCU : Hid (StrsA wr (some ⟨cb, 0, none⟩) l) := HI.out.cur
      have HBE : Hid (Below w.heap.size w wr) := HI.out.bel
      clear hv3 hok3 hf3 HI HK HP HT4
      go_wp2_with fail
      refine (setChunks_any sb _ _ HV3.out.c0).mono ?_
      rintro e W4 ⟨rfl, rfl⟩
      go_wp2_with fail
      refine (flatten_any a3' cap3 cs3.length cs3 _ HV3.out.len HT3.out (ok_ne HK3.out) HV3.out.chunks rfl).mono ?_
      rintro e W5 ⟨rfl, hrow5, hbel5, hsz5⟩
      have HR5 : Hid (StrsA W5 (some ⟨W4.heap.size, 0, none⟩) l) := by have := strsA_of_row hrow5 rfl HT3.out; rw [HF3.out] at this; exact this
      have HB5 : Hid (Below W4.heap.size W4 W5) := hbel5
      rw [show tot cs3 = l.length from by unfold tot; rw [HF3.out]]
      clear hrow5 hbel5 hsz5
      go_wp2_with fail
      refine (eqStrs_any _ _ _ _ _ _ l l _ HR5.out (HCU.out.keep (keep_below HB5.out)) rfl rfl).mono ?_
      rintro e W6 ⟨⟨r, rfl, hr⟩, q6, rfl⟩
      obtain rfl : r = true := hr.2 rfl
      clear hr
      go_wp2
      go_ret
      exact ⟨rfl, below_drewN' (HBE.out.trans (HB5.out.mono HBE.out.size)) q6⟩
end Go.Proofs.Qxb6617214a
