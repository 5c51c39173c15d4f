/-
  Law 2 (FnKeySetAddInEitherOrderGivesTheSortedUnion): the walk.
-/
import Derived.Test.Qxb6617214aAB
import Derived.Test.Qxb6617214aC20
namespace Go.Proofs.Qxb6617214a
open Go.RowKit Go.Deep
set_option linter.unusedVariables false

theorem SortRet.strs' {w w' : World} {l : List ByteArray} {b : Bool} {e : Ending} (h : SortRet w w' l b e) (hl : l.length ≤ 1073741824) : StrsA w' (some ⟨w.heap.size, 0, none⟩) l := strsA_of_row h.2.1 rfl hl
theorem strs_cells' {w : World} {b : Nat} {ss : List ByteArray} (h : StrsA w (some ⟨b, 0, none⟩) ss) : ∀ j, j < ss.length → w.cell? ⟨b, 0 + j, none⟩ = some (.string (ss.getD j ByteArray.empty)) := fun j hj => by
  obtain ⟨b', off, he, hc⟩ := h.2 (by omega)
  cases he
  exact hc j hj

/-- What the law wants of the count. -/
def step2 (ch : Int) (new : Bool) : Int := if new then IntKind.u64.wrap (ch + 1) else ch
theorem step2_eq (ch : Int) (b : Bool) : (if b then ch else incU ch) = step2 ch (!b) := by
  unfold step2; cases b <;> rfl
theorem insS_len_le (l : List ByteArray) (k : ByteArray) : (insS l k).length ≤ l.length + 1 := by
  rw [insS_length]; split <;> omega

/-- The count in either order. -/
theorem count_comm {l : List ByteArray} (h : Incr l) (a b : ByteArray) (C : Int) :
    (if isAt (insS l b) a then (if isAt l b then C else incU C) else incU (if isAt l b then C else incU C)) = (if isAt (insS l a) b then (if isAt l a then C else incU C) else incU (if isAt l a then C else incU C)) := by
  have e := congrArg List.length (insS_comm h a b)
  rw [insS_length, insS_length, insS_length, insS_length] at e
  revert e
  generalize isAt l a = x
  generalize isAt l b = y
  generalize isAt (insS l b) a = z
  generalize isAt (insS l a) b = t
  generalize l.length = n
  cases x <;> cases y <;> cases z <;> cases t <;> simp <;> intro h <;> omega

set_option maxRecDepth 100000 in
set_option maxHeartbeats 4000000 in
theorem law2_any (a : Option Addr) (c : Nat) (css : List (List ByteArray)) (ch : Int) (ka kb : ByteArray) (w : World) (hA : ChunksA w a css) (hnil : a = none → c = 0) :
    Calls Try.prog 4 #[.slice a css.length c, .int .u64 ch, .string ka, .string kb] w fun e w' => e = .returned (.bool true) ∧ Below w.heap.size w w' := by
  have H7 : Hid _ := fun (_ : True) => zzBytes4_any a c css.length css ch ka kb w hA rfl
  have H9 : Hid _ := fun (_ : True) => chunksBytes_any a c css.length css w hA rfl
  have H10 : Hid _ := fun (_ : True) => chunksOK_any a c css.length css w hA rfl
  go_enter Try.func4, Try.ntmps4
  go_wp2_with fail
  refine (H7.out trivial).mono ?_
  rintro e w ⟨⟨r, rfl, hr⟩, rfl⟩
  cases r with
  | false =>
    go_wp2
    go_ret
    exact ⟨rfl, Below.refl _ _⟩
  | true =>
  have hb := hr rfl
  have ht : tot css ≤ 1048576 := by omega
  have hl : css.length ≤ 1048576 := by omega
  clear hr H7
  have HT : Hid (tot css ≤ 1048576) := ht
  have HL : Hid (css.length ≤ 1048576) := hl
  clear hb ht
  go_wp2_with fail
  refine (H9.out trivial).mono ?_
  rintro e w ⟨r, rfl, hr0, hr1, rfl⟩
  go_wp2_with fail
  refine (zzAdd_any _ _ _ (by omega) (by omega)).mono ?_
  rintro e w ⟨r2, rfl, hr20, hr21, rfl⟩
  go_wp2_with (go_at_call 8; refine (zzAdd_any _ _ _ (by omega) (by omega)).mono ?_; rintro e w ⟨r3, rfl, hr30, hr31, rfl⟩)
  · go_ret
    exact ⟨rfl, Below.refl _ _⟩
  refine (H10.out trivial).mono ?_
  rintro e w ⟨⟨r, rfl, hr⟩, rfl⟩
  cases r with
  | false =>
    go_wp2
    go_ret
    exact ⟨rfl, Below.refl _ _⟩
  | true =>
  have HOK : Hid (OK css) := hr.1 rfl
  clear hr H9 H10
  have HA : Hid (ChunksA w a css) := hA
  clear hA
  have HTT : Hid (tot css ≤ 1073741000) := Nat.le_trans HT.out (by omega)
  have HLL : Hid (css.length ≤ 1073741824) := Nat.le_trans HL.out (by omega)
  have HTU : Hid (tot css ≤ 1073741824) := Nat.le_trans HT.out (by omega)
  have HI : Hid (Incr css.flatten) := HOK.out.2
  -- chunks = cloneChunks(chunks)
  go_wp2_with fail
  refine (cloneChunks_any a c css.length _ css w rfl HLL.out HTU.out (ok_ne HOK.out) HA.out rfl hnil).mono ?_
  rintro e w1 ⟨v, rfl, hcl⟩
  obtain ⟨a1, hv, hA1, hb1, hs1⟩ := clV_form hcl rfl HLL.out HTU.out
  subst hv
  have HN1 : Hid (a1 = none → css.length = 0) := clV_nil hcl rfl
  have HA1 : Hid (ChunksA w1 a1 css) := hA1
  have HB1 : Hid (Below w.heap.size w w1) := hb1
  have HS1 : Hid (w.heap.size ≤ w1.heap.size) := hs1
  clear hcl hA1 hb1 hs1 HA hnil
  -- old := flatten(chunks)
  go_wp2_with fail
  refine (flatten_any a1 css.length css.length css w1 HLL.out HTU.out (ok_ne HOK.out) HA1.out rfl).mono ?_
  rintro e w2 ⟨rfl, hrow, hbel, hsz⟩
  have HO2 : Hid (StrsA w2 (some ⟨w1.heap.size, 0, none⟩) css.flatten) := strsA_of_row hrow rfl HTU.out
  have HB2 : Hid (Below w1.heap.size w1 w2) := hbel
  have HS2 : Hid (w2.heap.size = w1.heap.size + 1) := hsz
  clear hrow hbel hsz
  have HFL : Hid (css.flatten.length ≤ 1048576) := HT.out
  rw [show tot css = css.flatten.length from rfl]
  obtain ⟨L0, hL0⟩ : ∃ L0, css.flatten = L0 := ⟨_, rfl⟩
  rw [hL0] at HO2 HI HFL ⊢
  have HL0 : Hid (css.flatten = L0) := hL0
  clear hL0
  -- mid, newA := sortedInsert(old, a)
  have HM1 : Hid ((insS L0 ka).length ≤ 1048577) := by have h1 := insS_len_le L0 ka; have h2 := HFL.out; show _ ≤ _; omega
  have HM2 : Hid ((insS (insS L0 ka) kb).length ≤ 1048578) := by have h1 := insS_len_le (insS L0 ka) kb; have h2 := HM1.out; show _ ≤ _; omega
  have HM3 : Hid ((insS L0 kb).length ≤ 1048577) := by have h1 := insS_len_le L0 kb; have h2 := HFL.out; show _ ≤ _; omega
  have H21 : Hid _ := fun (_ : True) => sortedInsert_any w1.heap.size 0 L0.length L0 ka w2 (Nat.le_trans HFL.out (by omega)) (strs_cells' HO2.out)
  go_wp2_with fail
  refine (H21.out trivial).mono ?_
  rintro e w3 hS
  have HO3 : Hid (StrsA w3 (some ⟨w2.heap.size, 0, none⟩) (insS L0 ka)) := hS.strs' (Nat.le_trans HM1.out (by omega))
  obtain ⟨rfl, _, hb3, hs3⟩ := hS
  have HB3 : Hid (Below w2.heap.size w2 w3) := hb3
  have HS3 : Hid (w3.heap.size = w2.heap.size + 1) := hs3
  clear hb3 hs3 H21
  -- want, newB := sortedInsert(mid, b)
  have H21 : Hid _ := fun (_ : True) => sortedInsert_any w2.heap.size 0 (insS L0 ka).length (insS L0 ka) kb w3 (Nat.le_trans HM1.out (by omega)) (strs_cells' HO3.out)
  go_wp2_with fail
  refine (H21.out trivial).mono ?_
  rintro e w4 hS
  have HO4 : Hid (StrsA w4 (some ⟨w3.heap.size, 0, none⟩) (insS (insS L0 ka) kb)) := hS.strs' (Nat.le_trans HM2.out (by omega))
  obtain ⟨rfl, _, hb4, hs4⟩ := hS
  have HB4 : Hid (Below w3.heap.size w3 w4) := hb4
  have HS4 : Hid (w4.heap.size = w3.heap.size + 1) := hs4
  clear hb4 hs4 H21
  obtain ⟨C, hC⟩ : ∃ C, (if isAt (insS L0 ka) kb then (if isAt L0 ka then ch else incU ch) else incU (if isAt L0 ka then ch else incU ch)) = C := ⟨_, rfl⟩
  have HC : Hid ((if isAt (insS L0 ka) kb then (if isAt L0 ka then ch else incU ch) else incU (if isAt L0 ka then ch else incU ch)) = C) := hC
  have HCC : Hid (step2 (step2 ch (!isAt L0 ka)) (!isAt (insS L0 ka) kb) = C) := by show _ = _; rw [← step2_eq, ← step2_eq]; exact hC
  clear hC
  obtain ⟨nA, hnA⟩ : ∃ nA, (!isAt L0 ka) = nA := ⟨_, rfl⟩
  obtain ⟨nB, hnB⟩ : ∃ nB, (!isAt (insS L0 ka) kb) = nB := ⟨_, rfl⟩
  rw [hnA, hnB] at HCC
  rw [hnA, hnB]
  clear hnA hnB
  obtain ⟨W0, hW0⟩ : ∃ W0, insS (insS L0 ka) kb = W0 := ⟨_, rfl⟩
  rw [hW0] at HO4 HM2 ⊢
  have HW0 : Hid (insS (insS L0 ka) kb = W0) := hW0
  clear hW0
  -- all that has been laid so far
  have HB14 : Hid (Below w1.heap.size w1 w4) := HB2.out.trans ((HB3.out.mono (by rw [HS2.out]; omega)).trans (HB4.out.mono (by rw [HS3.out, HS2.out]; omega)))
  have HA4 : Hid (ChunksA w4 a1 css) := HA1.out.keep (keep_below HB14.out)
  have HB04 : Hid (Below w.heap.size w w4) := HB1.out.trans (HB14.out.mono HS1.out)
  have HLT4 : Hid (w3.heap.size < w4.heap.size) := by show _ < _; rw [HS4.out]; omega
  obtain ⟨wb, hwb⟩ : ∃ wb, w3.heap.size = wb := ⟨_, rfl⟩
  rw [hwb] at HO4 HLT4 ⊢
  obtain ⟨b1, hb1⟩ : ∃ b1, w1.heap.size = b1 := ⟨_, rfl⟩
  obtain ⟨b2, hb2⟩ : ∃ b2, w2.heap.size = b2 := ⟨_, rfl⟩
  rw [hb1, hb2]
  clear hwb hb1 hb2 HB14 HB1 HB2 HB3 HB4 HS2 HS3 HS4 HA1 HS1 HO2 HO3
  go_upto_if 54 with fail
  go_cut [14] (fun s wx => s = .int .u64 (step2 ch nA) ∧ wx = w4)
  case first =>
    cases nA with
    | false =>
      go_wp2
      go_meet
      case rel => exact ⟨rfl, rfl⟩
    | true =>
      go_wp2
      go_meet
      case rel => exact ⟨rfl, rfl⟩
  case rest =>
  obtain ⟨rfl, rfl⟩ := hcut
  obtain ⟨c1, hc1⟩ : ∃ c1, step2 ch nA = c1 := ⟨_, rfl⟩
  rw [hc1] at HCC ⊢
  clear hc1
  go_upto_if 57 with fail
  go_cut [14] (fun s wx => s = .int .u64 C ∧ wx = wc)
  case first =>
    have hh := HCC.out
    subst hh
    clear HCC HC
    cases nB with
    | false =>
      go_wp2
      go_meet
      case rel => exact ⟨rfl, rfl⟩
    | true =>
      go_wp2
      go_meet
      case rel => exact ⟨rfl, rfl⟩
  case rest =>
  obtain ⟨rfl, rfl⟩ := hcut
  clear HCC
  -- s1
  go_wp2_with fail
  refine (cloneChunks_any a1 css.length css.length _ css wc rfl HLL.out HTU.out (ok_ne HOK.out) HA4.out rfl HN1.out).mono ?_
  rintro e x1 ⟨v, rfl, hcl⟩
  obtain ⟨d1, hv, _, hbx, hsx⟩ := clV_form hcl rfl HLL.out HTU.out
  subst hv
  have HP1 : Hid (OwnIn wc.heap.size (x1.alloc (.cells #[.slice d1 css.length css.length, .int .u64 ch] 54)) x1.heap.size L0 ch) := by
    have := ownIn_made hcl (Below.refl _ _) hsx HOK.out HLL.out HTU.out ch
    rw [HL0.out] at this
    exact this
  have HQ1 : Hid (Below wc.heap.size wc (x1.alloc (.cells #[.slice d1 css.length css.length, .int .u64 ch] 54))) := hbx.alloc hsx _
  clear hcl hbx hsx
  go_wp2_with (go_at_call 14; refine (makeSet_any _ _ _ _ _).mono ?_; rintro e y1 ⟨rfl, rfl⟩)
  obtain ⟨s1, hs1⟩ : ∃ s1, x1.heap.size = s1 := ⟨_, rfl⟩
  rw [hs1] at HP1 ⊢
  obtain ⟨z1, hz1⟩ : ∃ z1, x1.alloc (.cells #[.slice d1 css.length css.length, .int .u64 ch] 54) = z1 := ⟨_, rfl⟩
  rw [hz1] at HP1 HQ1 ⊢
  clear hs1 hz1
  refine (addIn_any HP1.out (Nat.le_trans HFL.out (by omega)) HQ1.out.size ka).mono ?_
  rintro e p1 ⟨rfl, hadd⟩
  have HP1a : Hid (OwnIn wc.heap.size p1 s1 (insS L0 ka) (if isAt L0 ka then ch else incU ch)) := hadd.own
  have HQ1a : Hid (Below wc.heap.size wc p1) := HQ1.out.trans hadd.bel
  clear hadd HP1 HQ1
  go_wp2_with fail
  refine (addIn_any HP1a.out (Nat.le_trans HM1.out (by omega)) HQ1a.out.size kb).mono ?_
  rintro e q1 ⟨rfl, hadd⟩
  have HP1b : Hid (OwnIn wc.heap.size q1 s1 W0 C) := by
    have := hadd.own
    rw [HW0.out, HC.out] at this
    exact this
  have HQ1b : Hid (Below wc.heap.size wc q1) := HQ1a.out.trans hadd.bel
  clear hadd HP1a HQ1a
  have HA5 : Hid (ChunksA q1 a1 css) := HA4.out.keep (keep_below HQ1b.out)
  -- s2
  go_wp2_with fail
  refine (cloneChunks_any a1 css.length css.length _ css q1 rfl HLL.out HTU.out (ok_ne HOK.out) HA5.out rfl HN1.out).mono ?_
  rintro e x2 ⟨v, rfl, hcl⟩
  obtain ⟨d2, hv, _, hbx, hsx⟩ := clV_form hcl rfl HLL.out HTU.out
  subst hv
  have HP2 : Hid (OwnIn q1.heap.size (x2.alloc (.cells #[.slice d2 css.length css.length, .int .u64 ch] 54)) x2.heap.size L0 ch) := by
    have := ownIn_made hcl (Below.refl _ _) hsx HOK.out HLL.out HTU.out ch
    rw [HL0.out] at this
    exact this
  have HQ2 : Hid (Below q1.heap.size q1 (x2.alloc (.cells #[.slice d2 css.length css.length, .int .u64 ch] 54))) := hbx.alloc hsx _
  clear hcl hbx hsx
  go_wp2_with (go_at_call 14; refine (makeSet_any _ _ _ _ _).mono ?_; rintro e y2 ⟨rfl, rfl⟩)
  obtain ⟨s2, hs2⟩ : ∃ s2, x2.heap.size = s2 := ⟨_, rfl⟩
  rw [hs2] at HP2 ⊢
  obtain ⟨z2, hz2⟩ : ∃ z2, x2.alloc (.cells #[.slice d2 css.length css.length, .int .u64 ch] 54) = z2 := ⟨_, rfl⟩
  rw [hz2] at HP2 HQ2 ⊢
  clear hs2 hz2
  refine (addIn_any HP2.out (Nat.le_trans HFL.out (by omega)) HQ2.out.size kb).mono ?_
  rintro e p2 ⟨rfl, hadd⟩
  have HP2a : Hid (OwnIn q1.heap.size p2 s2 (insS L0 kb) (if isAt L0 kb then ch else incU ch)) := hadd.own
  have HQ2a : Hid (Below q1.heap.size q1 p2) := HQ2.out.trans hadd.bel
  clear hadd HP2 HQ2
  go_wp2_with fail
  refine (addIn_any HP2a.out (Nat.le_trans HM3.out (by omega)) HQ2a.out.size ka).mono ?_
  rintro e q2 ⟨rfl, hadd⟩
  have HP2b : Hid (OwnIn q1.heap.size q2 s2 W0 C) := by
    have := hadd.own
    rw [insS_comm HI.out kb ka, HW0.out, count_comm HI.out ka kb, HC.out] at this
    exact this
  have HQ2b : Hid (Below q1.heap.size q1 q2) := HQ2a.out.trans hadd.bel
  clear hadd HP2a HQ2a
  have HP3 : Hid (OwnIn wc.heap.size q2 s1 W0 C) := HP1b.out.keep HQ2b.out
  have HW3 : Hid (StrsA q2 (some ⟨wb, 0, none⟩) W0) := (HO4.out.keep (keep_below HQ1b.out)).keep (keep_below HQ2b.out)
  have HB3 : Hid (Below w.heap.size w q2) := HB04.out.trans ((HQ1b.out.mono HB04.out.size).trans (HQ2b.out.mono (Nat.le_trans HB04.out.size HQ1b.out.size)))
  obtain ⟨a3, cap3, cs3, hv3, hok3, hf3⟩ := HP3.out.view (Nat.le_trans HM2.out (by omega))
  obtain ⟨a4, cap4, cs4, hv4, hok4, hf4⟩ := HP2b.out.view (Nat.le_trans HM2.out (by omega))
  have HV3 : Hid (View q2 s1 a3 cap3 cs3 C) := hv3
  have HV4 : Hid (View q2 s2 a4 cap4 cs4 C) := hv4
  have HK3 : Hid (OK cs3) := hok3
  have HK4 : Hid (OK cs4) := hok4
  have HF3 : Hid (cs3.flatten = W0) := hf3
  have HF4 : Hid (cs4.flatten = W0) := hf4
  have HT3 : Hid (tot cs3 ≤ 1073741824) := by show cs3.flatten.length ≤ _; rw [hf3]; exact Nat.le_trans HM2.out (by omega)
  have HT4 : Hid (tot cs4 ≤ 1073741824) := by show cs4.flatten.length ≤ _; rw [hf4]; exact Nat.le_trans HM2.out (by omega)
  clear hv3 hv4 hok3 hok4 hf3 hf4 HP1b HP2b HP3 HQ1b HQ2b HA4 HA5 HO4 HB04
  go_wp2_with fail
  refine (setChunks_any s1 _ _ HV3.out.c0).mono ?_
  rintro e W4 ⟨rfl, rfl⟩
  go_wp2_with fail
  refine (setChunks_any s2 _ _ HV4.out.c0).mono ?_
  rintro e W4 ⟨rfl, rfl⟩
  go_wp2_with fail
  refine (chunksOK_any a3 cap3 cs3.length cs3 _ HV3.out.chunks rfl).mono ?_
  rintro e W4 ⟨⟨r, rfl, hr⟩, rfl⟩
  obtain rfl : r = true := hr.2 HK3.out
  clear hr
  go_wp2_with fail
  refine (flatten_any a3 cap3 cs3.length cs3 _ HV3.out.len HT3.out (ok_ne HK3.out) HV3.out.chunks rfl).mono ?_
  rintro e W5 ⟨rfl, hrow5, hbel5, hsz5⟩
  have HR5 : Hid (StrsA W5 (some ⟨W4.heap.size, 0, none⟩) W0) := by have := strsA_of_row hrow5 rfl HT3.out; rw [HF3.out] at this; exact this
  have HB5 : Hid (Below W4.heap.size W4 W5) := hbel5
  rw [show tot cs3 = W0.length from by unfold tot; rw [HF3.out]]
  clear hrow5 hbel5 hsz5
  go_wp2_with fail
  refine (eqStrs_any _ _ _ _ _ _ W0 W0 _ HR5.out (HW3.out.keep (keep_below HB5.out)) rfl rfl).mono ?_
  rintro e W6 ⟨⟨r, rfl, hr⟩, q6, rfl⟩
  obtain rfl : r = true := hr.2 rfl
  clear hr
  have HV36 : Hid (View (W5.drewN q6) s1 a3 cap3 cs3 C) := (HV3.out.keep (keep_below HB5.out)).drewN q6
  have HV46 : Hid (View (W5.drewN q6) s2 a4 cap4 cs4 C) := (HV4.out.keep (keep_below HB5.out)).drewN q6
  have HW6 : Hid (StrsA (W5.drewN q6) (some ⟨wb, 0, none⟩) W0) := strsA_drewN (HW3.out.keep (keep_below HB5.out)) q6
  have HB6 : Hid (Below w.heap.size w (W5.drewN q6)) := below_drewN' (HB3.out.trans (HB5.out.mono HB3.out.size)) q6
  clear HV3 HV4 HW3 HB3 HB5 HR5
  obtain ⟨b4, hb4⟩ : ∃ b4, W4.heap.size = b4 := ⟨_, rfl⟩
  rw [hb4]
  clear hb4
  obtain ⟨V6, hV6⟩ : ∃ V6, W5.drewN q6 = V6 := ⟨_, rfl⟩
  rw [hV6] at HV36 HV46 HW6 HB6 ⊢
  clear hV6
  go_wp2_with fail
  refine (setChanges_any s1 (.int .u64 C) _ HV36.out.c1).mono ?_
  rintro e W7 ⟨rfl, rfl⟩
  go_wp2_with fail
  refine (chunksOK_any a4 cap4 cs4.length cs4 _ HV46.out.chunks rfl).mono ?_
  rintro e W7 ⟨⟨r, rfl, hr⟩, rfl⟩
  obtain rfl : r = true := hr.2 HK4.out
  clear hr
  go_wp2_with fail
  refine (flatten_any a4 cap4 cs4.length cs4 _ HV46.out.len HT4.out (ok_ne HK4.out) HV46.out.chunks rfl).mono ?_
  rintro e W8 ⟨rfl, hrow5, hbel5, hsz5⟩
  have HR5 : Hid (StrsA W8 (some ⟨W7.heap.size, 0, none⟩) W0) := by have := strsA_of_row hrow5 rfl HT4.out; rw [HF4.out] at this; exact this
  have HB5 : Hid (Below W7.heap.size W7 W8) := hbel5
  rw [show tot cs4 = W0.length from by unfold tot; rw [HF4.out]]
  clear hrow5 hbel5 hsz5
  go_wp2_with fail
  refine (eqStrs_any _ _ _ _ _ _ W0 W0 _ HR5.out (HW6.out.keep (keep_below HB5.out)) rfl rfl).mono ?_
  rintro e W9 ⟨⟨r, rfl, hr⟩, q9, rfl⟩
  obtain rfl : r = true := hr.2 rfl
  clear hr
  go_wp2_with fail
  refine (setChanges_any s2 (.int .u64 C) _ ((HV46.out.keep (keep_below HB5.out)).drewN q9).c1).mono ?_
  rintro e W10 ⟨rfl, rfl⟩
  go_wp2
  go_ret
  exact ⟨rfl, below_drewN' (HB6.out.trans (HB5.out.mono HB6.out.size)) q9⟩
end Go.Proofs.Qxb6617214a
