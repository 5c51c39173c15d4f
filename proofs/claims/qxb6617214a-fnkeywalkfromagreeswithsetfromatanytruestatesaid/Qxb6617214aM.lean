/-
  Law 6 (FnKeyWalkFromAgreesWithSetFromAtAnyTrueState): the walk, with a set.
-/
import Derived.Test.Qxb6617214aL
namespace Go.Proofs.Qxb6617214a
open Go.RowKit Go.Deep
set_option linter.unusedVariables false

set_option maxRecDepth 100000 in
set_option maxHeartbeats 4000000 in
theorem law6_set (a : Option Addr) (c : Nat) (css : List (List ByteArray)) (ch wch : Int) (wo wpast wfound past : Bool) (wat wkey k : ByteArray) (w : World) (hA : ChunksA w a css) (hnil : a = none → c = 0) :
    Calls Try.prog 6 #[.slice a css.length c, .int .u64 ch, .bool false, .bool wo, .int .u64 wch, .string wat, .bool wpast, .bool wfound, .string wkey, .string k, .bool past] w fun e w' => e = .returned (.bool true) ∧ Below w.heap.size w w' := by
  have H28 : Hid _ := fun (_ : True) => zzBytes6_any a c css.length css ch wch false wo wpast wfound past wat wkey k w hA rfl
  have H9 : Hid _ := fun (_ : True) => chunksBytes_any a c css.length css w hA rfl
  have H10 : Hid _ := fun (_ : True) => chunksOK_any a c css.length css w hA rfl
  go_enter Try.func6, Try.ntmps6
  go_wp2_with fail
  refine (H28.out trivial).mono ?_
  rintro e w ⟨⟨r, rfl, hr⟩, rfl⟩
  cases r with
  | false =>
    go_wp2
    go_ret
    exact ⟨rfl, Below.refl _ _⟩
  | true =>
  have hb := hr rfl
  have ht : tot css ≤ 1073741824 := by omega
  have hl : css.length ≤ 1073741824 := by omega
  clear hr H28
  have HT : Hid _ := ht
  have HL : Hid _ := hl
  clear hb ht
  go_wp2_with fail
  refine (H9.out trivial).mono ?_
  rintro e w ⟨r, rfl, hr0, hr1, rfl⟩
  go_wp2_with (go_at_call 8; refine (zzAdd_any _ _ _ (by omega) (by omega)).mono ?_; rintro e w ⟨r, rfl, hr0, hr1, rfl⟩)
  · go_ret
    exact ⟨rfl, Below.refl _ _⟩
  refine (H10.out trivial).mono ?_
  rintro e w ⟨⟨r, rfl, hr⟩, rfl⟩
  cases r with
  | false =>
    go_wp2
    go_ret
    exact ⟨rfl, Below.refl _ _⟩
  | true =>
  have HOK : Hid (OK css) := hr.1 rfl
  clear hr H9 H10
  have HA : Hid (ChunksA w a css) := hA
  clear hA
  -- old := flatten(chunks)
  go_wp2_with fail
  refine (flatten_any a c css.length css w HL.out HT.out (ok_ne HOK.out) HA.out rfl).mono ?_
  rintro e w1 ⟨rfl, hrow1, hbel1, hsz1⟩
  have HO1 : Hid (StrsA w1 (some ⟨w.heap.size, 0, none⟩) css.flatten) := strsA_of_row hrow1 rfl HT.out
  have HB1 : Hid (Below w.heap.size w w1) := hbel1
  have HS1 : Hid (w1.heap.size = w.heap.size + 1) := hsz1
  have HA1 : Hid (ChunksA w1 a css) := HA.out.keep (keep_below hbel1)
  clear hrow1 hbel1 hsz1
  obtain ⟨T, hT⟩ : ∃ T, tot css = T := ⟨_, rfl⟩
  rw [hT]
  have HTT : Hid (css.flatten.length = T) := hT
  clear hT
  go_upto_region 8 with fail
  go_cut [81] (fun s wx => s = .bool (wo && (wch == ch)) ∧ wx = w1)
  case first =>
    cases wo with
    | false =>
      go_wp2
      go_meet
      case rel => exact ⟨rfl, rfl⟩
    | true =>
      go_wp2
      go_meet
      case rel => exact ⟨rfl, rfl⟩
  case rest =>
  obtain ⟨rfl, rfl⟩ := hcut
  go_upto_if 81 with fail
  go_cut [] (fun wx => wx = wc ∧ (wo = true → wch = ch → wkey = (scan css.flatten wat wpast).getD ByteArray.empty ∧ wfound = (scan css.flatten wat wpast).isSome))
  case first =>
    cases hcd : (wo && (wch == ch)) with
    | false =>
      go_wp2
      go_meet
      case rel => exact ⟨rfl, fun h1 h2 => by subst h1; subst h2; simp at hcd⟩
    | true =>
      obtain ⟨x, hx⟩ : ∃ x, (scan css.flatten wat wpast).getD ByteArray.empty = x := ⟨_, rfl⟩
      obtain ⟨y, hy⟩ : ∃ y, (scan css.flatten wat wpast).isSome = y := ⟨_, rfl⟩
      have H27 : Hid _ := fun (_ : True) => scanFrom_any (some ⟨w.heap.size, 0, none⟩) T T css.flatten wat wpast wc HO1.out HTT.out.symm
      have HX : Hid _ := hx
      have HY : Hid _ := hy
      clear hx hy
      by_cases h1 : x = wkey
      · have h1' := beq_l h1
        have HR : Hid (x = wkey) := h1
        clear h1
        cases y <;> cases wfound
        all_goals go_wp2_with (go_at_call 27; refine (H27.out trivial).mono ?_; rintro e w' ⟨hR, rfl⟩; obtain rfl := RetS.xy hR HX.out HY.out; clear hR)
        all_goals first
          | (go_ret; exact ⟨rfl, HB1.out⟩)
          | (go_meet; exact ⟨rfl, fun _ _ => by rw [HX.out, HY.out]; exact ⟨HR.out.symm, rfl⟩⟩)
      · have h1' := bne_l h1
        clear h1
        go_wp2_with (go_at_call 27; refine (H27.out trivial).mono ?_; rintro e w' ⟨hR, rfl⟩; obtain rfl := RetS.xy hR HX.out HY.out; clear hR)
        go_ret
        exact ⟨rfl, HB1.out⟩
  case rest =>
  obtain ⟨rfl, htrue⟩ := hcut
  have HTR : Hid _ := htrue
  clear htrue
  -- chunks = cloneChunks(chunks)
  go_wp2_with fail
  refine (cloneChunks_any a c css.length _ css wc rfl HL.out HT.out (ok_ne HOK.out) HA1.out rfl hnil).mono ?_
  rintro e w2 ⟨v, rfl, hcl⟩
  obtain ⟨a2, hv, hA2, hb2, hs2⟩ := clV_form hcl rfl HL.out HT.out
  rw [hv]
  clear hv hcl
  have HV3 : Hid (View (w2.alloc (.cells #[.slice a2 css.length css.length, .int .u64 ch] 54)) w2.heap.size a2 css.length css ch) := view_made hA2 HOK.out.fine HL.out HT.out
  have HB2 : Hid (Below w.heap.size w w2) := HB1.out.trans (hb2.mono (by rw [HS1.out]; omega))
  have HO2 : Hid (StrsA w2 (some ⟨w.heap.size, 0, none⟩) css.flatten) := HO1.out.keep (keep_below hb2)
  have hws : w.heap.size < w2.heap.size := by have := HS1.out; omega
  clear hA2 hb2 hs2
  obtain ⟨sb, hsb⟩ : ∃ sb, w2.heap.size = sb := ⟨_, rfl⟩
  rw [hsb] at HV3 hws
  go_upto_if 105 with (go_at_call 14; refine (makeSet_any _ _ _ _ _).mono ?_; rintro e w3 ⟨rfl, rfl⟩)
  go_cut [28] (fun s wx => ∃ p : Option Addr, s = .pointer p ∧ (p = none ∨ p = some ⟨sb, 0, none⟩) ∧ (p = some ⟨sb, 0, none⟩ → wo = true) ∧ View wx sb a2 css.length css ch ∧ Below w.heap.size w wx ∧ StrsA wx (some ⟨w.heap.size, 0, none⟩) css.flatten ∧ sb < wx.heap.size)
  case first =>
    have HBX : Hid (Below w.heap.size w (w2.alloc (.cells #[.slice a2 css.length css.length, .int .u64 ch] 54))) := HB2.out.alloc (by omega) _
    have HOX : Hid (StrsA (w2.alloc (.cells #[.slice a2 css.length css.length, .int .u64 ch] 54)) (some ⟨w.heap.size, 0, none⟩) css.flatten) := HO2.out.keep (keep_alloc _ _)
    have HSX : Hid (sb < (w2.alloc (.cells #[.slice a2 css.length css.length, .int .u64 ch] 54)).heap.size) := by show sb < _; simp; omega
    cases wo with
    | false =>
      go_wp2
      go_meet
      case rel => exact ⟨none, rfl, .inl rfl, fun h => (by cases h), HV3.out, HBX.out, HOX.out, HSX.out⟩
    | true =>
      go_wp2
      go_meet
      case rel => exact ⟨some ⟨sb, 0, none⟩, rfl, .inr rfl, fun _ => rfl, HV3.out, HBX.out, HOX.out, HSX.out⟩
  case rest =>
  clear hsb HV3 HB2 HO2 HB1 HS1 HO1 HA HA1
  obtain ⟨p, rfl, hp, hpw, hV, hbel, hold, hsbs⟩ := hcut
  have HP : Hid _ := hp
  have HTR2 : Hid (p = some ⟨sb, 0, none⟩ → wch = ch → wkey = (scan css.flatten wat wpast).getD ByteArray.empty ∧ wfound = (scan css.flatten wat wpast).isSome) := fun h1 => HTR.out (hpw h1)
  have HV : Hid (View wc sb a2 css.length css ch) := hV
  have HB : Hid (Below w.heap.size w wc) := hbel
  have HO : Hid (StrsA wc (some ⟨w.heap.size, 0, none⟩) css.flatten) := hold
  clear hp hpw hV hbel hold HTR
  obtain ⟨wb, hwb⟩ : ∃ wb, wc.heap.size = wb := ⟨_, rfl⟩
  rw [hwb] at hsbs
  have hne : sb ≠ wb := by omega
  have HWB : Hid (wc.heap.size = wb) := hwb
  go_wp2_with (go_at_call 25; refine (makeWalk_any _ _ _ _ _ _ _).mono ?_; rintro e w4 ⟨rfl, rfl⟩)
  obtain ⟨x, hx⟩ : ∃ x, (scan css.flatten k past).getD ByteArray.empty = x := ⟨_, rfl⟩
  obtain ⟨y, hy⟩ : ∃ y, (scan css.flatten k past).isSome = y := ⟨_, rfl⟩
  have hwk := walk_made wc p wch wat wkey wpast wfound
  rw [hwb] at hwk
  refine (zzWalkFrom_any (HV.out.keep (keep_alloc _ _)) hwk hne HP.out k past HTR2.out).mono ?_
  rintro e w5 ⟨hR, hAsk⟩
  obtain rfl := RetS.xy hR hx hy
  clear hR hwk hwb
  have hwk5 := hAsk.1
  rw [hx, hy] at hwk5
  have hk5 : Keep wc w5 := fun z v hz => by
    have h1 := World.block_lt_of_cell? wc z hz
    have := HWB.out
    rw [only_cell hAsk.2 (x := z) (by omega)]
    exact keep_alloc _ _ _ _ hz
  have HV5 : Hid (View w5 sb a2 css.length css ch) := HV.out.keep hk5
  have HO5 : Hid (StrsA w5 (some ⟨w.heap.size, 0, none⟩) css.flatten) := HO.out.keep hk5
  have HB5 : Hid (Below w.heap.size w w5) := (HB.out.alloc HB.out.size _).trans (hAsk.2.below (by have := HWB.out; have := HB.out.size; omega))
  have HX : Hid _ := hx
  have HY : Hid _ := hy
  clear hx hy hk5 hAsk HV HO HB HP HTR2
  go_wp2_with fail
  refine (walkState_any hwk5).mono ?_
  rintro e w6 ⟨rfl, q, rfl⟩
  clear hwk5
  go_wp2_with fail
  refine (scanFrom_any _ _ _ css.flatten k past _ (HO5.out.keep (keep_drewN _ q)) HTT.out.symm).mono ?_
  rintro e w6 ⟨hR, rfl⟩
  obtain rfl := RetS.xy hR HX.out HY.out
  clear hR
  go_wp2_with fail
  refine (zzFrom_any (HV5.out.drewN q) k past).mono ?_
  rintro e w6 ⟨hR, rfl⟩
  obtain rfl := RetS.xy hR HX.out HY.out
  clear hR
  have hps := fun w => eql_same ⟨sb, 0, none⟩ w
  go_wp2_with fail
  refine (setChanges_any sb (.int .u64 ch) _ (HV5.out.drewN q).c1).mono ?_
  rintro e w6 ⟨rfl, rfl⟩
  go_wp2_with fail
  refine (setChunks_any sb _ _ (HV5.out.drewN q).c0).mono ?_
  rintro e w6 ⟨rfl, rfl⟩
  go_wp2_with fail
  refine (flatten_any a2 css.length css.length css _ HL.out HT.out (ok_ne HOK.out) (HV5.out.drewN q).chunks rfl).mono ?_
  rintro e w7 ⟨rfl, hrow, hbel, hsz⟩
  have HRW : Hid _ := hrow
  have HBW : Hid _ := hbel
  clear hrow hbel hsz
  go_wp2_with fail
  refine (eqStrs_any _ _ _ _ _ _ css.flatten css.flatten _ (strsA_of_row HRW.out rfl HT.out) ((HO5.out.keep (keep_drewN _ q)).keep (keep_below HBW.out)) rfl HTT.out.symm).mono ?_
  rintro e w8 ⟨⟨r, rfl, hr⟩, q2, rfl⟩
  have hrt : r = true := hr.2 rfl
  subst hrt
  clear hr
  go_wp2
  go_ret
  exact ⟨rfl, below_drewN' ((below_drewN' HB5.out q).trans (HBW.out.mono (by rw [drewN_heap]; exact HB5.out.size))) q2⟩
end Go.Proofs.Qxb6617214a
