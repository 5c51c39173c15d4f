/-
  Law 3 (FnKeySetAddThenRemoveTakesOutJustThatKey): the walk.
-/
import Derived.Test.Qxb6617214aAA
import Derived.Test.Qxb6617214aC7
namespace Go.Proofs.Qxb6617214a
open Go.RowKit Go.Deep
set_option linter.unusedVariables false

theorem SortRet.strs {w w' : World} {l : List ByteArray} {b : Bool} {e : Ending} (h : SortRet w w' l b e) (hl : l.length ≤ 1073741824) : StrsA w' (some ⟨w.heap.size, 0, none⟩) l := strsA_of_row h.2.1 rfl hl
theorem strs_cells {w : World} {b : Nat} {ss : List ByteArray} (h : StrsA w (some ⟨b, 0, none⟩) ss) : ∀ j, j < ss.length → w.cell? ⟨b, 0 + j, none⟩ = some (.string (ss.getD j ByteArray.empty)) := fun j hj => by
  obtain ⟨b', off, he, hc⟩ := h.2 (by omega)
  cases he
  exact hc j hj
theorem StrsA.kp {T : Nat → Prop} {w w' : World} {b : Nat} {ss : List ByteArray} (h : StrsA w (some ⟨b, 0, none⟩) ss) (k : Kp T w w') (hb : ¬ T b) : StrsA w' (some ⟨b, 0, none⟩) ss := by
  refine ⟨h.1, fun hp => ?_⟩
  obtain ⟨b', off, he, hc⟩ := h.2 hp
  cases he
  refine ⟨b, 0, rfl, fun j hj => ?_⟩
  have h1 := hc j hj
  have hlt : b < w.heap.size := World.block_lt_of_cell? w _ h1
  exact (World.cell?_of_block (w := w) (a := ⟨b, 0 + j, none⟩) (k.block b hlt hb)).trans h1

/-- What the law wants of the count. -/
def wantC (ch : Int) (had : Bool) : Int := if had then IntKind.u64.wrap (ch + 1) else IntKind.u64.wrap (ch + 2)
theorem wantC_eq {l : List ByteArray} (hi : Incr l) (ch : Int) (k : ByteArray) : (if isAt (insS l k) k then incU (if isAt l k then ch else incU ch) else (if isAt l k then ch else incU ch)) = wantC ch (isAt l k) := by
  rw [isAt_insS hi k, if_pos rfl]
  unfold wantC
  cases isAt l k with
  | true => rfl
  | false => simp only [Bool.false_eq_true, if_false]; exact incU_two ch

/-- What is left when add and remove have run. -/
structure After3 (B : Nat) (w W : World) (wb sb : Nat) (l : List ByteArray) (C : Int) : Prop where
  bel : Below B w W
  own : ∃ F es a cap, Own F W sb es C a cap ∧ (cssOf es).flatten = l
  want : StrsA W (some ⟨wb, 0, none⟩) l

theorem after3 {F : Nat → Prop} {B : Nat} {w W1 W2 W3 : World} {sb wb : Nat} {es es1 : List Ent} {ch : Int} {k : ByteArray} {l : List ByteArray}
    (hb1 : Below B w W1) (hF : ∀ b, b < W1.heap.size → F b → B ≤ b) (hl : (cssOf es).flatten = l) (hil : Incr l) (hw : StrsA W1 (some ⟨wb, 0, none⟩) (delS l k)) (hwb : ¬ F wb) (hwl : wb < W1.heap.size)
    (hk : Kp F W1 W2) (hf1 : (cssOf es1).flatten = insS l k) (hr : Removed (F2 F W1 W2) W2 W3 sb es1 (if isAt l k then ch else incU ch) k) (hBw : B ≤ w.heap.size) : After3 B w W3 wb sb (delS l k) (wantC ch (isAt l k)) := by
  obtain ⟨es2, a2, cap2, hO, hfl, hk2⟩ := hr
  have hk3 : Kp F W1 W3 := hk.trans hk2 (fun b hb hh => by
    rcases hh with hh | ⟨hh, _⟩
    · exact hh
    · omega)
  rw [hf1] at hO hfl
  rw [delS_insS hil] at hfl
  rw [wantC_eq hil] at hO
  have hs1 := hb1.size
  refine ⟨hb1.trans (hk3.to_below (fun b h1 h2 h3 => by have := hF b h1 h3; omega) (by omega)), ⟨_, es2, a2, cap2, hO, hfl⟩, ?_⟩
  exact hw.kp hk3 hwb

set_option maxRecDepth 100000 in
set_option maxHeartbeats 4000000 in
theorem law3_any (a : Option Addr) (c : Nat) (css : List (List ByteArray)) (ch : Int) (k : ByteArray) (w : World) (hA : ChunksA w a css) (hnil : a = none → c = 0) :
    Calls Try.prog 3 #[.slice a css.length c, .int .u64 ch, .string k] w fun e w' => e = .returned (.bool true) ∧ Below w.heap.size w w' := by
  have H7 : Hid _ := fun (_ : True) => zzBytes3_any a c css.length css ch k w hA rfl
  have H9 : Hid _ := fun (_ : True) => chunksBytes_any a c css.length css w hA rfl
  have H10 : Hid _ := fun (_ : True) => chunksOK_any a c css.length css w hA rfl
  go_enter Try.func3, Try.ntmps3
  go_wp2_with fail
  refine (H7.out trivial).mono ?_
  rintro e w ⟨⟨r, rfl, hr⟩, rfl⟩
  cases r with
  | false =>
    go_wp2
    go_ret
    exact ⟨rfl, Below.refl _ _⟩
  | true =>
  have hb := hr rfl
  have ht : tot css ≤ 1048576 := by omega
  have hl : css.length ≤ 1048576 := by omega
  clear hr H7
  have HT : Hid _ := ht
  have HL : Hid _ := hl
  clear hb ht
  go_wp2_with fail
  refine (H9.out trivial).mono ?_
  rintro e w ⟨r, rfl, hr0, hr1, rfl⟩
  go_wp2_with (go_at_call 8; refine (zzAdd_any _ _ _ (by omega) (by omega)).mono ?_; rintro e w ⟨r, rfl, hr0, hr1, rfl⟩)
  · go_ret
    exact ⟨rfl, Below.refl _ _⟩
  refine (H10.out trivial).mono ?_
  rintro e w ⟨⟨r, rfl, hr⟩, rfl⟩
  cases r with
  | false =>
    go_wp2
    go_ret
    exact ⟨rfl, Below.refl _ _⟩
  | true =>
  have HOK : Hid (OK css) := hr.1 rfl
  clear hr H9 H10
  have HA : Hid (ChunksA w a css) := hA
  clear hA
  have HTT : Hid (tot css ≤ 1073741000) := Nat.le_trans HT.out (by omega)
  have HLL : Hid (css.length ≤ 1073741824) := Nat.le_trans HL.out (by omega)
  have HTU : Hid (tot css ≤ 1073741824) := Nat.le_trans HT.out (by omega)
  -- chunks = cloneChunks(chunks)
  go_wp2_with fail
  refine (cloneChunks_any a c css.length _ css w rfl HLL.out HTU.out (ok_ne HOK.out) HA.out rfl hnil).mono ?_
  rintro e w1 ⟨v, rfl, hcl⟩
  have HCL : Hid (ClV w.heap.size w w1 v css) := hcl
  obtain ⟨a1, hv, hA1, hb1, hs1⟩ := clV_form hcl rfl HLL.out HTU.out
  subst hv
  have HA1 : Hid (ChunksA w1 a1 css) := hA1
  have HB1 : Hid (Below w.heap.size w w1) := hb1
  clear hcl hA1 hb1
  -- old := flatten(chunks)
  go_wp2_with fail
  refine (flatten_any a1 css.length css.length css w1 HLL.out HTU.out (ok_ne HOK.out) HA1.out rfl).mono ?_
  rintro e w2 ⟨rfl, hrow, hbel, hsz⟩
  have HO2 : Hid (StrsA w2 (some ⟨w1.heap.size, 0, none⟩) css.flatten) := strsA_of_row hrow rfl HTU.out
  have HB2 : Hid (Below w1.heap.size w1 w2) := hbel
  have HS2 : Hid (w2.heap.size = w1.heap.size + 1) := hsz
  clear hrow hbel hsz
  -- want, had := sortedDelete(old, k)
  have H13 : Hid _ := fun (_ : True) => sortedDelete_any w1.heap.size 0 (tot css) css.flatten k w2 HTT.out (strs_cells HO2.out)
  rw [show css.flatten.length = tot css from rfl] at H13
  have HDL : Hid ((delS css.flatten k).length ≤ 1073741824) := by
    show _ ≤ _
    have : (delS css.flatten k).length ≤ css.flatten.length := by
      unfold delS; split
      · exact List.Sublist.length_le (List.eraseIdx_sublist _ _)
      · exact Nat.le_refl _
    have h2 := HTU.out
    unfold tot at h2
    omega
  go_wp2_with fail
  refine (H13.out trivial).mono ?_
  rintro e w3 hS
  have HW3 : Hid (StrsA w3 (some ⟨w2.heap.size, 0, none⟩) (delS css.flatten k)) := hS.strs HDL.out
  obtain ⟨rfl, _, hb3, hs3⟩ := hS
  have HB3 : Hid (Below w2.heap.size w2 w3) := hb3
  have HS3 : Hid (w3.heap.size = w2.heap.size + 1) := hs3
  clear hb3 hs3
  obtain ⟨D, hD⟩ : ∃ D, delS css.flatten k = D := ⟨_, rfl⟩
  rw [hD] at HW3 HDL ⊢
  obtain ⟨had, hhad⟩ : ∃ had, isAt css.flatten k = had := ⟨_, rfl⟩
  rw [hhad]
  have HDD : Hid (delS css.flatten k = D) := hD
  have HHD : Hid (isAt css.flatten k = had) := hhad
  clear hD hhad H13
  go_upto_if 39 with fail
  go_cut [10] (fun s wx => s = .int .u64 (wantC ch had) ∧ wx = w3)
  case first =>
    cases had with
    | false =>
      go_wp2
      go_meet
      case rel => exact ⟨rfl, rfl⟩
    | true =>
      go_wp2
      go_meet
      case rel => exact ⟨rfl, rfl⟩
  case rest =>
  obtain ⟨rfl, rfl⟩ := hcut
  obtain ⟨C, hC⟩ : ∃ C, wantC ch had = C := ⟨_, rfl⟩
  rw [hC]
  have HC : Hid (wantC ch had = C) := hC
  clear hC
  -- s := ZZMakeKeySet(chunks, changes)
  have HB13 : Hid (Below w1.heap.size w1 wc) := HB2.out.trans (HB3.out.mono (by rw [HS2.out]; omega))
  have HOM : Hid (Own (fun b => (w.heap.size ≤ b ∧ b < w1.heap.size) ∨ b = wc.heap.size) (wc.alloc (.cells #[.slice a1 css.length css.length, .int .u64 ch] 54)) wc.heap.size (madeEs w.heap.size css) ch a1 css.length) := by
    obtain ⟨a', he, ho⟩ := own_made (F := fun b => (w.heap.size ≤ b ∧ b < w1.heap.size) ∨ b = wc.heap.size) HCL.out rfl HB13.out HOK.out HLL.out HTU.out ch (fun b h1 h2 => .inl ⟨h1, h2⟩) (.inr rfl)
    cases he
    exact ho
  go_wp2_with (go_at_call 14; refine (makeSet_any _ _ _ _ _).mono ?_; rintro e w4 ⟨rfl, rfl⟩)
  have HFL : Hid ((cssOf (madeEs w.heap.size css)).flatten = css.flatten) := by show _ = _; rw [madeEs_css]
  obtain ⟨es, hes⟩ : ∃ es, madeEs w.heap.size css = es := ⟨_, rfl⟩
  rw [hes] at HFL HOM
  clear hes
  obtain ⟨F, hF⟩ : ∃ F : Nat → Prop, F = (fun b => (w.heap.size ≤ b ∧ b < w1.heap.size) ∨ b = wc.heap.size) := ⟨_, rfl⟩
  rw [← hF] at HOM
  have HF : Hid (∀ b, F b → w.heap.size ≤ b) := fun b hb => by
    rw [hF] at hb
    have := HB13.out.size
    rcases hb with hb | hb
    · exact hb.1
    · omega
  have HFN : Hid (¬ F w2.heap.size) := by
    show ¬ F _
    rw [hF]
    have := HB2.out.size; have := HS2.out; have := HS3.out
    intro hb
    rcases hb with hb | hb <;> omega
  clear hF
  have HB4 : Hid (Below w.heap.size w (wc.alloc (.cells #[.slice a1 css.length css.length, .int .u64 ch] 54))) := (HB1.out.trans (HB13.out.mono hs1)).alloc (by have := HB13.out.size; omega) _
  have HW4 : Hid (StrsA (wc.alloc (.cells #[.slice a1 css.length css.length, .int .u64 ch] 54)) (some ⟨w2.heap.size, 0, none⟩) D) := HW3.out.keep (keep_alloc _ _)
  have HLT : Hid (w2.heap.size < (wc.alloc (.cells #[.slice a1 css.length css.length, .int .u64 ch] 54)).heap.size) := by
    show _ < _
    have := HS3.out
    simp; omega
  obtain ⟨sb, hsb⟩ : ∃ sb, wc.heap.size = sb := ⟨_, rfl⟩
  rw [hsb] at HOM ⊢
  obtain ⟨W1, hW1⟩ : ∃ W1, wc.alloc (.cells #[.slice a1 css.length css.length, .int .u64 ch] 54) = W1 := ⟨_, rfl⟩
  rw [hW1] at HOM HB4 HW4 HLT ⊢
  obtain ⟨wb, hwb⟩ : ∃ wb, w2.heap.size = wb := ⟨_, rfl⟩
  rw [hwb] at HW4 HLT HFN ⊢
  clear hW1 hwb hsb HB13 HB1 HB2 HB3 HS2 HS3 HW3 HO2 HA1 HA HCL
  -- s.add(k)
  refine (zzAddKey_any HOM.out (by rw [HFL.out]; exact HTT.out) k).mono ?_
  rintro e W2 ⟨rfl, es1, a2, cap2, hO, hf1, hk1⟩
  rw [HFL.out] at hO hf1
  have HO1 : Hid (Own (F2 F W1 W2) W2 sb es1 (if isAt css.flatten k then ch else incU ch) a2 cap2) := hO
  have HF1 : Hid ((cssOf es1).flatten = insS css.flatten k) := hf1
  have HK1 : Hid (Kp F W1 W2) := hk1
  have HBB : Hid ((cssOf es1).flatten.length ≤ 1073741000) := by
    show _ ≤ _
    rw [hf1, insS_length]
    have := HT.out
    unfold tot at this
    split <;> omega
  clear hO hf1 hk1
  -- s.remove(k)
  go_wp2_with fail
  refine (zzRemoveKey_any HO1.out HBB.out k).mono ?_
  rintro e W3 ⟨rfl, hR⟩
  have hAft : After3 w.heap.size w W3 wb sb D C := by
    have := after3 HB4.out (fun b _ hb => HF.out b hb) HFL.out HOK.out.2 (by rw [HDD.out]; exact HW4.out) HFN.out HLT.out HK1.out HF1.out hR (Nat.le_refl _)
    rw [HDD.out, HHD.out, HC.out] at this
    exact this
  clear hR HO1 HF1 HK1 HBB HB4 HW4 HLT HFN HF HOM HFL
  obtain ⟨hbel, ⟨F', es2, a3, cap3, hO2, hfl2⟩, hwant⟩ := hAft
  have HBL : Hid (Below w.heap.size w W3) := hbel
  have HWT : Hid (StrsA W3 (some ⟨wb, 0, none⟩) D) := hwant
  have HV : Hid (View W3 sb a3 cap3 (cssOf es2) C) := hO2.view (by rw [hfl2]; exact HDL.out)
  have HK2 : Hid (OK (cssOf es2)) := hO2.ok
  have HEL : Hid (es2.length = (cssOf es2).length) := (cssOf_len es2).symm
  have HF2 : Hid ((cssOf es2).flatten = D) := hfl2
  clear hbel hwant hO2 hfl2
  obtain ⟨cs2, hcs2⟩ : ∃ cs2, cssOf es2 = cs2 := ⟨_, rfl⟩
  rw [hcs2] at HV HK2 HEL HF2
  clear hcs2 HEL
  have HCL2 : Hid (cs2.length ≤ 1073741824) := HV.out.len
  have HT2 : Hid (tot cs2 ≤ 1073741824) := by show cs2.flatten.length ≤ _; rw [HF2.out]; exact HDL.out
  go_wp2_with fail
  refine (setChunks_any sb _ _ HV.out.c0).mono ?_
  rintro e W4 ⟨rfl, rfl⟩
  go_wp2_with fail
  refine (chunksOK_any a3 cap3 cs2.length cs2 _ HV.out.chunks rfl).mono ?_
  rintro e W4 ⟨⟨r, rfl, hr⟩, rfl⟩
  obtain rfl : r = true := hr.2 HK2.out
  clear hr
  go_wp2_with fail
  refine (flatten_any a3 cap3 cs2.length cs2 _ HCL2.out HT2.out (ok_ne HK2.out) HV.out.chunks rfl).mono ?_
  rintro e W5 ⟨rfl, hrow5, hbel5, hsz5⟩
  have HR5 : Hid (StrsA W5 (some ⟨W4.heap.size, 0, none⟩) D) := by have := strsA_of_row hrow5 rfl HT2.out; rw [HF2.out] at this; exact this
  have HB5 : Hid (Below W4.heap.size W4 W5) := hbel5
  rw [show tot cs2 = D.length from by unfold tot; rw [HF2.out]]
  clear hrow5 hbel5 hsz5
  go_wp2_with fail
  refine (eqStrs_any _ _ _ _ _ _ D D _ HR5.out (HWT.out.keep (keep_below HB5.out)) rfl rfl).mono ?_
  rintro e W6 ⟨⟨r, rfl, hr⟩, q2, rfl⟩
  obtain rfl : r = true := hr.2 rfl
  clear hr
  go_wp2_with fail
  refine (setChanges_any sb (.int .u64 C) _ ((HV.out.keep (keep_below HB5.out)).drewN q2).c1).mono ?_
  rintro e W7 ⟨rfl, rfl⟩
  go_wp2
  go_ret
  exact ⟨rfl, below_drewN' (HBL.out.trans (HB5.out.mono HBL.out.size)) q2⟩
end Go.Proofs.Qxb6617214a
