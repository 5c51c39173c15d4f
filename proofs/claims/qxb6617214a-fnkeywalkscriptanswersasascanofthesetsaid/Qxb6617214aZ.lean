/-
  The walk over (*keySet).remove (33).
-/
import Derived.Test.Qxb6617214aX
namespace Go.Proofs.Qxb6617214a
open Go.RowKit Go.Lib Go.Deep
set_option linter.unusedVariables false

/-- What a remove leaves. -/
def Removed (F : Nat → Prop) (w w' : World) (sb : Nat) (es : List Ent) (ch : Int) (k : ByteArray) : Prop :=
  ∃ es' a' cap', Own (F2 F w w') w' sb es' (if isAt (cssOf es).flatten k then incU ch else ch) a' cap' ∧ (cssOf es').flatten = delS (cssOf es).flatten k ∧ Kp F w w'

section
variable {F : Nat → Prop} {w : World} {sb : Nat} {es : List Ent} {ch : Int} {a : Option Addr} {cap : Nat}

theorem removed_same (h : Own F w sb es ch a cap) {k : ByteArray} (ha : isAt (cssOf es).flatten k = false) : Removed F w w sb es ch k := by
  refine ⟨es, a, cap, ?_, ?_, Kp.refl _ _⟩
  · rw [ha, if_neg (by simp)]; exact h.wide (fun b _ hF => .inl hF)
  · unfold delS; rw [ha, if_neg (by simp)]

set_option maxRecDepth 100000 in
set_option maxHeartbeats 1000000 in
theorem remove_none (h : Own F w sb es ch a cap) (hb : (cssOf es).flatten.length ≤ 1073741000) (k : ByteArray) (ha : isAt (cssOf es).flatten k = false) :
    Calls Try.prog 33 #[.pointer (some ⟨sb, 0, none⟩), .string k] w fun e w' => e = .returned (.tuple #[]) ∧ Removed F w w' sb es ch k := by
  have HA : Hid (Removed F w w sb es ch k) := removed_same h ha
  have hf := h.ok.fine
  have HFD : ∃ c0 a0 : Nat, findR (cssOf es) k = .tuple #[.int .i64 c0, .int .i64 a0, .bool false] := by
    unfold findR
    by_cases hc : cidx (cssOf es) k = (cssOf es).length
    · rw [if_pos hc]; exact ⟨_, 0, rfl⟩
    · have hc' := cidx_le (cssOf es) k
      rw [isAt_flat hf (by omega)] at ha
      rw [if_neg hc, ha]; exact ⟨_, _, rfl⟩
  obtain ⟨c0, a0, hfd⟩ := HFD
  have HS : Hid _ := fun (_ : True) => find_any (h.view (by omega)) k
  rw [hfd] at HS
  clear h hf hfd ha
  go_enter Try.func33, Try.ntmps33
  go_wp2_with (go_at_call 36; refine (HS.out trivial).mono ?_; rintro e w' ⟨rfl, rfl⟩)
  refine bodyPost_ret (results_none rfl _ _ _) rfl ?_
  exact ⟨rfl, HA.out⟩

theorem Own.array' (h : Own F w sb es ch a cap) (hne : 0 < es.length) : ∃ ab, a = some ⟨ab, 0, none⟩ ∧ RowV w ab 29 cap (es.map entVal) ∧ ab ≠ sb ∧ F ab ∧ ∀ e ∈ es, e.g ≠ ab := by
  rcases h.arr with ⟨_, h0, _⟩ | h0
  · subst h0; simp at hne
  · exact h0
theorem cssOf_mid' (es : List Ent) (i : Nat) (mid : List Ent) : cssOf (es.take i ++ mid ++ es.drop (i + 1)) = (cssOf es).take i ++ cssOf mid ++ (cssOf es).drop (i + 1) := by simp [cssOf]

set_option maxRecDepth 100000 in
set_option maxHeartbeats 2000000 in
theorem remove_found (h : Own F w sb es ch a cap) (hb : (cssOf es).flatten.length ≤ 1073741000) (k : ByteArray) (ha : isAt (cssOf es).flatten k = true) :
    Calls Try.prog 33 #[.pointer (some ⟨sb, 0, none⟩), .string k] w fun e w' => e = .returned (.tuple #[]) ∧ Removed F w w' sb es ch k := by
  have hf := h.ok.fine
  have hcl : (cssOf es).length = es.length := cssOf_len es
  have hlt : cidx (cssOf es) k < (cssOf es).length := by
    have := cidx_le (cssOf es) k
    apply Nat.lt_of_le_of_ne this
    intro e
    rw [isAt_end hf e] at ha; cases ha
  have hat : isAt ((cssOf es).getD (cidx (cssOf es) k) []) k = true := by rw [← isAt_flat hf hlt]; exact ha
  have hsin := sidx_in hf k hlt
  have hfin1 := rem_set h.ok hlt hat
  have hfin2 := rem_drop h.ok hlt hat
  have hl128 := (h.ok.1 _ (getD_mem (d := []) hlt)).2
  have hlf := h.len_flat
  have HR : findR (cssOf es) k = .tuple #[.int .i64 (cidx (cssOf es) k : Nat), .int .i64 (sidx ((cssOf es).getD (cidx (cssOf es) k) []) k : Nat), .bool true] := by
    unfold findR; rw [if_neg (by omega), hat]
  have HS : Hid _ := fun (_ : True) => find_any (h.view (by omega)) k
  rw [HR] at HS
  generalize cidx (cssOf es) k = i at *
  rw [hcl] at hlt
  rw [cssOf_getD es i hlt] at *
  generalize sidx es[i].ss k = at' at *
  obtain ⟨ab, rfl, hr, habsb, hFab, hgab⟩ := h.array' (by omega)
  have HO : Hid (Own F w sb es ch (some ⟨ab, 0, none⟩) cap) := h
  have c1 := h.c1
  have f1 := h.frozen 1
  have HF1 : Hid _ := hfin1
  have HF2 : Hid _ := hfin2
  have HG : Hid (∀ e ∈ es, e.g ≠ ab) := hgab
  clear hfin1 hfin2 h hgab hr hf HR hat hcl
  go_enter Try.func33, Try.ntmps33
  go_upto_region 2 with (go_at_call 36; refine (HS.out trivial).mono ?_; rintro e w' ⟨rfl, rfl⟩)
  go_cut [] (fun wx => wx.heap.size = w'.heap.size ∧ Kp (· = sb) w' wx ∧ Own F wx sb es (incU ch) (some ⟨ab, 0, none⟩) cap)
  case first =>
    go_wp2
    go_meet
    case rel => exact ⟨by simp [World.setCell], Kp.setCell w' sb 1 _, HO.out.count (incU ch)⟩
  case rest =>
  obtain ⟨hsz, hkp, hO⟩ := hcut
  clear c1 f1 HS HO
  have hcB := hO.c0
  obtain ⟨ab2, hab2, hr, _⟩ := hO.array' (by omega)
  obtain rfl : ab = ab2 := by cases hab2; rfl
  have hcA := hr.cell i (entVal es[i]) (by simp [hlt])
  unfold entVal at hcA
  have hrow := (hO.rows es[i] (List.getElem_mem hlt)).1
  have hgne := (hO.rows es[i] (List.getElem_mem hlt)).2.1
  have hgab := HG.out es[i] (List.getElem_mem hlt)
  have hsbl := hO.lt
  have habl := hr.lt
  have HO : Hid (Own F wc sb es (incU ch) (some ⟨ab, 0, none⟩) cap) := hO
  have HK : Hid (Kp (· = sb) w' wc) := hkp
  have HZ : Hid (wc.heap.size = w'.heap.size) := hsz
  have HRA : Hid (RowV wc ab 29 cap (es.map entVal)) := hr
  have H40 : Hid _ := fun (_ : True) => del_ent es[i].g es[i].c at' es[i].ss wc hrow hsin
  clear hO hkp hsz hab2 hr hrow HG
  go_upto_if 37 with (go_at_call 40; refine (H40.out trivial).mono ?_; rintro e w2 ⟨rfl, hrow', hgrow⟩)
  have k1 : Kp (· = es[i].g) wc w2 := Kp.grown hgrow
  have hs2 : w2.heap[sb]? = some (.cells #[.slice (some ⟨ab, 0, none⟩) es.length cap, .int .u64 (incU ch)] 54 (0, 0)) := (k1.block sb hsbl (fun e => hgne e.symm)).trans HO.out.sblk
  have hr2 : RowV w2 ab 29 cap (es.map entVal) := HRA.out.kp k1 (fun e => hgab e.symm)
  have hcB2 : w2.cell? ⟨sb, 0, none⟩ = some (.slice (some ⟨ab, 0, none⟩) es.length cap) := by simp [World.cell?, hs2]
  have hfB2 : w2.frozen? ⟨sb, 0, none⟩ = false := by simp [World.frozen?, hs2]
  have hcA2 := hr2.cell i (entVal es[i]) (by simp [hlt])
  unfold entVal at hcA2
  have hfA2 := hr2.frozen i
  have hel : (es[i].ss.eraseIdx at').length = es[i].ss.length - 1 := List.length_eraseIdx_of_lt hsin
  have hs12 := k1.size
  have HS2 : Hid _ := hs2
  have HR2 : Hid (RowV w2 ab 29 cap (es.map entVal)) := hr2
  have HRN : Hid (RowV w2 es[i].g 9 es[i].c (strVals (es[i].ss.eraseIdx at'))) := hrow'
  have HK1 : Hid (Kp (· = es[i].g) wc w2) := k1
  clear hs2 hr2 hrow' hgrow k1 hcA hcB H40
  by_cases hl : 0 < es[i].ss.length - 1
  · have HFIN : Hid (Removed F w' (w2.setCell ⟨ab, i, none⟩ (.slice (some ⟨es[i].g, 0, none⟩) (es[i].ss.length - 1) es[i].c)) sb es ch k) := by
      have k3 := Kp.setCell w2 ab i (.slice (some ⟨es[i].g, 0, none⟩) (es[i].ss.length - 1) es[i].c)
      obtain ⟨p1, p2⟩ := HF1.out (by rw [hel]; exact hl)
      have ecss : cssOf (es.take i ++ [⟨es[i].g, es[i].c, es[i].ss.eraseIdx at'⟩] ++ es.drop (i + 1)) = (cssOf es).set i (es[i].ss.eraseIdx at') := by rw [← set_eq es i hlt]; simp [cssOf]
      have el : (es.take i ++ [(⟨es[i].g, es[i].c, es[i].ss.eraseIdx at'⟩ : Ent)] ++ es.drop (i + 1)).length = es.length := by rw [← set_eq es i hlt]; simp
      obtain ⟨q1, q2⟩ := shift_start HK.out HZ.out HO.out.fsb (HO.out.rebuild (ab := ab) (ab' := ab) (cap' := cap) (ch' := incU ch) rfl hlt [⟨es[i].g, es[i].c, es[i].ss.eraseIdx at'⟩]
        (((HK1.out.mono (fun b _ hh => .inl hh)).trans k3 (fun b _ hh => .inr (.inl hh))))
        (by rw [el]; exact (k3.block sb (by omega) (fun e => habsb e.symm)).trans HS2.out)
        (by
          have := HR2.out.setAt i (.slice (some ⟨es[i].g, 0, none⟩) (es[i].ss.length - 1) es[i].c) (by simpa using hlt)
          rw [← set_eq es i hlt, List.map_set, show entVal ⟨es[i].g, es[i].c, es[i].ss.eraseIdx at'⟩ = .slice (some ⟨es[i].g, 0, none⟩) (es[i].ss.length - 1) es[i].c from by unfold entVal; rw [hel]]
          exact this)
        (.inl rfl)
        (by intro e he; simp at he; subst he; exact ⟨HRN.out.kp k3 hgab, .inl rfl, hgab⟩)
        (by simp) (by rw [ecss]; exact p2))
      exact ⟨_, some ⟨ab, 0, none⟩, cap, by rw [ha]; exact q1, by rw [ecss]; exact p1, q2⟩
    clear HS2 HR2 HRN HK1 HF1 HF2 HO HK HZ HRA hel ha
    have hl' : (0 : Int) < ((es[i].ss.length - 1 : Nat) : Int) := by omega
    generalize es[i] = ei at *
    generalize ei.ss.length - 1 = len at *
    generalize es.length = n at *
    go_wp2
    go_end0
    exact ⟨rfl, HFIN.out⟩
  · have h1 : es[i].ss.length = 1 := by omega
    have H41 : Hid (∀ W, W = w2 → Calls Try.prog 41 #[.slice (some ⟨ab, 0, none⟩) es.length cap, .int .i64 i, .int .i64 ((i : Int) + 1)] W fun r w5 =>
        r = .returned (.slice (some ⟨ab, 0, none⟩) (es.length - 1) cap) ∧ w5.cell? ⟨sb, 0, none⟩ = some (.slice (some ⟨ab, 0, none⟩) es.length cap) ∧ w5.frozen? ⟨sb, 0, none⟩ = false ∧
          Removed F w' (w5.setCell ⟨sb, 0, none⟩ (.slice (some ⟨ab, 0, none⟩) (es.length - 1) cap)) sb es ch k) := by
      rintro W rfl
      refine (del_arr ab cap i es W HR2.out hlt).mono fun r w5 ⟨he, hr5, hgr⟩ => ?_
      have k4 := Kp.grown hgr
      have hsb5 : w5.heap[sb]? = some (.cells #[.slice (some ⟨ab, 0, none⟩) es.length cap, .int .u64 (incU ch)] 54 (0, 0)) := (k4.block sb (by omega) (fun e => habsb e.symm)).trans HS2.out
      have k5 := Kp.setCell w5 sb 0 (.slice (some ⟨ab, 0, none⟩) (es.length - 1) cap)
      obtain ⟨p1, p2⟩ := HF2.out (by rw [hel]; exact hl)
      have ees : es.take i ++ ([] : List Ent) ++ es.drop (i + 1) = es.eraseIdx i := by rw [eraseIdx_eq]; simp
      have ecss : cssOf (es.eraseIdx i) = (cssOf es).eraseIdx i := by simp [cssOf, eraseIdx_eq]
      have el : (es.eraseIdx i).length = es.length - 1 := List.length_eraseIdx_of_lt hlt
      obtain ⟨q1, q2⟩ := shift_start HK.out HZ.out HO.out.fsb (HO.out.rebuild (ab := ab) (ab' := ab) (cap' := cap) (ch' := incU ch) rfl hlt []
        (((HK1.out.mono (fun b _ hh => .inl hh)).trans k4 (fun b _ hh => .inr (.inl hh))).trans k5 (fun b _ hh => .inr (.inr hh)))
        (by rw [ees, el, blk_set hsb5]; simp) (by rw [ees]; exact hr5.kp k5 habsb) (.inl rfl) (by intro e he; cases he) (by simp) (by rw [ees, ecss]; exact p2))
      rw [ees] at q1
      exact ⟨he, by simp [World.cell?, hsb5], by simp [World.frozen?, hsb5], es.eraseIdx i, some ⟨ab, 0, none⟩, cap, by rw [ha]; exact q1, by rw [ecss]; exact p1, q2⟩
    clear HS2 HR2 HRN HK1 HF1 HF2 HO HK HZ HRA hel ha
    have hl' : ¬ (0 : Int) < ((es[i].ss.length - 1 : Nat) : Int) := by omega
    generalize es[i] = ei at *
    generalize ei.ss.length - 1 = len at *
    generalize es.length = n at *
    go_wp2_with (go_at_call 41; refine (H41.out _ rfl).mono ?_; rintro e w5 ⟨rfl, y1, y2, HFIN⟩)
    go_end0
    exact ⟨rfl, HFIN⟩

theorem remove_any (h : Own F w sb es ch a cap) (hb : (cssOf es).flatten.length ≤ 1073741000) (k : ByteArray) :
    Calls Try.prog 33 #[.pointer (some ⟨sb, 0, none⟩), .string k] w fun e w' => e = .returned (.tuple #[]) ∧ Removed F w w' sb es ch k := by
  cases ha : isAt (cssOf es).flatten k with
  | true => exact remove_found h hb k ha
  | false => exact remove_none h hb k ha
end
end Go.Proofs.Qxb6617214a
