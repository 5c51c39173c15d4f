/-
  The walk over (*keySet).add (32): a string that is new, in a set that is not empty.
-/
import Derived.Test.Qxb6617214aX
import Derived.Deep.RegionWith
namespace Go.Proofs.Qxb6617214a
open Go.RowKit Go.Lib Go.Deep
set_option linter.unusedVariables false

section
variable {F : Nat → Prop} {w : World} {sb : Nat} {es : List Ent} {ch : Int} {a : Option Addr} {cap : Nat}

theorem Own.array (h : Own F w sb es ch a cap) (hne : 0 < es.length) : ∃ ab, a = some ⟨ab, 0, none⟩ ∧ RowV w ab 29 cap (es.map entVal) ∧ ab ≠ sb ∧ F ab ∧ ∀ e ∈ es, e.g ≠ ab := by
  rcases h.arr with ⟨_, h0, _⟩ | h0
  · subst h0; simp at hne
  · exact h0

theorem cssOf_set (es : List Ent) (i : Nat) (e : Ent) : cssOf (es.set i e) = (cssOf es).set i e.ss := by simp [cssOf]
theorem cssOf_mid (es : List Ent) (i : Nat) (mid : List Ent) : cssOf (es.take i ++ mid ++ es.drop (i + 1)) = (cssOf es).take i ++ cssOf mid ++ (cssOf es).drop (i + 1) := by simp [cssOf]

theorem ins_set {α : Type} (es : List α) (i : Nat) (hi : i < es.length) (x y : α) : ins (es.set i x) (i + 1) y = es.take i ++ [x, y] ++ es.drop (i + 1) := by
  have hl : (es.take i).length = i := by rw [List.length_take]; omega
  rw [set_eq es i hi]
  unfold ins
  rw [List.take_append_of_le_length (by simp; omega), List.drop_append_of_le_length (by simp; omega), List.take_of_length_le (by simp; omega), List.drop_of_length_le (by simp; omega)]
  simp

/-- The set behind an add that splits a chunk. -/
theorem added_split {w' wc w2 W3 w4 w5 : World} {ab ab' i g1 g2 cap1 cap2 cap' : Nat} {A B : List ByteArray} {o : Obj} {k : ByteArray} (HO : Own F wc sb es (incU ch) (some ⟨ab, 0, none⟩) cap) (HK : Kp (· = sb) w' wc) (HZ : wc.heap.size = w'.heap.size)
    (hi : i < es.length) (hk1 : Kp (· = es[i].g) wc w2) (hk2 : Kp (· = ab) w2 W3) (hb4 : Below W3.heap.size W3 w4) (hgr : (w4.alloc o).grownBy w5 (some ab)) (hab : ab' = ab ∨ ab' = w4.heap.size + 1)
    (hr5 : RowV w5 ab' 29 cap' ((ins (es.set i ⟨g1, cap1, A⟩) (i + 1) ⟨g2, cap2, B⟩).map entVal)) (hr1 : RowV W3 g1 9 cap1 (strVals A)) (hg1 : w2.heap.size ≤ g1) (hr2 : RowV w4 g2 9 cap2 (strVals B)) (hg2 : W3.heap.size ≤ g2)
    (hna : isAt (cssOf es).flatten k = false) (hfl : ((cssOf es).take i ++ [A, B] ++ (cssOf es).drop (i + 1)).flatten = insS (cssOf es).flatten k) (hok : OK ((cssOf es).take i ++ [A, B] ++ (cssOf es).drop (i + 1))) :
    Added F w' (w5.setCell ⟨sb, 0, none⟩ (.slice (some ⟨ab', 0, none⟩) (es.length + 1) cap')) sb es ch k := by
  rw [ins_set es i hi] at hr5
  obtain ⟨ab0, hab0, hr0, habsb, hFab, hgab⟩ := HO.array (by omega)
  obtain rfl : ab = ab0 := by cases hab0; rfl
  have hsbl := HO.lt
  have habl := hr0.lt
  have hgi := HO.rows es[i] (List.getElem_mem hi)
  have hs1 := hk1.size
  have hs2 := hk2.size
  have hs4 := hb4.size
  have hs5 := hgr.size
  have hsa : (w4.alloc o).heap.size = w4.heap.size + 1 := by simp
  have k4 : Kp (fun _ => False) W3 w4 := Kp.below hb4
  have k5 : Kp (fun _ => False) w4 (w4.alloc o) := Kp.alloc w4 o
  have k6 : Kp (· = ab) (w4.alloc o) w5 := Kp.grown hgr
  have k7 := Kp.setCell w5 sb 0 (.slice (some ⟨ab', 0, none⟩) (es.length + 1) cap')
  have kall : Kp (fun b => b = es[i].g ∨ b = ab ∨ b = sb) wc (w5.setCell ⟨sb, 0, none⟩ (.slice (some ⟨ab', 0, none⟩) (es.length + 1) cap')) :=
    (((((hk1.mono (fun b _ hh => .inl hh)).trans hk2 (fun b _ hh => .inr (.inl hh))).trans k4 (fun b _ hh => False.elim hh)).trans k5 (fun b _ hh => False.elim hh)).trans k6 (fun b _ hh => .inr (.inl hh))).trans k7 (fun b _ hh => .inr (.inr hh))
  have hsb5 : w5.heap[sb]? = some (.cells #[.slice (some ⟨ab, 0, none⟩) es.length cap, .int .u64 (incU ch)] 54 (0, 0)) := by
    rw [k6.block sb (by omega) (fun e => habsb e.symm), k5.block sb (by omega) (fun hh => hh), k4.block sb (by omega) (fun hh => hh), hk2.block sb (by omega) (fun e => habsb e.symm), hk1.block sb hsbl (fun e => hgi.2.1 e.symm)]
    exact HO.sblk
  have hab'sb : ab' ≠ sb := by rcases hab with rfl | rfl; exact habsb; omega
  have hg1n : g1 ≠ ab ∧ g1 ≠ sb ∧ g1 < W3.heap.size := ⟨by omega, by omega, hr1.lt⟩
  have hg2n : g2 ≠ ab ∧ g2 ≠ sb ∧ g2 < w4.heap.size := ⟨by omega, by omega, hr2.lt⟩
  have hr1' : RowV (w5.setCell ⟨sb, 0, none⟩ (.slice (some ⟨ab', 0, none⟩) (es.length + 1) cap')) g1 9 cap1 (strVals A) := (((hr1.kp k4 (fun hh => hh)).kp k5 (fun hh => hh)).kp k6 hg1n.1).kp k7 hg1n.2.1
  have hr2' : RowV (w5.setCell ⟨sb, 0, none⟩ (.slice (some ⟨ab', 0, none⟩) (es.length + 1) cap')) g2 9 cap2 (strVals B) := ((hr2.kp k5 (fun hh => hh)).kp k6 hg2n.1).kp k7 hg2n.2.1
  have el : (es.take i ++ [(⟨g1, cap1, A⟩ : Ent), ⟨g2, cap2, B⟩] ++ es.drop (i + 1)).length = es.length + 1 := by simp; omega
  obtain ⟨q1, q2⟩ := shift_start HK HZ HO.fsb (HO.rebuild (ab := ab) (ab' := ab') (cap' := cap') (ch' := incU ch) rfl hi [⟨g1, cap1, A⟩, ⟨g2, cap2, B⟩] kall
    (by rw [el, blk_set hsb5]; simp) (hr5.kp k7 hab'sb) (by rcases hab with hh | hh; exact .inl hh; exact .inr (by omega))
    (by
      intro e he
      simp only [List.mem_cons, List.not_mem_nil, or_false] at he
      rcases he with rfl | rfl
      · exact ⟨hr1', .inr (by show wc.heap.size ≤ g1; omega), by show g1 ≠ ab'; rcases hab with rfl | rfl; exact hg1n.1; omega⟩
      · exact ⟨hr2', .inr (by show wc.heap.size ≤ g2; omega), by show g2 ≠ ab'; rcases hab with rfl | rfl; exact hg2n.1; omega⟩)
    (by simp; omega) (by rw [cssOf_mid]; exact hok))
  exact ⟨_, some ⟨ab', 0, none⟩, cap', by rw [hna]; exact q1, by rw [cssOf_mid]; exact hfl, q2⟩

theorem cut12 {w2 w3 : World} {ab i g1 cap1 : Nat} {vals l : List Value} {v : Value} (hR2 : RowV w2 ab 29 cap vals) (hi : i < vals.length) (hb : Below w2.drew.heap.size w2.drew w3) (hrow1 : RowV w3 g1 9 cap1 l) (hg1 : w2.drew.heap.size ≤ g1) :
    Kp (· = ab) w2 (w3.setCell ⟨ab, i, none⟩ v) ∧ RowV (w3.setCell ⟨ab, i, none⟩ v) g1 9 cap1 l ∧ w2.heap.size ≤ g1 ∧ RowV (w3.setCell ⟨ab, i, none⟩ v) ab 29 cap (vals.set i v) := by
  have k := Kp.setCell w3 ab i v
  have habl := hR2.lt
  have hg1' : w2.heap.size ≤ g1 := hg1
  have kb : Kp (fun _ => False) w2 w3 := (Kp.drew w2).trans (Kp.below hb) (fun _ _ hh => hh)
  exact ⟨(kb.mono (fun _ _ hh => False.elim hh)).trans k (fun _ _ hh => hh), hrow1.kp k (by omega), hg1', (hR2.kp kb (fun hh => hh)).setAt i v hi⟩

set_option maxRecDepth 100000 in
set_option maxHeartbeats 4000000 in
theorem add_more (h : Own F w sb es ch a cap) (hb : (cssOf es).flatten.length ≤ 1073741000) (k : ByteArray) (hne : 0 < es.length) (hna : isAt (cssOf es).flatten k = false) :
    Calls Try.prog 32 #[.pointer (some ⟨sb, 0, none⟩), .string k] w fun e w' => e = .returned (.tuple #[]) ∧ Added F w w' sb es ch k := by
  obtain ⟨ab, rfl, hr, habsb, hFab, hgab⟩ := h.array hne
  have hcl : (cssOf es).length = es.length := cssOf_len es
  have hilt := plc_lt (css := cssOf es) (by omega) k
  have hile := plc_le (cssOf es) k
  have hfin1 := add_set h.ok (by omega) hna
  have hfin2 := add_split h.ok (by omega) hna
  have hlen128 := (h.ok.1 _ (getD_mem (d := []) hilt)).2
  have hlf := h.len_flat
  -- what find says, in the place's words
  have HFD : Hid (∃ c0 a0 : Nat, findR (cssOf es) k = .tuple #[.int .i64 c0, .int .i64 a0, .bool false] ∧ ((c0 = es.length ∧ (plc (cssOf es) k).1 = es.length - 1 ∧ (plc (cssOf es) k).2 = ((cssOf es).getD (plc (cssOf es) k).1 []).length) ∨ (c0 < es.length ∧ c0 = (plc (cssOf es) k).1 ∧ a0 = (plc (cssOf es) k).2))) := by
    unfold findR plc
    by_cases hc : cidx (cssOf es) k = (cssOf es).length
    · rw [if_pos hc, if_pos hc]
      exact ⟨es.length, 0, by rw [hcl]; rfl, .inl ⟨rfl, by rw [hcl], rfl⟩⟩
    · have hc' := cidx_le (cssOf es) k
      have hf := h.ok.fine
      rw [isAt_flat hf (by omega)] at hna
      rw [if_neg hc, if_neg hc, hna]
      exact ⟨_, _, rfl, .inr ⟨by omega, rfl, rfl⟩⟩
  have HS : Hid _ := fun (_ : True) => find_any (h.view (by omega)) k
  generalize (plc (cssOf es) k).1 = i at *
  generalize (plc (cssOf es) k).2 = at' at *
  rw [hcl] at hilt
  rw [cssOf_getD es i hilt] at *
  have hrow := (h.rows es[i] (List.getElem_mem hilt))
  obtain ⟨c0, a0, hfd, hcase⟩ := HFD.out
  rw [hfd] at HS
  have HO : Hid (Own F w sb es ch (some ⟨ab, 0, none⟩) cap) := h
  have c1 := h.c1
  have f1 := h.frozen 1
  have HC : Hid _ := hcase
  have HF1 : Hid _ := hfin1
  have HF2 : Hid _ := hfin2
  have HG : Hid (∀ e ∈ es, e.g ≠ ab) := hgab
  clear hcase hfin1 hfin2 HFD h hgab hfd hcl hr
  go_enter Try.func32, Try.ntmps32
  go_upto_region 2 with (go_at_call 36; refine (HS.out trivial).mono ?_; rintro e w' ⟨rfl, rfl⟩)
  go_cut [] (fun wx => wx.heap.size = w'.heap.size ∧ Kp (· = sb) w' wx ∧ Own F wx sb es (incU ch) (some ⟨ab, 0, none⟩) cap)
  case first =>
    go_wp2
    go_meet
    case rel => exact ⟨by simp [World.setCell], Kp.setCell w' sb 1 _, HO.out.count (incU ch)⟩
  case rest =>
  obtain ⟨hsz, hkp, hO⟩ := hcut
  clear c1 f1 HS HO hrow
  have hcB := hO.c0
  obtain ⟨ab2, hab2, hr, _⟩ := hO.array hne
  obtain rfl : ab = ab2 := by cases hab2; rfl
  have hcA := hr.cell i (entVal es[i]) (by simp [hilt])
  unfold entVal at hcA
  have hrow := (hO.rows es[i] (List.getElem_mem hilt)).1
  have HO : Hid (Own F wc sb es (incU ch) (some ⟨ab, 0, none⟩) cap) := hO
  have HK : Hid (Kp (· = sb) w' wc) := hkp
  have HZ : Hid (wc.heap.size = w'.heap.size) := hsz
  have HRA : Hid (RowV wc ab 29 cap (es.map entVal)) := hr
  have HRW : Hid _ := hrow
  clear hO hkp hsz hab2 hr hrow
  go_upto_if 30 with fail
  go_cut [4, 5] (fun s4 s5 wx => s4 = .int .i64 (i : Nat) ∧ s5 = .int .i64 (at' : Nat) ∧ wx = wc)
  case first =>
    rcases HC.out with ⟨h1, h2, h3⟩ | ⟨h1, h2, h3⟩
    · subst h1; subst h3
      have hcA' : wc.cell? ⟨ab, es.length - 1, none⟩ = some (.slice (some ⟨es[i].g, 0, none⟩) es[i].ss.length es[i].c) := by rw [← h2]; exact hcA
      have H2 : Hid (i = es.length - 1) := h2
      clear hcA h2 HC
      have hn0 : ((es.length : Int) == 0) = false := by rw [beq_eq_false_iff_ne]; omega
      generalize es[i] = ei at *
      generalize es.length = n at *
      go_wp2
      go_meet
      case rel => exact ⟨by rw [H2.out]; go_num, rfl, rfl⟩
    · subst h2; subst h3
      have hnn : ((c0 : Int) == (es.length : Int)) = false := by rw [beq_eq_false_iff_ne]; omega
      clear HC
      generalize es[c0] = ei at *
      generalize es.length = n at *
      go_wp2
      go_meet
      case rel => exact ⟨rfl, rfl, rfl⟩
  case rest =>
  obtain ⟨rfl, rfl, rfl⟩ := hcut
  have H37 : Hid _ := fun (_ : True) => ins_ent es[i].g es[i].c at' wc.heap.size es[i].ss k (wc.alloc (.cells #[.string k] 9)) (HRW.out.kp (Kp.alloc _ _) (fun hh => hh)) (rowV_new wc (.string k) 9) (by have := HRW.out.lt; omega) hile (by omega)
  have hgne := (HO.out.rows es[i] (List.getElem_mem hilt)).2.1
  have hgab := HG.out es[i] (List.getElem_mem hilt)
  have hsbl := HO.out.lt
  have habl := HRA.out.lt
  have hgl := HRW.out.lt
  go_upto_if 67 with (go_at_call 37; refine (H37.out trivial).mono ?_; rintro e w2 ⟨g', c', rfl, hrow', hg', hgrow⟩)
  have hWs : (wc.alloc (.cells #[.string k] 9)).heap.size = wc.heap.size + 1 := by simp
  rw [hWs] at hg'
  have k1 : Kp (· = es[i].g) wc w2 := ((Kp.alloc wc _).mono (fun _ _ hh => False.elim hh)).trans (Kp.grown hgrow) (fun _ _ hh => hh)
  have hs2 : w2.heap[sb]? = some (.cells #[.slice (some ⟨ab, 0, none⟩) es.length cap, .int .u64 (incU ch)] 54 (0, 0)) := (k1.block sb hsbl (fun e => hgne e.symm)).trans HO.out.sblk
  have hr2 : RowV w2 ab 29 cap (es.map entVal) := HRA.out.kp k1 (fun e => hgab e.symm)
  have hcB2 : w2.cell? ⟨sb, 0, none⟩ = some (.slice (some ⟨ab, 0, none⟩) es.length cap) := by simp [World.cell?, hs2]
  have hcA2 := hr2.cell i (entVal es[i]) (by simp [hilt])
  have hfA2 := hr2.frozen i
  have hg'ab : g' ≠ ab := by rcases hg' with rfl | rfl; exact hgab; omega
  have hg'sb : g' ≠ sb := by rcases hg' with rfl | rfl; exact hgne; omega
  have hg'2 : g' = es[i].g ∨ wc.heap.size ≤ g' := by rcases hg' with hh | hh; exact .inl hh; exact .inr (by omega)
  have HS2 : Hid _ := hs2
  have HR2 : Hid (RowV w2 ab 29 cap (es.map entVal)) := hr2
  have HRN : Hid (RowV w2 g' 9 c' (strVals (ins es[i].ss at' k))) := hrow'
  have HK1 : Hid (Kp (· = es[i].g) wc w2) := k1
  have hil := ins_length es[i].ss at' k hile
  clear hs2 hr2 hrow' hgrow k1 hcA hcB hWs hg' HG H37
  by_cases hl : es[i].ss.length + 1 ≤ 128
  · have HFIN : Hid (Added F w' (w2.setCell ⟨ab, i, none⟩ (.slice (some ⟨g', 0, none⟩) (es[i].ss.length + 1) c')) sb es ch k) := by
      have k3 := Kp.setCell w2 ab i (.slice (some ⟨g', 0, none⟩) (es[i].ss.length + 1) c')
      obtain ⟨p1, p2⟩ := HF1.out (by rw [hil]; exact hl)
      have ecss : cssOf (es.take i ++ [⟨g', c', ins es[i].ss at' k⟩] ++ es.drop (i + 1)) = (cssOf es).set i (ins es[i].ss at' k) := by rw [← set_eq es i hilt]; exact cssOf_set _ _ _
      have el : (es.take i ++ [(⟨g', c', ins es[i].ss at' k⟩ : Ent)] ++ es.drop (i + 1)).length = es.length := by rw [← set_eq es i hilt]; simp
      have hrow3 := (HRN.out.kp k3 hg'ab)
      obtain ⟨q1, q2⟩ := shift_start HK.out HZ.out HO.out.fsb (HO.out.rebuild (ab := ab) (ab' := ab) (cap' := cap) (ch' := incU ch) rfl hilt [⟨g', c', ins es[i].ss at' k⟩]
        (((HK1.out.mono (fun b _ hh => .inl hh)).trans k3 (fun b _ hh => .inr (.inl hh))))
        (by rw [el]; exact (k3.block sb (by have := HK1.out.size; omega) (fun e => habsb e.symm)).trans HS2.out)
        (by
          have := HR2.out.setAt i (.slice (some ⟨g', 0, none⟩) (es[i].ss.length + 1) c') (by simpa using hilt)
          rw [← set_eq es i hilt, List.map_set, show entVal ⟨g', c', ins es[i].ss at' k⟩ = .slice (some ⟨g', 0, none⟩) (es[i].ss.length + 1) c' from by unfold entVal; rw [hil]]
          exact this)
        (.inl rfl)
        (by intro e he; simp at he; subst he; exact ⟨hrow3, hg'2, hg'ab⟩)
        (by simp) (by rw [ecss]; exact p2))
      exact ⟨_, some ⟨ab, 0, none⟩, cap, by rw [hna]; exact q1, by rw [ecss]; exact p1, q2⟩
    clear HS2 HR2 HRN HK1 HF1 HF2 HO HK HZ HRA HRW
    generalize es[i] = ei at *
    generalize ei.ss.length = len at *
    generalize es.length = n at *
    unfold entVal at hcA2
    go_wp2
    refine bodyPost_ret (results_none rfl _ _ _) rfl ?_
    exact ⟨rfl, HFIN.out⟩
  · have hlen : es[i].ss.length = 128 := by omega
    obtain ⟨p1, p2⟩ := HF2.out (by rw [hil]; exact hl)
    have hnl : (ins es[i].ss at' k).length = 129 := by omega
    unfold halves at p1 p2
    rw [hnl] at p1 p2
    have hlA : ((ins es[i].ss at' k).take (129 / 2)).length = 64 := by rw [List.length_take]; omega
    have hlB : ((ins es[i].ss at' k).drop (129 / 2)).length = 65 := by rw [List.length_drop]; omega
    have hRle := HRN.out.le
    rw [strVals_len, hnl] at hRle
    have hRcap := HRN.out.cap_le
    obtain ⟨new, hnew⟩ : ∃ new, ins es[i].ss at' k = new := ⟨_, rfl⟩
    rw [hnew] at hnl hlA hlB HRN p1 p2
    have HP1 : Hid _ := p1
    have HP2 : Hid _ := p2
    clear hnew p1 p2 HF1 HF2 hil HC
    have HLA : Hid ((new.take (129 / 2)).length = 64) := hlA
    have HLB : Hid ((new.drop (129 / 2)).length = 65) := hlB
    have HNL : Hid (new.length = 129) := hnl
    clear hlA hlB hnl
    rw [hlen]
    have HLEN : Hid (es[i].ss.length = 128) := hlen
    have hc64 : (64 : Int) ≤ (c' : Int) := by omega
    -- s.chunks[chunk] = slices.Clone(c[:half])
    have H38 : Hid _ := fun (_ : True) => clone_any g' 0 64 c' (strVals (new.take (129 / 2))) w2.drew (by rw [strVals_len]; exact HLA.out) (by omega) (by omega) (fun j u hj => by
      rw [Nat.zero_add]
      refine HRN.out.cell j u ?_
      unfold strVals at hj ⊢
      rw [List.map_take, List.getElem?_take] at hj
      split at hj
      · exact hj
      · cases hj) (strVals_one _)
    have HFX : Hid (∀ w3, Below w2.drew.heap.size w2.drew w3 → w3.cell? ⟨sb, 0, none⟩ = some (.slice (some ⟨ab, 0, none⟩) es.length cap) ∧ w3.cell? ⟨ab, i, none⟩ = some (entVal es[i]) ∧ w3.frozen? ⟨ab, i, none⟩ = false) := fun w3 hb3 => by
      have hs2 := HK1.out.size
      exact ⟨(hb3.cell (p := ⟨sb, 0, none⟩) (by show sb < w2.heap.size; omega)).trans hcB2, (hb3.cell (p := ⟨ab, i, none⟩) (by show ab < w2.heap.size; omega)).trans hcA2, (hb3.frozen (p := ⟨ab, i, none⟩) (by show ab < w2.heap.size; omega)).trans hfA2⟩
    clear hl hlen
    go_upto_region 12 with fail
    go_cut [] (fun wx => ∃ g1 cap1, Kp (· = ab) w2 wx ∧ RowV wx g1 9 cap1 (strVals (new.take (129 / 2))) ∧ w2.heap.size ≤ g1 ∧ RowV wx ab 29 cap ((es.map entVal).set i (.slice (some ⟨g1, 0, none⟩) 64 cap1)))
    case first =>
      have hI : (i : Int) < (es.length : Int) := by omega
      go_region_with (go_at_call 38; refine (H38.out trivial).mono ?_; rintro e w3 ⟨g1, cap1, rfl, hrow1, hg1, hbel1⟩; obtain ⟨x1, x2, x3⟩ := HFX.out w3 hbel1; unfold entVal at x2)
      all_goals (go_wp2; go_meet; exact ⟨g1, cap1, cut12 HR2.out (by simpa using hilt) hbel1 hrow1 hg1⟩)
    case rest =>
    obtain ⟨g1, cap1, hk2, hrow1, hg1, hra3⟩ := hcut
    have hs3 := hk2.size
    have hs12 := HK1.out.size
    have hsb3 : wc.heap[sb]? = some (.cells #[.slice (some ⟨ab, 0, none⟩) es.length cap, .int .u64 (incU ch)] 54 (0, 0)) := (hk2.block sb (by omega) (fun e => habsb e.symm)).trans HS2.out
    have hcB3 : wc.cell? ⟨sb, 0, none⟩ = some (.slice (some ⟨ab, 0, none⟩) es.length cap) := by simp [World.cell?, hsb3]
    have hfB3 : wc.frozen? ⟨sb, 0, none⟩ = false := by simp [World.frozen?, hsb3]
    have hrN3 : RowV wc g' 9 c' (strVals new) := HRN.out.kp hk2 hg'ab
    have hes1 : (es.map entVal).set i (.slice (some ⟨g1, 0, none⟩) 64 cap1) = (es.set i ⟨g1, cap1, new.take (129 / 2)⟩).map entVal := by
      rw [List.map_set]; unfold entVal; rw [HLA.out]
    rw [hes1] at hra3
    have H38b : Hid _ := fun (_ : True) => clone_any g' 64 65 (c' - 64) (strVals (new.drop (129 / 2))) wc.drew (by rw [strVals_len]; exact HLB.out) (by omega) (by omega) (fun j u hj => by
      refine hrN3.cell (64 + j) u ?_
      unfold strVals at hj ⊢
      rw [List.map_drop, List.getElem?_drop] at hj
      exact hj) (strVals_one _)
    have HFX3 : Hid (∀ w4, Below wc.drew.heap.size wc.drew w4 → w4.cell? ⟨sb, 0, none⟩ = some (.slice (some ⟨ab, 0, none⟩) es.length cap) ∧ w4.frozen? ⟨sb, 0, none⟩ = false ∧ sb < w4.heap.size) := fun w4 hb4 =>
      ⟨(hb4.cell (p := ⟨sb, 0, none⟩) (by show sb < wc.heap.size; omega)).trans hcB3, (hb4.frozen (p := ⟨sb, 0, none⟩) (by show sb < wc.heap.size; omega)).trans hfB3, by have : wc.heap.size ≤ w4.heap.size := hb4.size; omega⟩
    have H39 : Hid (∀ w4 g2 cap2, Below wc.drew.heap.size wc.drew w4 → RowV w4 g2 9 cap2 (strVals (new.drop (129 / 2))) → wc.drew.heap.size ≤ g2 →
        Calls Try.prog 39 #[.slice (some ⟨ab, 0, none⟩) es.length cap, .int .i64 ((i : Int) + 1), .slice (some ⟨w4.heap.size, 0, none⟩) 1 1] (w4.alloc (.cells #[.slice (some ⟨g2, 0, none⟩) 65 cap2] 29)) fun r w5 =>
          ∃ ab' cap', r = .returned (.slice (some ⟨ab', 0, none⟩) (es.length + 1) cap') ∧ w5.cell? ⟨sb, 0, none⟩ = some (.slice (some ⟨ab, 0, none⟩) es.length cap) ∧ w5.frozen? ⟨sb, 0, none⟩ = false ∧
            Added F w' (w5.setCell ⟨sb, 0, none⟩ (.slice (some ⟨ab', 0, none⟩) (es.length + 1) cap')) sb es ch k) := by
      intro w4 g2 cap2 hb4 hr2 hg2
      have hs4 : wc.heap.size ≤ w4.heap.size := hb4.size
      have hel : (es.set i (⟨g1, cap1, new.take (129 / 2)⟩ : Ent)).length = es.length := by simp
      have hv : RowV (w4.alloc (.cells #[entVal ⟨g2, cap2, new.drop (129 / 2)⟩] 29)) w4.heap.size 29 1 [entVal ⟨g2, cap2, new.drop (129 / 2)⟩] := rowV_new w4 _ 29
      have hra4 : RowV (w4.alloc (.cells #[entVal ⟨g2, cap2, new.drop (129 / 2)⟩] 29)) ab 29 cap ((es.set i ⟨g1, cap1, new.take (129 / 2)⟩).map entVal) :=
        ((hra3.kp (Kp.drew wc) (fun hh => hh)).kp (Kp.below hb4) (fun hh => hh)).kp (Kp.alloc _ _) (fun hh => hh)
      have hc := ins_arr ab cap (i + 1) w4.heap.size (es.set i ⟨g1, cap1, new.take (129 / 2)⟩) ⟨g2, cap2, new.drop (129 / 2)⟩ _ hra4 hv (by omega) (by rw [hel]; omega) (by rw [hel]; omega)
      rw [hel, show ((i + 1 : Nat) : Int) = (i : Int) + 1 from by omega] at hc
      have eV : entVal ⟨g2, cap2, new.drop (129 / 2)⟩ = .slice (some ⟨g2, 0, none⟩) 65 cap2 := by unfold entVal; rw [HLB.out]
      rw [eV] at hc
      refine hc.mono fun r w5 ⟨ab', cap', he, hr5, hab', hgr⟩ => ?_
      have hsa : (w4.alloc (.cells #[.slice (some ⟨g2, 0, none⟩) 65 cap2] 29)).heap.size = w4.heap.size + 1 := by simp
      rw [hsa] at hab'
      have hsb5 : w5.heap[sb]? = some (.cells #[.slice (some ⟨ab, 0, none⟩) es.length cap, .int .u64 (incU ch)] 54 (0, 0)) := by
        rw [(Kp.grown hgr).block sb (by omega) (fun e => habsb e.symm), (Kp.alloc w4 _).block sb (by omega) (fun hh => hh), (Kp.below hb4).block sb (by show sb < wc.heap.size; omega) (fun hh => hh)]
        exact hsb3
      exact ⟨ab', cap', he, by simp [World.cell?, hsb5], by simp [World.frozen?, hsb5], added_split HO.out HK.out HZ.out hilt HK1.out hk2 ((Below.refl _ wc).drew.trans hb4) hgr hab' hr5 hrow1 hg1 hr2 hg2 hna HP1.out HP2.out⟩
    clear HO HK HZ HRA HRW HS2 HR2 HRN HK1 HP1 HP2 H38 HFX hk2 hrow1 hg1 hra3 hsb3 hrN3 hes1 hs3 hs12
    have hn64 : ¬ (c' = 64) := by omega
    have hw1 : IntKind.i64.wrap ((i : Int) + 1) = (i : Int) + 1 := by rw [IntKind.wrap_i64]; omega
    have hI : (i : Int) < (es.length : Int) := by omega
    go_upto_region 13 with fail
    go_region_with (first | (go_at_call 38; refine (H38b.out trivial).mono ?_; rintro e w4 ⟨g2, cap2, rfl, hr2, hg2, hb4⟩; obtain ⟨x1, x2, x3⟩ := HFX3.out w4 hb4) | (go_at_call 39; refine (H39.out _ _ _ hb4 hr2 hg2).mono ?_; rintro e w5 ⟨ab', cap', rfl, y1, y2, HFIN⟩))
    all_goals (go_end0; exact ⟨rfl, HFIN⟩)

theorem add_any (h : Own F w sb es ch a cap) (hb : (cssOf es).flatten.length ≤ 1073741000) (k : ByteArray) :
    Calls Try.prog 32 #[.pointer (some ⟨sb, 0, none⟩), .string k] w fun e w' => e = .returned (.tuple #[]) ∧ Added F w w' sb es ch k := by
  cases ha : isAt (cssOf es).flatten k with
  | true => exact add_found h hb k ha
  | false =>
    by_cases hne : es = []
    · subst hne; exact add_first_walk h k
    · exact add_more h hb k (List.length_pos_iff.2 hne) ha
end
end Go.Proofs.Qxb6617214a
