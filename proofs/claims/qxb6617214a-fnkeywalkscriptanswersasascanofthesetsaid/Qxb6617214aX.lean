/-
  The walk over (*keySet).add (32).
-/
import Derived.Test.Qxb6617214aW
namespace Go.Proofs.Qxb6617214a
open Go.RowKit Go.Lib Go.Deep
set_option linter.unusedVariables false

def incU (ch : Int) : Int := IntKind.u64.wrap (ch + 1)
/-- What an add leaves. -/
def Added (F : Nat → Prop) (w w' : World) (sb : Nat) (es : List Ent) (ch : Int) (k : ByteArray) : Prop :=
  ∃ es' a' cap', Own (F2 F w w') w' sb es' (if isAt (cssOf es).flatten k then ch else incU ch) a' cap' ∧ (cssOf es').flatten = insS (cssOf es).flatten k ∧ Kp F w w'

section
variable {F : Nat → Prop} {w : World} {sb : Nat} {es : List Ent} {ch : Int} {a : Option Addr} {cap : Nat}

/-- k is there already. -/
theorem added_same (h : Own F w sb es ch a cap) {k : ByteArray} (ha : isAt (cssOf es).flatten k = true) : Added F w w sb es ch k := by
  refine ⟨es, a, cap, ?_, ?_, Kp.refl _ _⟩
  · rw [ha, if_pos rfl]; exact h.wide (fun b _ hF => .inl hF)
  · unfold insS; rw [ha, if_pos rfl]

set_option maxRecDepth 100000 in
set_option maxHeartbeats 1000000 in
theorem add_found (h : Own F w sb es ch a cap) (hb : (cssOf es).flatten.length ≤ 1073741000) (k : ByteArray) (ha : isAt (cssOf es).flatten k = true) :
    Calls Try.prog 32 #[.pointer (some ⟨sb, 0, none⟩), .string k] w fun e w' => e = .returned (.tuple #[]) ∧ Added F w w' sb es ch k := by
  have HA : Hid (Added F w w sb es ch k) := added_same h ha
  have hf := h.ok.fine
  have hlt : cidx (cssOf es) k < (cssOf es).length := by
    have := cidx_le (cssOf es) k
    apply Nat.lt_of_le_of_ne this
    intro e
    rw [isAt_end hf e] at ha; cases ha
  have HR : findR (cssOf es) k = .tuple #[.int .i64 (cidx (cssOf es) k : Nat), .int .i64 (sidx ((cssOf es).getD (cidx (cssOf es) k) []) k : Nat), .bool true] := by
    unfold findR; rw [if_neg (by omega), ← isAt_flat hf hlt, ha]
  have HS : Hid _ := fun (_ : True) => find_any (h.view (by omega)) k
  rw [HR] at HS
  clear h hf hlt HR ha
  generalize cidx (cssOf es) k = c at *
  generalize sidx ((cssOf es).getD c []) k = at' at *
  go_enter Try.func32, Try.ntmps32
  go_wp2_with (go_at_call 36; refine (HS.out trivial).mono ?_; rintro e w' ⟨rfl, rfl⟩)
  refine bodyPost_ret (results_none rfl _ _ _) rfl ?_
  exact ⟨rfl, HA.out⟩

/-- The set behind its first string. -/
theorem Own.first (h : Own F w sb [] ch a cap) {W : World} {ab' cap' g : Nat} {ch' : Int} {k : ByteArray} (hk : Kp (fun b => a = some ⟨b, 0, none⟩ ∨ b = sb) w W)
    (hs : W.heap[sb]? = some (.cells #[.slice (some ⟨ab', 0, none⟩) 1 cap', .int .u64 ch'] 54 (0, 0))) (hr : RowV W ab' 29 cap' [entVal ⟨g, 1, [k]⟩]) (hrow : RowV W g 9 1 [.string k])
    (hab : a = some ⟨ab', 0, none⟩ ∨ w.heap.size ≤ ab') (hg : w.heap.size ≤ g) (hne : g ≠ ab') : Own (F2 F w W) W sb [⟨g, 1, [k]⟩] ch' (some ⟨ab', 0, none⟩) cap' ∧ Kp F w W := by
  have hsb := h.lt
  have habF : ∀ b, a = some ⟨b, 0, none⟩ → F b ∧ b ≠ sb := fun b hb => by
    rcases h.arr with ⟨h0, _⟩ | ⟨ab, h0, _, h1, h2, _⟩
    · rw [h0] at hb; cases hb
    · rw [h0] at hb; cases hb; exact ⟨h2, h1⟩
  refine ⟨⟨hs, .inl h.fsb, .inr ⟨ab', rfl, hr, ?_, ?_, ?_⟩, ?_, by simp, (add_first k).2⟩, hk.mono ?_⟩
  · rcases hab with hab | hab
    · exact (habF _ hab).2
    · omega
  · rcases hab with hab | hab
    · exact .inl (habF _ hab).1
    · exact .inr ⟨hab, hr.lt⟩
  · intro e he; simp at he; subst he; exact hne
  · intro e he; simp at he; subst he
    exact ⟨hrow, by show g ≠ sb; omega, .inr ⟨hg, hrow.lt⟩⟩
  · rintro b _ (hb | rfl)
    · exact (habF _ hb).1
    · exact h.fsb

/-- .. told from the world ahead of the count. -/
theorem shift_start {wc W : World} (hk : Kp (· = sb) w wc) (hz : wc.heap.size = w.heap.size) (hF : F sb) (h : Own (F2 F wc W) W sb es ch a cap ∧ Kp F wc W) : Own (F2 F w W) W sb es ch a cap ∧ Kp F w W := by
  refine ⟨h.1.wide (fun b _ hb => ?_), (hk.mono (fun b _ hb => by rw [hb]; exact hF)).trans h.2 (fun _ _ hh => hh)⟩
  unfold F2 at *
  rw [hz] at hb
  exact hb

theorem rowV_new (w : World) (v : Value) (t : TypeId) : RowV (w.alloc (.cells #[v] t)) w.heap.size t 1 [v] := by
  refine ⟨⟨_, heap_alloc_new w _, rfl⟩, by simp, by omega, fun j u hj => ?_⟩
  cases j with
  | zero => simp at hj; subst hj; simp only [World.cell?, heap_alloc_new w (.cells #[v] t)]; rfl
  | succ j => simp at hj

/-- 'append(s.chunks, []string{k})' at an empty slice, wherever it lies. -/
theorem append_first {W : World} {vb cap : Nat} {v : Value} {a : Option Addr} (hv : RowV W vb 29 1 [v]) (h1v : v.oneCell' = true) (hA : (a = none ∧ cap = 0) ∨ ∃ ab, a = some ⟨ab, 0, none⟩ ∧ RowV W ab 29 cap []) :
    ∃ ab' cap' WW, (∀ ty, (Builtin.append_ #[22, 22] ty #[.slice a 0 cap, .slice (some ⟨vb, 0, none⟩) 1 1]).run Try.prog W = .ok (.slice (some ⟨ab', 0, none⟩) 1 cap') WW) ∧ RowV WW ab' 29 cap' [v] ∧
      (a = some ⟨ab', 0, none⟩ ∨ ab' = W.heap.size) ∧ Kp (fun b => a = some ⟨b, 0, none⟩) W WW := by
  obtain ⟨i0, hi, hz0, hz1, hz2⟩ := info_parts info29
  have hsrc : Src Try.prog i0.size 22 (.slice (some ⟨vb, 0, none⟩) 1 1) 1 [v] W := by
    rw [hz1]
    exact Src.ofSlice W Try.underlying22 ⟨vb, 0, none⟩ 1 1 _ rfl (fun j u hj => by rw [Addr.add_lit, Nat.zero_add]; exact hv.cell j u hj) (fun u hu => by simp at hu; subst hu; exact h1v)
  by_cases hcap : cap = 0
  · subst hcap
    have hold : (Builtin.firstCells i0.size 0 (.slice a 0 0)).run Try.prog W.drew = .ok ([] : List Value).toArray W.drew := by
      rw [hz1]
      cases a with
      | none => exact run_firstCells_none W.drew 1 0 0 0
      | some x => exact run_firstCells_some W.drew 1 0 x 0 0 [] rfl (fun j u hj => by simp at hj)
    have hrun := fun ty => run_append_grow_src W 22 22 ty 29 i0 _ Try.underlying22 hi hz0 a 0 0 [] hold _ 1 _ hsrc (by omega) (by omega) (by rw [hz2]; exact growslice_fits (by omega) (by omega))
    have hG1 := grownCap_ge W (0 + 1) 0 29
    have hG2 := grownCap_le_maxLen W (0 + 1) 0 29 (by unfold maxLen; omega)
    unfold maxLen at hG2
    simp only [Nat.zero_add] at hrun hG1 hG2
    refine ⟨_, _, _, hrun, ⟨⟨_, heap_alloc_new W.drew _, by simp [Builtin.zeroCells, Value.cells]; omega⟩, by simpa using hG1, hG2, fun j u hj => ?_⟩, .inr rfl, (Kp.drew W).trans (Kp.alloc _ _) (fun _ _ hh => hh) |>.mono (fun _ _ hh => False.elim hh)⟩
    have hjl := (List.getElem?_eq_some_iff.1 hj).1
    rw [World.cell?_alloc_at (w := W.drew) _ _ W.heap.size j rfl, Array.getElem?_append_left (by simpa using hjl)]
    simpa using hj
  · obtain ⟨ab, rfl, hr⟩ : ∃ ab, a = some ⟨ab, 0, none⟩ ∧ RowV W ab 29 cap [] := by
      rcases hA with ⟨_, h0⟩ | h0
      · exact absurd h0 hcap
      · exact h0
    have hrun := fun ty => run_append_room_src W 22 22 ty 29 i0 Try.underlying22 hi ab 0 0 cap _ 1 [v] hsrc (by omega) (fun j hj => hr.isSome _ (by simp at hj; simp; omega)) (fun j hj => hr.frozen _)
    simp only [Nat.zero_mul, Nat.zero_add] at hrun
    refine ⟨ab, cap, _, hrun, ⟨shape_sets _ _ hr.shape, by simp; omega, hr.cap_le, fun j u hj => ?_⟩, .inl rfl, (Kp.grown (grown_sets ab [v] 0 (World.grownBy.refl W _))).mono (fun b _ hh => by rw [hh])⟩
    have hjl := (List.getElem?_eq_some_iff.1 hj).1
    have := cells_in hr.shape 0 [v] (by simp; omega) j u hj
    rwa [Nat.zero_add] at this

set_option maxRecDepth 100000 in
set_option maxHeartbeats 1000000 in
/-- The first string of an empty set. -/
theorem add_first_walk (h : Own F w sb [] ch a cap) (k : ByteArray) :
    Calls Try.prog 32 #[.pointer (some ⟨sb, 0, none⟩), .string k] w fun e w' => e = .returned (.tuple #[]) ∧ Added F w w' sb [] ch k := by
  obtain ⟨i0, hi, hz0, hz1, hz2⟩ := info_parts info29
  have HS : Hid _ := fun (_ : True) => find_any (h.view (by simp [cssOf])) k
  have HR : findR (cssOf []) k = .tuple #[.int .i64 0, .int .i64 0, .bool false] := by unfold findR; rw [if_pos (by simp [cssOf, cidx])]; simp [cssOf]
  rw [HR] at HS
  have c0 := h.c0
  have c1 := h.c1
  have f0 := h.frozen 0
  have f1 := h.frozen 1
  have hsb := h.lt
  have HO : Hid (Own F w sb [] ch a cap) := h
  clear h HR
  go_enter Try.func32, Try.ntmps32
  go_upto_region 2 with (go_at_call 36; refine (HS.out trivial).mono ?_; rintro e w' ⟨rfl, rfl⟩)
  go_cut [] (fun wx => wx.heap.size = w'.heap.size ∧ Kp (· = sb) w' wx ∧ Own F wx sb [] (incU ch) a cap)
  case first =>
    go_wp2
    go_meet
    case rel => exact ⟨by simp [World.setCell], Kp.setCell w' sb 1 _, HO.out.count (incU ch)⟩
  case rest =>
  obtain ⟨hsz, hkp, hO⟩ := hcut
  clear c0 c1 f0 f1 HS HO
  have c0 := hO.c0
  have f0 := hO.frozen 0
  rw [List.length_nil] at c0
  have hsb' : sb < wc.heap.size := hO.lt
  have HO : Hid (Own F wc sb [] (incU ch) a cap) := hO
  have HK : Hid (Kp (· = sb) w' wc) := hkp
  have HZ : Hid (wc.heap.size = w'.heap.size) := hsz
  clear hO hkp hsz hsb
  -- the two blocks that are laid: the one string; the one slice
  have hv9 := rowV_new wc (.string k) 9
  have hv29 := rowV_new (wc.alloc (.cells #[.string k] 9)) (.slice (some ⟨wc.heap.size, 0, none⟩) 1 1) 29
  have hse : (wc.alloc (.cells #[.string k] 9)).heap.size = wc.heap.size + 1 := by simp
  rw [hse] at hv29
  obtain ⟨W, hW⟩ : ∃ W, W = (wc.alloc (.cells #[.string k] 9)).alloc (.cells #[.slice (some ⟨wc.heap.size, 0, none⟩) 1 1] 29) := ⟨_, rfl⟩
  have hWs : W.heap.size = wc.heap.size + 2 := by rw [hW]; simp
  have hkW : Kp (fun _ => False) wc W := by rw [hW]; exact (Kp.alloc wc _).trans (Kp.alloc _ _) (fun _ _ hh => hh)
  have hr9 : RowV W wc.heap.size 9 1 [.string k] := by rw [hW]; exact hv9.kp (Kp.alloc _ _) (fun hh => hh)
  have hr29 : RowV W (wc.heap.size + 1) 29 1 [.slice (some ⟨wc.heap.size, 0, none⟩) 1 1] := by rw [hW]; exact hv29
  have hsW : W.heap[sb]? = some (.cells #[.slice a 0 cap, .int .u64 (incU ch)] 54 (0, 0)) := by rw [hkW.block sb hsb' (fun hh => hh)]; exact HO.out.sblk
  obtain ⟨ab', cap', WW, hrun, hrr, hab, hkk⟩ := append_first (W := W) (vb := wc.heap.size + 1) (cap := cap) (a := a) hr29 rfl (by
    rcases HO.out.arr with ⟨h0, _, h1⟩ | ⟨ab, h0, h1, _⟩
    · exact .inl ⟨h0, h1⟩
    · exact .inr ⟨ab, h0, h1.kp hkW (fun hh => hh)⟩)
  have hsbn : ¬ a = some ⟨sb, 0, none⟩ := fun hh => by
    rcases HO.out.arr with ⟨h0, _⟩ | ⟨ab, h0, _, h1, _⟩
    · rw [h0] at hh; cases hh
    · rw [h0] at hh; cases hh; exact h1 rfl
  have hWW : WW.heap[sb]? = some (.cells #[.slice a 0 cap, .int .u64 (incU ch)] 54 (0, 0)) := (hkk.block sb (by omega) hsbn).trans hsW
  have cW : WW.cell? ⟨sb, 0, none⟩ = some (.slice a 0 cap) := by simp [World.cell?, hWW]
  have fW : WW.frozen? ⟨sb, 0, none⟩ = false := by simp [World.frozen?, hWW]
  have h9W : RowV WW wc.heap.size 9 1 [.string k] := hr9.kp hkk (fun hh => by
    rcases HO.out.arr with ⟨h0, _⟩ | ⟨ab, h0, h1, _⟩
    · rw [h0] at hh; cases hh
    · rw [h0] at hh; cases hh; have := h1.lt; omega)
  have habn : wc.heap.size ≠ ab' ∧ ab' ≠ sb := by
    rcases hab with hh | hh
    · refine ⟨fun e => ?_, fun e => hsbn (by rw [← e]; exact hh)⟩
      rcases HO.out.arr with ⟨h0, _⟩ | ⟨ab, h0, h1, _⟩
      · rw [h0] at hh; cases hh
      · rw [h0] at hh; cases hh; have := h1.lt; omega
    · omega
  have HFIN : Hid (Added F w' (WW.setCell ⟨sb, 0, none⟩ (.slice (some ⟨ab', 0, none⟩) 1 cap')) sb [] ch k) := by
    have k3 := Kp.setCell WW sb 0 (.slice (some ⟨ab', 0, none⟩) 1 cap')
    have hne1 : ¬ wc.heap.size = sb := by omega
    have kT : Kp (fun b => a = some ⟨b, 0, none⟩ ∨ b = sb) wc (WW.setCell ⟨sb, 0, none⟩ (.slice (some ⟨ab', 0, none⟩) 1 cap')) :=
      ((hkW.mono (fun _ _ hh => False.elim hh)).trans hkk (fun b _ hh => .inl hh)).trans k3 (fun b _ hh => .inr hh)
    obtain ⟨q1, q2⟩ := shift_start HK.out HZ.out HO.out.fsb (HO.out.first (ab' := ab') (cap' := cap') (g := wc.heap.size) (ch' := incU ch) (k := k) kT
      (by rw [blk_set hWW]; simp) (hrr.kp k3 habn.2) (h9W.kp k3 hne1) (Or.elim hab (fun e => .inl e) (fun e => .inr (by omega))) (Nat.le_refl _) habn.1)
    have hna : isAt (cssOf []).flatten k = false := by simp [cssOf, isAt, sidx]
    exact ⟨[⟨wc.heap.size, 1, [k]⟩], some ⟨ab', 0, none⟩, cap', by rw [hna]; exact q1, (add_first k).1, q2⟩
  have HRUN : Hid _ := hrun
  rw [hW] at HRUN
  clear hW hWs hkW hr9 hr29 hsW hrun hrr hkk hWW h9W habn hab hsbn hv9 hv29 HO HK HZ hse
  go_wp2_with (at_builtin; refine Lib.wpList_append_run _ rfl _ _ _ _ rfl _ _ rfl rfl _ _ (HRUN.out _) ?_)
  refine bodyPost_ret (results_none rfl _ _ _) rfl ?_
  exact ⟨rfl, HFIN.out⟩
end
end Go.Proofs.Qxb6617214a
