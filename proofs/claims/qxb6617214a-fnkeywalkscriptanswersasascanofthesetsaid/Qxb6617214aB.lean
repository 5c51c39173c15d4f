/-
  The walk over chunksOK (10), and over zzBytes of law 6 (28).
-/
import Derived.Test.Qxb6617214aA
import Derived.Test.Qxb6617214aPlain
namespace Go.Proofs.Qxb6617214a
open Go.RowKit

/-! ### chunksOK: plain steps -/
def St (pre : List ByteArray) (hv : Bool) (pv : ByteArray) : Prop := Incr pre ∧ hv = !pre.isEmpty ∧ pv = pre.getLastD ByteArray.empty
def OKTo (css : List (List ByteArray)) (k : Nat) (hv : Bool) (pv : ByteArray) : Prop := (∀ c ∈ css.take k, 0 < c.length ∧ c.length ≤ 128) ∧ St (css.take k).flatten hv pv
def OKIn (css : List (List ByteArray)) (k j : Nat) (hv : Bool) (pv : ByteArray) : Prop :=
  (∀ c ∈ css.take k, 0 < c.length ∧ c.length ≤ 128) ∧ St ((css.take k).flatten ++ (css.getD k []).take j) hv pv

theorem okTo_zero (css : List (List ByteArray)) : OKTo css 0 false ByteArray.empty := by
  refine ⟨by simp, ?_, by simp, by simp⟩
  simp [Incr]
theorem okTo_in {css : List (List ByteArray)} {k : Nat} {hv : Bool} {pv : ByteArray} (h : OKTo css k hv pv) : OKIn css k 0 hv pv := by
  refine ⟨h.1, ?_⟩
  rw [List.take_zero, List.append_nil]; exact h.2
theorem take_getD (css : List (List ByteArray)) (k : Nat) (h : k < css.length) : css.take (k + 1) = css.take k ++ [css.getD k []] := by
  rw [List.take_succ_eq_append_getElem h]; simp [List.getD_eq_getElem?_getD, h]
theorem take_getDs (ss : List ByteArray) (k : Nat) (h : k < ss.length) : ss.take (k + 1) = ss.take k ++ [ss.getD k ByteArray.empty] := by
  rw [List.take_succ_eq_append_getElem h]; simp [List.getD_eq_getElem?_getD, h]
theorem drop_getD (css : List (List ByteArray)) (k : Nat) (h : k < css.length) : css = css.take k ++ css.getD k [] :: css.drop (k + 1) := by
  conv => lhs; rw [← List.take_append_drop k css, List.drop_eq_getElem_cons h]
  simp [List.getD_eq_getElem?_getD, h]
theorem drop_getDs (ss : List ByteArray) (k : Nat) (h : k < ss.length) : ss = ss.take k ++ ss.getD k ByteArray.empty :: ss.drop (k + 1) := by
  conv => lhs; rw [← List.take_append_drop k ss, List.drop_eq_getElem_cons h]
  simp [List.getD_eq_getElem?_getD, h]
theorem flat_split (css : List (List ByteArray)) (k j : Nat) (h : k < css.length) (hj : j < (css.getD k []).length) :
    ∃ r, css.flatten = ((css.take k).flatten ++ (css.getD k []).take j) ++ (css.getD k []).getD j ByteArray.empty :: r := by
  refine ⟨(css.getD k []).drop (j + 1) ++ (css.drop (k + 1)).flatten, ?_⟩
  conv => lhs; rw [drop_getD css k h]
  rw [List.flatten_append, List.flatten_cons]
  conv => lhs; rhs; lhs; rw [drop_getDs _ j hj]
  simp only [List.append_assoc, List.cons_append]
theorem okIn_step {css : List (List ByteArray)} {k j : Nat} {hv : Bool} {pv x : ByteArray} {ss : List ByteArray} (hss : css.getD k [] = ss) (h : OKIn css k j hv pv) (hj : j < ss.length) (hx : ss.getD j ByteArray.empty = x)
    (ok : hv = true → Op.bytesLess pv.toList x.toList = true) : OKIn css k (j + 1) true x := by
  subst hss
  refine ⟨h.1, ?_⟩
  obtain ⟨h1, h2, h3⟩ := h.2
  rw [take_getDs _ j hj, hx, ← List.append_assoc]
  refine ⟨incr_snoc h1 ?_, by simp, by simp⟩
  rw [← h3]
  cases hv with
  | false => left; simpa using h2
  | true => right; exact ok rfl
theorem okIn_bad {css : List (List ByteArray)} {k j : Nat} {pv x : ByteArray} {ss : List ByteArray} (hss : css.getD k [] = ss) (h : OKIn css k j true pv) (hk : k < css.length) (hj : j < ss.length) (hx : ss.getD j ByteArray.empty = x)
    (bad : Op.bytesLess pv.toList x.toList = false) : ¬ OK css := by
  subst hss
  intro hok
  obtain ⟨r, hr⟩ := flat_split css k j hk hj
  obtain ⟨h1, h2, h3⟩ := h.2
  have := hok.2
  rw [hr, hx] at this
  rcases incr_last this with h0 | h0
  · rw [h0] at h2; simp at h2
  · rw [← h3] at h0
    rw [show Op.bytesLess pv.toList x.toList = slt pv x from rfl, h0] at bad; cases bad
theorem okIn_done {css : List (List ByteArray)} {k j : Nat} {hv : Bool} {pv : ByteArray} {ss : List ByteArray} (hss : css.getD k [] = ss) (h : OKIn css k j hv pv) (hj : j = ss.length) (hk : k < css.length) (h0 : 0 < ss.length) (h1 : ss.length ≤ 128) : OKTo css (k + 1) hv pv := by
  subst hss; subst hj
  refine ⟨?_, ?_⟩
  · rw [take_getD _ _ hk]
    intro c hc
    rw [List.mem_append] at hc
    rcases hc with hc | hc
    · exact h.1 c hc
    · simp only [List.mem_singleton] at hc; subst hc; exact ⟨h0, h1⟩
  · rw [take_getD _ _ hk, List.flatten_append]
    have := h.2
    rw [List.take_length] at this
    simpa using this
theorem okTo_done {css : List (List ByteArray)} {k : Nat} {hv : Bool} {pv : ByteArray} (h : OKTo css k hv pv) (hk : k = css.length) : OK css := by
  subst hk
  have h1 := h.1; have h2 := h.2.1
  rw [List.take_length] at h1 h2
  exact ⟨h1, h2⟩
theorem okLen_bad {css : List (List ByteArray)} {k : Nat} {ss : List ByteArray} (hss : css.getD k [] = ss) (hk : k < css.length) (h : ss.length = 0 ∨ 128 < ss.length) : ¬ OK css := by
  subst hss
  intro hok
  have := hok.1 (css.getD k []) (by simp [List.getD_eq_getElem?_getD, hk])
  omega

/-- A bool came back, true just where φ is. -/
def RetB (φ : Prop) (e : Ending) : Prop := ∃ r : Bool, e = .returned (.bool r) ∧ (r = true ↔ φ)
theorem retB_true {φ : Prop} (h : φ) : RetB φ (.returned (.bool true)) := ⟨true, rfl, by simp [h]⟩
theorem retB_false {φ : Prop} (h : ¬ φ) : RetB φ (.returned (.bool false)) := ⟨false, rfl, by simp [h]⟩

set_option maxHeartbeats 1000000 in
theorem chunksOK_some (b off c : Nat) (css : List (List ByteArray)) (w : World) (hl : css.length ≤ 9223372036854775807)
    (hc : ∀ i, i < css.length → ∃ ai ci, w.cell? ⟨b, off + i, none⟩ = some (.slice ai (css.getD i []).length ci) ∧ (css.getD i []).length ≤ ci ∧ StrsA w ai (css.getD i [])) :
    Calls Try.prog 10 #[.slice (some ⟨b, off, none⟩) css.length c] w fun e w' => RetB (OK css) e ∧ w' = w := by
  go_enter Try.func10, Try.ntmps10
  go_wp2
  go_loop [3, 4, 5] (fun h p i => ∃ (k : Nat) (hv : Bool) (pv : ByteArray), k ≤ css.length ∧ i = .int .i64 k ∧ h = .bool hv ∧ p = .string pv ∧ OKTo css k hv pv) (fun _ _ i => css.length - (intOf i).toNat)
  case atStart => exact ⟨0, false, ByteArray.empty, Nat.zero_le _, rfl, rfl, rfl, okTo_zero css⟩
  case round =>
    obtain ⟨k, hv, pv, hk, rfl, rfl, rfl, hst⟩ := hrel
    by_cases hlt : k < css.length
    · obtain ⟨ai, ci, hcell, hcap, hS⟩ := hc k hlt
      clear hc
      obtain ⟨ss, hss⟩ : ∃ ss, css.getD k [] = ss := ⟨_, rfl⟩
      rw [hss] at hcell hcap hS
      have HSS : Hid (css.getD k [] = ss) := hss
      clear hss
      by_cases h0 : ss.length = 0
      · have hf : Hid (¬ OK css) := okLen_bad HSS.out hlt (.inl h0)
        rw [h0] at hcell
        clear hst hS h0 hcap HSS
        go_wp2
        go_ret
        exact ⟨retB_false hf.out, rfl⟩
      · by_cases h1 : ss.length ≤ 128
        · obtain ⟨bb, oo, rfl, hcs⟩ := hS.2 (by omega)
          clear hS
          have hin := okTo_in hst
          clear hst
          have hnz : ((ss.length : Int) == 0) = false := by rw [beq_eq_false_iff_ne]; omega
          have h1' : ¬ (128 : Int) < ss.length := by omega
          go_wp2
          go_loop [3, 4, 7] (fun h p i => ∃ (j : Nat) (hv : Bool) (pv : ByteArray), j ≤ ss.length ∧ i = .int .i64 j ∧ h = .bool hv ∧ p = .string pv ∧ OKIn css k j hv pv) (fun _ _ i => ss.length - (intOf i).toNat)
          case atStart => exact ⟨0, hv, pv, Nat.zero_le _, rfl, rfl, rfl, hin⟩
          case round =>
            obtain ⟨j, hv', pv', hj, rfl, rfl, rfl, hst⟩ := hrel
            by_cases hjl : j < ss.length
            · have hx := hcs j hjl
              obtain ⟨x, hxe⟩ : ∃ x, ss.getD j ByteArray.empty = x := ⟨_, rfl⟩
              rw [hxe] at hx
              have HX : Hid (ss.getD j ByteArray.empty = x) := hxe
              clear hxe hcs
              cases hv' with
              | false =>
                go_wp2
                go_round
                case rel => exact ⟨j + 1, true, x, by omega, by go_num, rfl, rfl, okIn_step HSS.out hst hjl HX.out (fun h => by cases h)⟩
                case measure => simp [intOf]; omega
              | true =>
                cases hb : Op.bytesLess pv'.toList x.toList with
                | true =>
                  go_wp2
                  go_round
                  case rel => exact ⟨j + 1, true, x, by omega, by go_num, rfl, rfl, okIn_step HSS.out hst hjl HX.out (fun _ => hb)⟩
                  case measure => simp [intOf]; omega
                | false =>
                  go_wp2
                  go_ret
                  exact ⟨retB_false (okIn_bad HSS.out hst hlt hjl HX.out hb), rfl⟩
            · go_wp2
              go_round
              case rel => exact ⟨k + 1, hv', pv', by omega, by go_num, rfl, rfl, okIn_done HSS.out hst (by omega) hlt (by omega) h1⟩
              case measure => simp [intOf]; omega
        · have hf : Hid (¬ OK css) := okLen_bad HSS.out hlt (.inr (by omega))
          have hnz : ((ss.length : Int) == 0) = false := by rw [beq_eq_false_iff_ne]; omega
          have h1' : (128 : Int) < ss.length := by omega
          clear hst
          go_wp2
          go_ret
          exact ⟨retB_false hf.out, rfl⟩
    · have hok : Hid (OK css) := okTo_done hst (by omega)
      clear hc hst
      go_wp2
      go_ret
      exact ⟨retB_true hok.out, rfl⟩

set_option maxHeartbeats 400000 in
theorem chunksOK_zero (a : Option Addr) (c : Nat) (w : World) :
    Calls Try.prog 10 #[.slice a 0 c] w fun e w' => RetB (OK []) e ∧ w' = w := by
  go_enter Try.func10, Try.ntmps10
  go_wp2
  refine wp_loop_rounds 1 ?_; rw [rounds_succ]; go_wp2
  go_ret
  exact ⟨retB_true ⟨by simp, by simp [Incr]⟩, rfl⟩

theorem chunksOK_any (a : Option Addr) (c n : Nat) (css : List (List ByteArray)) (w : World) (h : ChunksA w a css) (hn : n = css.length) :
    Calls Try.prog 10 #[.slice a n c] w fun e w' => RetB (OK css) e ∧ w' = w := by
  subst hn
  by_cases h0 : css = []
  · subst h0; exact chunksOK_zero a c w
  · have hp : 0 < css.length := List.length_pos_iff.2 h0
    obtain ⟨b, off, rfl, hc⟩ := h.2 hp
    exact chunksOK_some b off c css w h.1 hc
end Go.Proofs.Qxb6617214a
