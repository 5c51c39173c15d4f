/-
  slices.Clone at []string (38): a new row.
-/
import Derived.Test.Qxb6617214aT1
import Derived.Lib.Walk
namespace Go.Proofs.Qxb6617214a
open Go.RowKit Go.Lib
set_option linter.unusedVariables false

theorem rowV_of_owns {w : World} {base : Nat} {t : TypeId} {v : Value} {n : Nat} {xs : List Value} (h : w.ownsRow base t 1 v n xs) (hn : 0 < n) : ∃ g cap, v = .slice (some ⟨g, 0, none⟩) n cap ∧ base ≤ g ∧ RowV w g t cap xs := by
  obtain ⟨hl, h2⟩ := h
  rcases h2 with ⟨_, h0⟩ | ⟨g, cap, cur, hv, hg, hb, hle, hm, hs, ht⟩
  · omega
  · rw [Nat.mul_one] at hl hs ht
    unfold maxLen at hm
    refine ⟨g, cap, hv, hg, ⟨cur, hb, hs⟩, by omega, hm, fun j u hj => ?_⟩
    have hjl := (List.getElem?_eq_some_iff.1 hj).1
    rw [← ht, List.getElem?_take, if_pos (by omega)] at hj
    simp only [World.cell?, hb]
    simpa using hj

set_option maxHeartbeats 2000000 in
set_option maxRecDepth 100000 in
theorem clone_any (b off n c : Nat) (vals : List Value) (w : World) (hn : vals.length = n) (hp : 0 < n) (hbig : n ≤ 1073741824) (hc : ∀ j u, vals[j]? = some u → w.cell? ⟨b, off + j, none⟩ = some u) (h1 : ∀ u ∈ vals, u.oneCell' = true) :
    Calls Try.prog 38 #[.slice (some ⟨b, off, none⟩) n c] w fun e w' => ∃ g cap, e = .returned (.slice (some ⟨g, 0, none⟩) n cap) ∧ RowV w' g 9 cap vals ∧ w.heap.size ≤ g ∧ Below w.heap.size w w' := by
  obtain ⟨i0, hi, hz0, hz1, hz2⟩ := info_parts info9
  have hnil := fun w => Lib.run_eql_slice_nil (P := Try.prog) w 29 9 (some ⟨b, off, none⟩) n c 0 0 Try.underlying29
  have HC : Hid (∀ j u, vals[j]? = some u → w.cell? ⟨b, off + j, none⟩ = some u) := hc
  have H1 : Hid (∀ u ∈ vals, u.oneCell' = true) := h1
  have HN : Hid (vals.length = n) := hn
  clear hc h1 hn
  go_enter Try.func38, Try.ntmps38
  go_wp2_with (at_builtin; refine wpList_append_own _ rfl _ _ 29 rfl w.heap.size 9 i0 (.string ⟨#[]⟩) 1 16 Try.underlying29 hi hz0 hz1 hz2 rfl (by decide) _ _ _ rfl (World.ownsRow_made w #[] 0 (Nat.le_refl _) (Nat.zero_le _) rfl) ⟨b, off, none⟩ n c vals rfl ?qc1 ?qc2 ?qc3 ?qc4 ?qc5 ?qc6 ?_)
  case qc1 => rw [HN.out]; omega
  case qc2 =>
    intro j u hj
    rw [Addr.add_lit]
    exact Lib.cell?_alloc_some _ (HC.out j u hj)
  case qc3 => exact H1.out
  case qc4 => unfold maxLen; omega
  case qc5 => omega
  case qc6 => simp
  intro v' w1 hown hgrow hnil'
  obtain ⟨g, cap, hv, hg, hrow⟩ := rowV_of_owns hown hp
  rw [hv]
  have HR : Hid (RowV w1 g 9 cap vals) := hrow
  have HB : Hid (Below w.heap.size w w1) := ((Below.refl _ w).alloc (Nat.le_refl _) _).grown hgrow (by simp) (by intro k hk; simp [Value.ownBlock] at hk; omega)
  clear hown hgrow hnil' hv hrow
  go_wp2
  go_ret
  exact ⟨g, cap, rfl, HR.out, hg, HB.out⟩
end Go.Proofs.Qxb6617214a
