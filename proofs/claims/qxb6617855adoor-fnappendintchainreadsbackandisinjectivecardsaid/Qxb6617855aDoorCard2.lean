/-
  PROVED: 'Rows.FnAppendIntChainReadsBackAndIsInjectiveCardSaid': the row's statement by the walk (the frame: the guide's shells/bytes-and-an-int, its builder turned to a row that lists variables, after Derived/Test/CuttiedProofs), then the tied card by the builder's one call (after Derived/Test/ToyasCard).
-/
import Derived.Test.Qxb6617855aDoorRows
import Derived.Test.Qxb6617855aDoorTie
import Derived.Test.Qxb6617855aDoorCards
import Derived.Test.Qxb6617855aDoorY
import Derived.Test.Qxb6617855aDoorW
import Derived.SevenTiedAt
namespace Go.Proofs.Qxb6617855aDoor.fnAppendIntChainReadsBackAndIsInjective
open Go.ChangeShapes Go.WideShapes Go.ChangeAt Go.RowKit
set_option linter.unusedVariables false

set_option maxRecDepth 100000 in
theorem lifted (os : Os) (started : os.Started) (H : Type) (enc : TypeId × Value → H) :
    ReturnsInHanded {} Tryd.checked os 4 .any (fun w args => (Rows.fnAppendIntChainReadsBackAndIsInjectiveSpec.pre enc Tryd.prog Tryd.f4 Rows.fnAppendIntChainReadsBackAndIsInjectiveRow.domain false w args ∧ laidMet Tryd.prog laid3 w) ∧ sizedMet enc Tryd.prog Tryd.f4 (OpenSpec.ofChange Rows.fnAppendIntChainReadsBackAndIsInjectiveSpec) false w args)
      (Rows.fnAppendIntChainReadsBackAndIsInjectiveSpec.post enc Tryd.prog Tryd.f4 false true false false) := by
  refine returnsInHanded_of_change_and (C := Tryd.checked) (X := fun w _ => laidMet Tryd.prog laid3 w) (fun _ _ _ hh h => h.of_heap hh) own started (by kernel_rfl) Tryd.func4
    (ChangeSpec.witness_at (enc := enc) (C := Tryd.checked) (os := os) (X := fun w _ => laidMet Tryd.prog laid3 w) false (laidIn Tryd.prog os) #[.slice none 0 0, .int .i64 0, .int .i64 0] 8 rfl (by kernel_rfl) (by kernel_rfl) (by kernel_rfl) (by kernel_rfl) (by kernel_rfl) (laid_met os _)) ?_
  intro W base args ds gs before hval0 hW hcnd _ hL _
  have hval : ∀ (j : Nat) t v, Tryd.f4.params[j]? = some t → args[j]? = some v → Value.okWide Tryd.prog W .any base t v := hval0
  have hW' := hW
  obtain ⟨p, q, hA0, hV, rfl, hfz, hnd⟩ := hW
  have hA : DataW.TrodAll enc Tryd.prog W 0 (fun _ => true) true Tryd.f4.params.toList args.toList ds p := hA0
  rw [Tryd.params4] at hA hval
  obtain ⟨v0, vs0, d0, ds0, p0, q0, hargs, rfl, rfl, h0, r0⟩ := trodAll_cons hA
  obtain ⟨v1, vs1, d1, ds1, p1, q1, rfl, rfl, rfl, h1, r1⟩ := trodAll_cons r0
  obtain ⟨v2, vs2, d2, ds2, p2, q2, rfl, rfl, rfl, h2, r2⟩ := trodAll_cons r1
  obtain ⟨rfl, rfl, rfl⟩ := trodAll_nil r2
  obtain rfl : args = #[v0, v1, v2] := by cases args; simp_all
  obtain ⟨rfl, rfl⟩ := trodVars_none hV
  have k0 := h0
  have lt0 : ∀ x ∈ p0, x.block < W.heap.size := by obtain ⟨m, hm⟩ := k0; exact DataW.trod_lt m _ _ _ hm
  obtain ⟨a0, c0, l0, rfl, hB, hlen, hnil⟩ : ∃ a c l, v0 = .slice a (l : List UInt8).length c ∧ BytesA W a l ∧ l.length ≤ 9223372036854775807 ∧ (a = none → l.length = 0 ∧ c = 0) := by
    obtain ⟨a, l, c, rfl⟩ := okWide_slice Tryd.underlying22 (hval 0 22 v0 rfl rfl)
    obtain ⟨fuel, hf⟩ := h0
    exact bytes_in (by simpa [Value.cells] using hf)
  obtain ⟨a1, rfl, rfl, rfl, w1⟩ := open_int Tryd.underlying2 (hval 1 2 v1 rfl rfl) h1
  have b1 : -9223372036854775808 ≤ a1 ∧ a1 ≤ 9223372036854775807 := by simpa [Lit.wf, IntKind.min, IntKind.max, IntKind.signed, IntKind.bits] using w1
  obtain ⟨a2, rfl, rfl, rfl, w2⟩ := open_int Tryd.underlying2 (hval 2 2 v2 rfl rfl) h2
  have b2 : -9223372036854775808 ≤ a2 ∧ a2 ≤ 9223372036854775807 := by simpa [Lit.wf, IntKind.min, IntKind.max, IntKind.signed, IntKind.bits] using w2
  clear hA0 hval0
  refine (law2_any a0 c0 l0 a1 a2 W hB hlen hnil b1.1 b1.2 b2.1 b2.2 (tab_of_laid hL)).mono fun e W' ⟨he, bel⟩ => ?_
  subst he
  exact ⟨_, rfl, _, _, _, [], _, [], hW', trodAll_mk1 (shut_bool Tryd.underlying4 _), (trodAll_cons_mk (Below.trod laidOut (by kernel_rfl) (of_decide_eq_true (by kernel_rfl)) k0 bel lt0) (trodAll_cons_mk (shut_int Tryd.underlying2 w1) (trodAll_cons_mk (shut_int Tryd.underlying2 w2) trodAll_mk0))), rfl, bel.frame _, fun h => by cases h⟩

theorem over : Rows.FnAppendIntChainReadsBackAndIsInjectiveSaid :=
  OpenClaim.holds_of_wide 4 Tryd.f4 rfl rfl rfl rfl rfl rfl rfl ⟨rfl, rfl, rfl, rfl, rfl⟩ rfl rfl rfl rfl rfl (by kernel_rfl) Tryd.func4 (by kernel_rfl)
    (of_decide_eq_true (by kernel_rfl)) (by unfold Func.isWrapper; first | (rw [if_pos (by decide +kernel)]; kernel_rfl) | (rw [if_neg (by decide +kernel)]; exact ⟨rfl, rfl⟩))
    (fun os started H enc _ => lifted os started H enc)

/-- THE STATEMENT -/
theorem proved : Rows.FnAppendIntChainReadsBackAndIsInjectiveCardSaid :=
  Claim7.holds_tied_plain_at .later [] [.data, .data, .data] true (true, "fbbcaf9318e6371c08f4a4489d5a374b9f7b3aa57bef2ffeef10da3b51f95cbf") false
    over (fun _ h => by cases h) (by kernel_rfl) (fun _ h => by cases h) fnAppendIntChainReadsBackAndIsInjective_row_tie rfl ⟨rfl, rfl⟩ (by kernel_rfl) rfl
    (fun f fn hf hfn => by
      obtain rfl : f = 4 := Option.some.inj ((show Tryd.prog.funcNamed Rows.fnAppendIntChainReadsBackAndIsInjectiveRow.func = some 4 by kernel_rfl).symm.trans hf) |>.symm
      obtain rfl : fn = Tryd.f4 := (Option.some.inj (Tryd.func4.symm.trans hfn)).symm
      exact ⟨by kernel_rfl, fun j t ht => by
        rw [Tryd.params4] at ht
        have h3 : t = 22 ∨ t = 2 := by
          rcases j with _ | j
          · exact .inl (by simpa using ht.symm)
          rcases j with _ | j
          · exact .inr (by simpa using ht.symm)
          rcases j with _ | j
          · exact .inr (by simpa using ht.symm)
          simp at ht
        rcases h3 with rfl | rfl
        · exact (show Tryd.prog.wantsStandIn 22 = false by kernel_rfl)
        · exact (show Tryd.prog.wantsStandIn 2 = false by kernel_rfl)⟩)
    (by kernel_rfl)
end Go.Proofs.Qxb6617855aDoor.fnAppendIntChainReadsBackAndIsInjective
