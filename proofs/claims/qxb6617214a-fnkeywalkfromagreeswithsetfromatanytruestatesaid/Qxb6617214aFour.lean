/-
  PROVED: 'Rows.FnKeyWalkFromAgreesWithSetFromAtAnyTrueStateSaid'. The frame after the guide's shell for a law over a slice (howto/shells/bytes-and-an-int), turned to [][]string and eleven parameters.
-/
import Derived.Test.Qxb6617214aRows
import Derived.Test.Qxb6617214aM
import Derived.Test.Qxb6617214aN
import Derived.Test.Qxb6617214aO
import Derived.ProofKit
import Derived.OpenShut
import Derived.ShutString
import Derived.ChangeOld
import Derived.Below
namespace Go.Proofs.Qxb6617214a.fnKeyWalkFromAgreesWithSetFromAtAnyTrueState
open Go.ChangeShapes Go.WideShapes Go.ChangeAt Go.RowKit
open Go.ChangeMaps (open_string shut_string)
set_option linter.unusedVariables false

theorem own : ownKnob Try.prog.godebug = none := by kernel_rfl
theorem laidOut : laidOutB Try.prog = true := by kernel_rfl

theorem walk (a : Option Addr) (c : Nat) (css : List (List ByteArray)) (ch : Int) (ns wo : Bool) (wch : Int) (wat : ByteArray) (wpast wfound : Bool) (wkey k : ByteArray) (past : Bool) (w : World) (hA : ChunksA w a css) (hnil : a = none → c = 0) :
    Calls Try.prog 6 #[.slice a css.length c, .int .u64 ch, .bool ns, .bool wo, .int .u64 wch, .string wat, .bool wpast, .bool wfound, .string wkey, .string k, .bool past] w fun e w' => e = .returned (.bool true) ∧ Below w.heap.size w w' := by
  cases ns with
  | false => exact law6_set a c css ch wch wo wpast wfound past wat wkey k w hA hnil
  | true => exact law6_nil a c css ch wch wo wpast wfound past wat wkey k w hA hnil

set_option maxRecDepth 100000 in
theorem lifted (os : Os) (started : os.Started) (H : Type) (enc : TypeId × Value → H) :
    ReturnsInHanded {} Try.checked os 6 .any (Rows.fnKeyWalkFromAgreesWithSetFromAtAnyTrueStateSpec.pre6 enc Try.prog Try.f6 Rows.fnKeyWalkFromAgreesWithSetFromAtAnyTrueStateRow.domain false) (Rows.fnKeyWalkFromAgreesWithSetFromAtAnyTrueStateSpec.post enc Try.prog Try.f6 false true false false) := by
  refine returnsInHanded_of_change (C := Try.checked) own started (by kernel_rfl) Try.func6
    (ChangeSpec.witness6 (enc := enc) (C := Try.checked) false ⟨#[], #[.slice none 0 0, .int .u64 0, .bool false, .bool false, .int .u64 0, .string ByteArray.empty, .bool false, .bool false, .string ByteArray.empty, .string ByteArray.empty, .bool false], []⟩ 8 (by kernel_rfl) (by kernel_rfl) (by kernel_rfl) (by kernel_rfl)) ?_
  intro W base args ds gs before hval0 hW hcnd _
  have hval : ∀ (j : Nat) t v, Try.f6.params[j]? = some t → args[j]? = some v → Value.okWide Try.prog W .any base t v := hval0
  have hW' := hW
  obtain ⟨p, q, hA0, hV, rfl, hfz, hnd⟩ := hW
  have hA : DataW.TrodAll enc Try.prog W 0 (fun _ => true) true Try.f6.params.toList args.toList ds p := hA0
  rw [Try.params6] at hA hval
  obtain ⟨v0, vs0, d0, ds0, p0, q0, hargs, rfl, rfl, h0, r0⟩ := trodAll_cons hA
  obtain ⟨v1, vs1, d1, ds1, p1, q1, rfl, rfl, rfl, h1, r1⟩ := trodAll_cons r0
  obtain ⟨v2, vs2, d2, ds2, p2, q2, rfl, rfl, rfl, h2, r2⟩ := trodAll_cons r1
  obtain ⟨v3, vs3, d3, ds3, p3, q3, rfl, rfl, rfl, h3, r3⟩ := trodAll_cons r2
  obtain ⟨v4, vs4, d4, ds4, p4, q4, rfl, rfl, rfl, h4, r4⟩ := trodAll_cons r3
  obtain ⟨v5, vs5, d5, ds5, p5, q5, rfl, rfl, rfl, h5, r5⟩ := trodAll_cons r4
  obtain ⟨v6, vs6, d6, ds6, p6, q6, rfl, rfl, rfl, h6, r6⟩ := trodAll_cons r5
  obtain ⟨v7, vs7, d7, ds7, p7, q7, rfl, rfl, rfl, h7, r7⟩ := trodAll_cons r6
  obtain ⟨v8, vs8, d8, ds8, p8, q8, rfl, rfl, rfl, h8, r8⟩ := trodAll_cons r7
  obtain ⟨v9, vs9, d9, ds9, p9, q9, rfl, rfl, rfl, h9, r9⟩ := trodAll_cons r8
  obtain ⟨v10, vs10, d10, ds10, p10, q10, rfl, rfl, rfl, h10, r10⟩ := trodAll_cons r9
  obtain ⟨rfl, rfl, rfl⟩ := trodAll_nil r10
  obtain rfl : args = #[v0, v1, v2, v3, v4, v5, v6, v7, v8, v9, v10] := by cases args; simp_all
  obtain ⟨rfl, rfl⟩ := trodVars_none hV
  have k0 := h0
  have lt0 : ∀ x ∈ p0, x.block < W.heap.size := by obtain ⟨m, hm⟩ := k0; exact DataW.trod_lt m _ _ _ hm
  obtain ⟨a0, c0, css, rfl, hA1, hnil⟩ : ∃ a c css, v0 = .slice a (css : List (List ByteArray)).length c ∧ ChunksA W a css ∧ (a = none → c = 0) := by
    obtain ⟨a, l, c, rfl⟩ := okWide_slice Try.underlying22 (hval 0 22 v0 rfl rfl)
    obtain ⟨fuel, hf⟩ := h0
    exact open_chunksA (by simpa [Value.cells] using hf)
  obtain ⟨a1, rfl, rfl, rfl, w1⟩ := open_int Try.underlying23 (hval 1 23 v1 rfl rfl) h1
  obtain ⟨a2, rfl, rfl, rfl⟩ := open_bool Try.underlying4 (hval 2 4 v2 rfl rfl) h2
  obtain ⟨a3, rfl, rfl, rfl⟩ := open_bool Try.underlying4 (hval 3 4 v3 rfl rfl) h3
  obtain ⟨a4, rfl, rfl, rfl, w4⟩ := open_int Try.underlying23 (hval 4 23 v4 rfl rfl) h4
  obtain ⟨a5, rfl, rfl, rfl, w5⟩ := open_string Try.underlying9 (hval 5 9 v5 rfl rfl) h5
  obtain ⟨a6, rfl, rfl, rfl⟩ := open_bool Try.underlying4 (hval 6 4 v6 rfl rfl) h6
  obtain ⟨a7, rfl, rfl, rfl⟩ := open_bool Try.underlying4 (hval 7 4 v7 rfl rfl) h7
  obtain ⟨a8, rfl, rfl, rfl, w8⟩ := open_string Try.underlying9 (hval 8 9 v8 rfl rfl) h8
  obtain ⟨a9, rfl, rfl, rfl, w9⟩ := open_string Try.underlying9 (hval 9 9 v9 rfl rfl) h9
  obtain ⟨a10, rfl, rfl, rfl⟩ := open_bool Try.underlying4 (hval 10 4 v10 rfl rfl) h10
  clear hA0 hval0
  refine (walk a0 c0 css a1 a2 a3 a4 a5 a6 a7 a8 a9 a10 W hA1 hnil).mono fun e W' ⟨he, bel⟩ => ?_
  subst he
  exact ⟨_, rfl, _, _, _, [], _, [], hW', trodAll_mk1 (shut_bool Try.underlying4 _),
    (trodAll_cons_mk (Below.trod laidOut (by kernel_rfl) (of_decide_eq_true (by kernel_rfl)) k0 bel lt0) (trodAll_cons_mk (shut_int Try.underlying23 w1) (trodAll_cons_mk (shut_bool Try.underlying4 a2) (trodAll_cons_mk (shut_bool Try.underlying4 a3) (trodAll_cons_mk (shut_int Try.underlying23 w4)
      (trodAll_cons_mk (shut_string Try.underlying9 w5) (trodAll_cons_mk (shut_bool Try.underlying4 a6) (trodAll_cons_mk (shut_bool Try.underlying4 a7) (trodAll_cons_mk (shut_string Try.underlying9 w8) (trodAll_cons_mk (shut_string Try.underlying9 w9) (trodAll_cons_mk (shut_bool Try.underlying4 a10) trodAll_mk0))))))))))), rfl, bel.frame _, fun h => by cases h⟩

theorem over : Rows.fnKeyWalkFromAgreesWithSetFromAtAnyTrueStateRow.holds Try.pinned (OpenSpec.ofChange Rows.fnKeyWalkFromAgreesWithSetFromAtAnyTrueStateSpec) :=
  OpenClaim.holds_of_wide 6 Try.f6 rfl rfl rfl rfl rfl rfl rfl ⟨rfl, rfl, rfl, rfl, rfl⟩ rfl rfl rfl rfl rfl (by kernel_rfl) Try.func6 (by kernel_rfl)
    (of_decide_eq_true (by kernel_rfl)) (by unfold Func.isWrapper; first | (rw [if_pos (by decide +kernel)]; kernel_rfl) | (rw [if_neg (by decide +kernel)]; exact ⟨rfl, rfl⟩))
    (fun os started H enc _ => lifted os started H enc)

/-- THE STATEMENT -/
theorem proved : Rows.FnKeyWalkFromAgreesWithSetFromAtAnyTrueStateSaid := over
end Go.Proofs.Qxb6617214a.fnKeyWalkFromAgreesWithSetFromAtAnyTrueState
