/-
  Law 6 (FnKeyWalkFromAgreesWithSetFromAtAnyTrueState): the walk, without a set.
-/
import Derived.Test.Qxb6617214aL
namespace Go.Proofs.Qxb6617214a
open Go.RowKit Go.Deep
set_option linter.unusedVariables false

set_option maxRecDepth 100000 in
set_option maxHeartbeats 4000000 in
theorem law6_nil (a : Option Addr) (c : Nat) (css : List (List ByteArray)) (ch wch : Int) (wo wpast wfound past : Bool) (wat wkey k : ByteArray) (w : World) (hA : ChunksA w a css) (hnil : a = none → c = 0) :
    Calls Try.prog 6 #[.slice a css.length c, .int .u64 ch, .bool true, .bool wo, .int .u64 wch, .string wat, .bool wpast, .bool wfound, .string wkey, .string k, .bool past] w fun e w' => e = .returned (.bool true) ∧ Below w.heap.size w w' := by
  have H28 : Hid _ := fun (_ : True) => zzBytes6_any a c css.length css ch wch true wo wpast wfound past wat wkey k w hA rfl
  have H9 : Hid _ := fun (_ : True) => chunksBytes_any a c css.length css w hA rfl
  have H10 : Hid _ := fun (_ : True) => chunksOK_any a c css.length css w hA rfl
  go_enter Try.func6, Try.ntmps6
  go_wp2_with fail
  refine (H28.out trivial).mono ?_
  rintro e w ⟨⟨r, rfl, hr⟩, rfl⟩
  cases r with
  | false =>
    go_wp2
    go_ret
    exact ⟨rfl, Below.refl _ _⟩
  | true =>
  have hb := hr rfl
  have ht : tot css ≤ 1073741824 := by omega
  have hl : css.length ≤ 1073741824 := by omega
  clear hr H28
  have HT : Hid _ := ht
  have HL : Hid _ := hl
  clear hb ht
  go_wp2_with fail
  refine (H9.out trivial).mono ?_
  rintro e w ⟨r, rfl, hr0, hr1, rfl⟩
  go_wp2_with (go_at_call 8; refine (zzAdd_any _ _ _ (by omega) (by omega)).mono ?_; rintro e w ⟨r, rfl, hr0, hr1, rfl⟩)
  · go_ret
    exact ⟨rfl, Below.refl _ _⟩
  refine (H10.out trivial).mono ?_
  rintro e w ⟨⟨r, rfl, hr⟩, rfl⟩
  cases r with
  | false =>
    go_wp2
    go_ret
    exact ⟨rfl, Below.refl _ _⟩
  | true =>
  have HOK : Hid (OK css) := hr.1 rfl
  clear hr H9 H10
  have HA : Hid (ChunksA w a css) := hA
  clear hA
  -- old := flatten(chunks)
  go_wp2_with fail
  refine (flatten_any a c css.length css w HL.out HT.out (ok_ne HOK.out) HA.out rfl).mono ?_
  rintro e w1 ⟨rfl, hrow1, hbel1, hsz1⟩
  have HO1 : Hid (StrsA w1 (some ⟨w.heap.size, 0, none⟩) css.flatten) := strsA_of_row hrow1 rfl HT.out
  have HB1 : Hid (Below w.heap.size w w1) := hbel1
  have HS1 : Hid (w1.heap.size = w.heap.size + 1) := hsz1
  have HA1 : Hid (ChunksA w1 a css) := HA.out.keep (keep_below hbel1)
  clear hrow1 hbel1 hsz1
  obtain ⟨T, hT⟩ : ∃ T, tot css = T := ⟨_, rfl⟩
  rw [hT]
  have HTT : Hid (css.flatten.length = T) := hT
  clear hT
  cases wo
  all_goals
    go_wp2_with fail
    refine (cloneChunks_any a c css.length _ css w1 rfl HL.out HT.out (ok_ne HOK.out) HA1.out rfl hnil).mono ?_
    rintro e w2 ⟨v, rfl, hcl⟩
    obtain ⟨a2, hv, hA2, hb2, hs2⟩ := clV_form hcl rfl HL.out HT.out
    rw [hv]
    have HB2 : Hid (Below w.heap.size w w2) := HB1.out.trans (hb2.mono (by rw [HS1.out]; omega))
    clear hv hcl hA2 hb2 hs2
    have hpn := fun w => eql_none none w
    simp only [Option.isNone_none] at hpn
    have hwk := walk_made (w2.alloc (.cells #[.slice a2 css.length css.length, .int .u64 ch] 54)) none wch wat wkey wpast wfound
    have hse : (w2.alloc (.cells #[.slice a2 css.length css.length, .int .u64 ch] 54)).heap.size = w2.heap.size + 1 := by simp
    rw [hse] at hwk
    have HWK : Hid _ := hwk
    clear hwk hse
    go_wp2_with (first | (go_at_call 14; refine (makeSet_any _ _ _ _ _).mono ?_; rintro e w3 ⟨rfl, rfl⟩) | (go_at_call 25; refine (makeWalk_any _ _ _ _ _ _ _).mono ?_; rintro e w4 ⟨rfl, rfl⟩))
    refine (zzWalkFrom_nil _ k past _).mono ?_
    rintro e w5 ⟨rfl, rfl⟩
    go_wp2_with fail
    refine (walkState_any HWK.out).mono ?_
    rintro e w6 ⟨rfl, q, rfl⟩
    go_wp2
    go_ret
    exact ⟨rfl, below_drewN' ((HB2.out.alloc HB2.out.size _).alloc (by have := HB2.out.size; simp; omega) _) q⟩
end Go.Proofs.Qxb6617214a
