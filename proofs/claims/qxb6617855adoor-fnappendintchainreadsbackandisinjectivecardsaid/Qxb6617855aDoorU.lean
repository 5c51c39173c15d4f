/-
  Walks: internal/strconv.AppendInt (12), strconv.AppendInt (11) at base 10, bencode.AppendInt (7), with the whole frame.
-/
import Derived.Test.Qxb6617855aDoorT
namespace Go.Proofs.Qxb6617855aDoor
open Go.RowKit Go.Lib Go.Sort Go.Shelf
set_option linter.unusedVariables false

section
variable {B n : Nat} {sv : Value} {xs : List Value} {w : World}
theorem Apd.of {w1 w2 : World} {v1 : Value} {l1 l2 : List UInt8} {e : Ending} (h : App B sv w w1 v1 (n + l1.length) (xs ++ Lib.byteCells l1)) (k : Apd B v1 w1 w2 (n + l1.length) (xs ++ Lib.byteCells l1) l2 e) : Apd B sv w w2 n xs (l1 ++ l2) e := by
  obtain ⟨v', he, ha⟩ := k.ex
  refine ⟨v', he, ?_⟩
  have := h.trans ha
  rw [List.append_assoc, ← Lib.byteCells_append, Nat.add_assoc, ← List.length_append] at this
  exact this

set_option maxHeartbeats 4000000 in
set_option maxRecDepth 100000 in
theorem int_in (i : Int) (h0 : -9223372036854775808 ≤ i) (h1 : i ≤ 9223372036854775807) (hown : w.ownsRow B 5 1 sv n xs) (hBw : B ≤ w.heap.size) (hlim : n + 21 ≤ 140737488355328)
    (htab : Lib.TabBelow Tryd.prog B w pow10Name .u64 Lib.pow10Tab) :
    Calls Tryd.prog 12 #[sv, .int .i64 i, .int .i64 10] w fun e w' => Apd B sv w w' n xs (Lib.itoa i) e := by
  by_cases hneg : i < 0
  · obtain ⟨u, rfl⟩ : ∃ u : Nat, i = -(u : Int) := ⟨i.natAbs, by omega⟩
    have hu1 : 1 ≤ u := by omega
    have hu64 : u < 18446744073709551616 := by omega
    have hwr : IntKind.u64.wrap (-IntKind.u64.wrap (-(u : Int))) = (u : Int) := by rw [IntKind.wrap_u64, IntKind.wrap_u64]; omega
    rw [Lib.itoa_neg u hu1]
    have HO : Hid (w.ownsRow B 5 1 sv n xs) := hown
    have HT : Hid (Lib.TabBelow Tryd.prog B w pow10Name .u64 Lib.pow10Tab) := htab
    clear hown htab
    go_enter Tryd.func12, Tryd.ntmps12
    go_wp2_with (at_builtin; refine wpList_app rfl _ _ rfl B _ n xs rfl (HO.out.alloc _) ⟨w.heap.size, 0, none⟩ 1 1 [.int .u8 45] rfl (by omega) rfl (new_one w 45) (one_one 45) (by omega) (by have := (below_one w 45).size; omega) ?_)
    intro v1 w1 ha
    have HA : Hid (App B sv w w1 v1 (n + 1) (xs ++ [.int .u8 45])) := ha.after (below_one w 45)
    clear ha
    have HB : Hid (Below B w w1) := HA.out.below HO.out hBw
    go_wp2_with fail
    refine (uint_any u hu64 HA.out.own (by have := HB.out.size; omega) (by omega) (HT.out w1 HB.out)).mono ?_
    rintro e w2 hx
    have HX : Hid (Apd B sv w w2 n xs (45 :: Lib.decDigits u) e) := Apd.of (l1 := [45]) HA.out hx
    clear hx
    obtain ⟨v2, rfl, ha2⟩ := HX.out.ex
    have HA2 : Hid (App B sv w w2 v2 (n + (45 :: Lib.decDigits u).length) (xs ++ Lib.byteCells (45 :: Lib.decDigits u))) := ha2
    clear ha2 HX HA
    go_wp2
    go_ret
    exact ⟨_, rfl, HA2.out⟩
  · obtain ⟨u, rfl⟩ : ∃ u : Nat, i = u := ⟨i.toNat, by omega⟩
    have hu64 : u < 18446744073709551616 := by omega
    rw [Lib.itoa_nonneg]
    have H13 : Hid _ := fun (_ : True) => uint_any (sv := sv) u hu64 hown hBw (by omega) htab.here
    clear hown htab
    go_enter Tryd.func12, Tryd.ntmps12
    go_wp2_with fail
    refine (H13.out trivial).mono ?_
    rintro e w2 hx
    obtain ⟨v2, rfl, ha2⟩ := hx.ex
    have HA2 : Hid (App B sv w w2 v2 (n + (Lib.decDigits u).length) (xs ++ Lib.byteCells (Lib.decDigits u))) := ha2
    clear ha2 hx
    go_wp2
    first | go_ret | go_ret2
    exact ⟨_, rfl, HA2.out⟩

theorem int_out (i : Int) (h0 : -9223372036854775808 ≤ i) (h1 : i ≤ 9223372036854775807) (hown : w.ownsRow B 5 1 sv n xs) (hBw : B ≤ w.heap.size) (hlim : n + 21 ≤ 140737488355328)
    (htab : Lib.TabBelow Tryd.prog B w pow10Name .u64 Lib.pow10Tab) :
    Calls Tryd.prog 11 #[sv, .int .i64 i, .int .i64 10] w fun e w' => Apd B sv w w' n xs (Lib.itoa i) e := by
  have H12 : Hid _ := fun (_ : True) => int_in (sv := sv) i h0 h1 hown hBw hlim htab
  clear hown htab
  go_enter Tryd.func11, Tryd.ntmps11
  go_wp2_with fail
  refine (H12.out trivial).mono ?_
  rintro e w2 hx
  obtain ⟨v2, rfl, ha2⟩ := hx.ex
  have HA2 : Hid (App B sv w w2 v2 (n + (Lib.itoa i).length) (xs ++ Lib.byteCells (Lib.itoa i))) := ha2
  clear ha2 hx
  go_wp2
  go_ret
  exact ⟨_, rfl, HA2.out⟩

/-- A bencoded integer. -/
def enc (i : Int) : List UInt8 := 105 :: (Lib.itoa i ++ [101])

set_option maxHeartbeats 4000000 in
set_option maxRecDepth 100000 in
theorem bencode_any (i : Int) (h0 : -9223372036854775808 ≤ i) (h1 : i ≤ 9223372036854775807) (hown : w.ownsRow B 5 1 sv n xs) (hBw : B ≤ w.heap.size) (hlim : n + 23 ≤ 140737488355328)
    (htab : Lib.TabBelow Tryd.prog B w pow10Name .u64 Lib.pow10Tab) :
    Calls Tryd.prog 7 #[sv, .int .i64 i] w fun e w' => Apd B sv w w' n xs (enc i) e := by
  have HO : Hid (w.ownsRow B 5 1 sv n xs) := hown
  have HT : Hid (Lib.TabBelow Tryd.prog B w pow10Name .u64 Lib.pow10Tab) := htab
  have hil := Lib.itoa_length_le i h0 h1
  clear hown htab
  go_enter Tryd.func7, Tryd.ntmps7
  go_wp2_with (at_builtin; refine wpList_app rfl _ _ rfl B _ n xs rfl (HO.out.alloc _) ⟨w.heap.size, 0, none⟩ 1 1 [.int .u8 105] rfl (by omega) rfl (new_one w 105) (one_one 105) (by omega) (by have := (below_one w 105).size; omega) ?_)
  intro v1 w1 ha
  have HA : Hid (App B sv w w1 v1 (n + 1) (xs ++ [.int .u8 105])) := ha.after (below_one w 105)
  clear ha
  have HB : Hid (Below B w w1) := HA.out.below HO.out hBw
  go_wp2_with fail
  refine (int_out i h0 h1 HA.out.own (by have := HB.out.size; omega) (by omega) (HT.out.on HB.out)).mono ?_
  rintro e w2 hx
  have HX : Hid (Apd B sv w w2 n xs (105 :: Lib.itoa i) e) := Apd.of (l1 := [105]) HA.out hx
  clear hx
  obtain ⟨v2, rfl, ha2⟩ := HX.out.ex
  have HA2 : Hid (App B sv w w2 v2 (n + (105 :: Lib.itoa i).length) (xs ++ Lib.byteCells (105 :: Lib.itoa i))) := ha2
  clear ha2 HX HA HB
  have HB2 : Hid (Below B w w2) := HA2.out.below HO.out hBw
  have hln : (105 :: Lib.itoa i).length = (Lib.itoa i).length + 1 := rfl
  go_wp2_with (at_builtin; refine wpList_app rfl _ _ rfl B _ _ _ rfl (HA2.out.own.alloc _) ⟨w2.heap.size, 0, none⟩ 1 1 [.int .u8 101] rfl (by omega) rfl (new_one w2 101) (one_one 101) (by omega) (by have := (below_one w2 101).size; have := HB2.out.size; omega) ?_)
  intro v3 w3 ha
  rw [← List.append_assoc] at ha
  have HX : Hid (Apd B sv w w3 n xs (enc i) (.returned v3)) := Apd.of (l1 := 105 :: Lib.itoa i) HA2.out ⟨v3, rfl, ha.after (below_one w2 101)⟩
  clear ha
  go_wp2
  go_ret
  exact HX.out
end
end Go.Proofs.Qxb6617855aDoor
