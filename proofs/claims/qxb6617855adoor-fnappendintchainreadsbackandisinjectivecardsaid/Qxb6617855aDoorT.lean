/-
  Walks: internal/strconv.AppendUint (13) and AppendInt (12), strconv.AppendInt (11) at base 10, bencode.AppendInt (7), WITH THE WHOLE FRAME (App). The shelf's contracts serve for small, numDigits and formatBase10; after the shelf's own way through AppendUint.
-/
import Derived.Test.Qxb6617855aDoorS
import Derived.Test.Qxb6617855aDoorLays
import Derived.Lib.ItoaLen
import Derived.Lib.Hide
import Derived.BigCall
namespace Go.Proofs.Qxb6617855aDoor
open Go.RowKit Go.Lib Go.Sort Go.Shelf
set_option linter.unusedVariables false

/-- The table's name, as the given row bears it. -/
abbrev pow10Name : String := Rows.fnAppendIntIsBPlusCanonicalDecimalRow.named.headD ""

theorem small_laid (i : Nat) (h : i < 100) (w : World) : Calls Tryd.prog 14 #[.int .i64 i] w fun e w' => e = .returned (.string ⟨(Lib.decDigits i).toArray⟩) ∧ w' = w :=
  Any.internal_strconv_small (ρ := Tryd.lays176_ren) { Tryd.lays176 with } i h w
theorem numDigits_laid (u : Nat) (h1 : 1 ≤ u) (h2 : u < 18446744073709551616) (w : World) (htab : Lib.TabIs Tryd.prog w pow10Name .u64 Lib.pow10Tab) :
    Calls Tryd.prog 15 #[.int .u64 u] w fun e w' => e = .returned (.int .i64 (Lib.nDigits u)) ∧ w' = w :=
  Any.internal_strconv_numDigits (ρ := Tryd.lays176_ren) { Tryd.lays176 with } u h1 h2 w htab
theorem format_laid (blk off cap : Nat) (u : Nat) (d : Array UInt8) (w : World) (hH : Holds (fun (b : UInt8) => Value.int .u8 (b.toNat : Int)) w blk off d) (hu : u < 10 ^ d.size) (hu64 : u < 18446744073709551616) (hsz : d.size < 4611686018427387904) :
    Calls Tryd.prog 16 #[.slice (some ⟨blk, off, none⟩) d.size cap, .int .u64 u] w fun e w' =>
      e = .returned (.tuple #[]) ∧ ∃ (n v' : Nat) (dk : Array UInt8), w' = (putRow (fun (b : UInt8) => Value.int .u8 (b.toNat : Int)) w blk off dk).drewN n ∧ FmtInv d.size u 0 v' dk :=
  Any.internal_strconv_formatBase10 (ρ := Tryd.lays176_ren) { Tryd.lays176 with } blk off cap u d w hH hu hu64 hsz

/-- What comes back of an appender of the bytes l. -/
structure Apd (B : Nat) (sv : Value) (w w' : World) (n : Nat) (xs : List Value) (l : List UInt8) (e : Ending) : Prop where
  ex : ∃ v', e = .returned v' ∧ App B sv w w' v' (n + l.length) (xs ++ Lib.byteCells l)

theorem dec_pos (u : Nat) : 0 < (Lib.decDigits u).length := by
  rw [Lib.decDigits_length, Lib.nDigits]
  split <;> omega

section
variable {B n : Nat} {sv : Value} {xs : List Value} {w : World}
set_option maxHeartbeats 4000000 in
set_option maxRecDepth 100000 in
theorem uint_small (u : Nat) (hu : u < 100) (hown : w.ownsRow B 5 1 sv n xs) (hBw : B ≤ w.heap.size) (hlim : n + 20 ≤ 140737488355328) :
    Calls Tryd.prog 13 #[sv, .int .u64 u, .int .i64 10] w fun e w' => Apd B sv w w' n xs (Lib.decDigits u) e := by
  have hsz : (⟨(Lib.decDigits u).toArray⟩ : ByteArray).size = (Lib.decDigits u).length := by simp [ByteArray.size]
  have hlen : (Lib.decDigits u).length ≤ 20 := by
    rw [Lib.decDigits_length]
    by_cases h10 : u < 10
    · rw [Lib.nDigits_small h10]; omega
    · rw [Lib.nDigits_big h10, Lib.nDigits_small (show u / 10 < 10 by omega)]; omega
  have hp := dec_pos u
  have H14 : Hid _ := fun (_ : True) => small_laid u hu w
  have HO : Hid (w.ownsRow B 5 1 sv n xs) := hown
  clear hown
  have hu' : (u : Int) < 100 := by omega
  go_enter Tryd.func13, Tryd.ntmps13
  go_wp2_with (first
    | (go_at_call 14; refine (H14.out trivial).mono ?_; rintro e w1 ⟨rfl, rfl⟩)
    | (at_builtin; refine wpList_app_string rfl _ _ rfl B _ n xs rfl HO.out ⟨(Lib.decDigits u).toArray⟩ rfl (by rw [hsz]; exact hp) (by rw [hsz]; omega) hBw ?_))
  intro v' w' ha
  rw [Lib.strCells_toArray] at ha
  go_wp2
  go_ret
  exact ⟨_, rfl, ha⟩

/-- 'a[:nd]' of the [24]byte. -/
theorem slice24 (b k : Nat) (hk : k ≤ 24) (W : World) : (Instr.sliceAt 34 (.pointer (some ⟨b, 0, none⟩)) none (some (.int .i64 (k : Int))) none).run Tryd.prog W = .ok (.slice (some ⟨b, 0, none⟩) k 24) W := by
  have hal : Tryd.prog.arrayLen 34 = 24 := by kernel_rfl
  rw [run_sliceAt_array_h W 34 ⟨b, 0, none⟩ (by kernel_rfl) .i64 (k : Int) (by omega) (by rw [hal]; omega)]
  rw [hal, show (sizeOf (Tryd.prog.elem 34)).run Tryd.prog W = .ok 1 W from by rfl]
  simp [slicedAt, Addr.add, Result.andThen]

/-- The digits laid in a new array: the old world, and more. -/
structure Fmt (w w2 : World) (u : Nat) : Prop where
  cells : ∀ j v, (Lib.byteCells (Lib.decDigits u))[j]? = some v → w2.cell? ((⟨w.heap.size, 0, none⟩ : Addr).add j) = some v
  bel : Below w.heap.size w w2

theorem fmt_of (w : World) (u : Nat) (h24 : Lib.nDigits u ≤ 24) {k v' : Nat} {dk : Array UInt8} (hF : FmtInv (Lib.nDigits u) u 0 v' dk) :
    Fmt w ((putRow (fun (b : UInt8) => Value.int .u8 (b.toNat : Int)) (w.alloc (.cells Lib.zeros24 34)) w.heap.size 0 dk).drewN k) u := by
  have hH0 := Lib.holds_zero0 w 34 (Lib.nDigits u) h24
  refine ⟨fun j v hj => ?_, ?_⟩
  · have hjl : j < (Lib.decDigits u).length := by
      have h5 := (List.getElem?_eq_some_iff.1 hj).1
      rwa [Lib.byteCells_length] at h5
    rw [show (Lib.byteCells (Lib.decDigits u))[j]? = some (Value.int .u8 ((Lib.decDigits u)[j].toNat : Int)) from by simp [Lib.byteCells, hjl]] at hj
    cases hj
    rw [Lib.row_is_numeral hF j hjl, Lib.add_plain, World.cell?_drewN]
    exact cell?_putRow (fun (b : UInt8) => Value.int .u8 (b.toNat : Int)) _ w.heap.size 0 _ dk hH0 (by rw [hF.size, Array.size_replicate]) j (by rw [hF.size]; rw [Lib.decDigits_length] at hjl; exact hjl)
  · obtain ⟨os, eo⟩ := Lib.fin_at w (.cells Lib.zeros24 34) dk k 0
    rw [eo]
    exact Lib.below_grow w.heap.size w (Nat.le_refl _) k os

set_option maxHeartbeats 8000000 in
set_option maxRecDepth 100000 in
theorem uint_big (u : Nat) (hu : 100 ≤ u) (hu64 : u < 18446744073709551616) (hown : w.ownsRow B 5 1 sv n xs) (hBw : B ≤ w.heap.size) (hlim : n + 20 ≤ 140737488355328)
    (htab : Lib.TabIs Tryd.prog w pow10Name .u64 Lib.pow10Tab) :
    Calls Tryd.prog 13 #[sv, .int .u64 u, .int .i64 10] w fun e w' => Apd B sv w w' n xs (Lib.decDigits u) e := by
  have hu1 : 1 ≤ u := by omega
  have hnd20 : Lib.nDigits u ≤ 20 := by have := Lib.numDigits_eq u hu1 hu64; split at this <;> omega
  have hsl := slice24 w.heap.size (Lib.nDigits u) (by omega)
  have hfmt := format_laid w.heap.size 0 24 u (Array.replicate (Lib.nDigits u) 0) (w.alloc (.cells Lib.zeros24 34)) (Lib.holds_zero0 w 34 (Lib.nDigits u) (by omega)) (by rw [Array.size_replicate]; exact Lib.lt_pow_nDigits u) hu64 (by rw [Array.size_replicate]; omega)
  rw [Array.size_replicate] at hfmt
  have H16 : Hid _ := fun (_ : True) => hfmt
  have H15 : Hid _ := fun (_ : True) => numDigits_laid u hu1 hu64 (w.alloc (.cells Lib.zeros24 34)) (Lib.tabIs_alloc htab _)
  have HO : Hid (w.ownsRow B 5 1 sv n xs) := hown
  have hp := dec_pos u
  have iu : (100 : Int) ≤ (u : Int) := by omega
  have HF : Hid (∀ (k v' : Nat) (dk : Array UInt8), FmtInv (Lib.nDigits u) u 0 v' dk → Fmt w ((putRow (fun (b : UInt8) => Value.int .u8 (b.toNat : Int)) (w.alloc (.cells Lib.zeros24 34)) w.heap.size 0 dk).drewN k) u) := fun k v' dk hF => fmt_of w u (by omega) hF
  clear hfmt htab hown
  go_enter Tryd.func13, Tryd.ntmps13
  go_wp2_with (go_at_call 15; refine (H15.out trivial).mono ?_; rintro e w1 ⟨rfl, rfl⟩)
  refine (H16.out trivial).mono ?_
  rintro e w1 ⟨rfl, k, v', dk, rfl, hF⟩
  have hfm := HF.out k v' dk hF
  obtain ⟨W2, hW2⟩ : ∃ W2, (putRow (fun (b : UInt8) => Value.int .u8 (b.toNat : Int)) (w.alloc (.cells Lib.zeros24 34)) w.heap.size 0 dk).drewN k = W2 := ⟨_, rfl⟩
  rw [hW2] at hfm ⊢
  clear hW2 hF HF H15 H16
  have HM : Hid (Fmt w W2 u) := hfm
  have HO2 : Hid (W2.ownsRow B 5 1 sv n xs) := HO.out.kept (row := none) ⟨hfm.bel.os, hfm.bel.tape, hfm.bel.output, hfm.bel.size, fun k hk _ => hfm.bel.block k hk⟩ (by cases sv.ownBlock <;> simp)
  clear hfm
  go_wp2_with (at_builtin; refine wpList_app rfl _ _ rfl B _ n xs rfl HO2.out ⟨w.heap.size, 0, none⟩ (Lib.nDigits u) 24 (Lib.byteCells (Lib.decDigits u)) rfl (by rw [← Lib.decDigits_length]; exact hp) (by rw [Lib.byteCells_length, Lib.decDigits_length]) HM.out.cells (Lib.byteCells_one _) (by omega) (by have := HM.out.bel.size; omega) ?_)
  intro v2 w3 ha
  have HA : Hid (App B sv w w3 v2 (n + Lib.nDigits u) (xs ++ Lib.byteCells (Lib.decDigits u))) := ha.after HM.out.bel
  clear ha
  go_wp2
  go_ret
  exact ⟨_, rfl, by rw [Lib.decDigits_length]; exact HA.out⟩

theorem uint_any (u : Nat) (hu64 : u < 18446744073709551616) (hown : w.ownsRow B 5 1 sv n xs) (hBw : B ≤ w.heap.size) (hlim : n + 20 ≤ 140737488355328)
    (htab : Lib.TabIs Tryd.prog w pow10Name .u64 Lib.pow10Tab) :
    Calls Tryd.prog 13 #[sv, .int .u64 u, .int .i64 10] w fun e w' => Apd B sv w w' n xs (Lib.decDigits u) e := by
  by_cases h : u < 100
  · exact uint_small u h hown hBw hlim
  · exact uint_big u (by omega) hu64 hown hBw hlim htab
end
end Go.Proofs.Qxb6617855aDoor
