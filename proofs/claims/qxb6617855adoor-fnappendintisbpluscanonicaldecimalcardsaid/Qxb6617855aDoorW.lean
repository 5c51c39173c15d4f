/-
  THE ROWS' COMMON PART: what 'laid' gives the walk; one start that fits; the bytes that came in.
-/
import Derived.Test.Qxb6617855aDoorV
import Derived.ProofKit
import Derived.OpenShut
import Derived.ShutString
import Derived.ChangeOld
import Derived.Below
import Derived.LaidLaws
import Derived.Handed
import Derived.Lib.LaidTab
import Derived.Stop.LaidErr
namespace Go.Proofs.Qxb6617855aDoor
open Go.ChangeShapes Go.WideShapes Go.ChangeAt Go.RowKit
set_option linter.unusedVariables false

theorem own : ownKnob Tryd.prog.godebug = none := by kernel_rfl
theorem laidOut : laidOutB Tryd.prog = true := by kernel_rfl
abbrev laid3 : List (String × DataW Unit) := Rows.fnAppendIntIsBPlusCanonicalDecimalRow.laid

theorem tab_of_laid {W : World} (h : laidMet Tryd.prog laid3 W) : Lib.TabIs Tryd.prog W pow10Name .u64 Lib.pow10Tab :=
  Lib.tabIs_of_head (name := pow10Name) (zs := Lib.pow10Tab) (rest := []) (g := 0) (t := 41) (e := 31) (n := 20) (by kernel_rfl) (by kernel_rfl) (by kernel_rfl) Tryd.underlying31 (by kernel_rfl) (by kernel_rfl) (laidMet.tail (laidMet.tail h))

def tab32 : Array Value := #[.int .u8 0, .int .u8 1, .int .u8 28, .int .u8 2, .int .u8 29, .int .u8 14, .int .u8 24, .int .u8 3, .int .u8 30, .int .u8 22, .int .u8 20, .int .u8 15, .int .u8 25, .int .u8 17, .int .u8 4, .int .u8 8, .int .u8 31, .int .u8 27, .int .u8 13, .int .u8 23, .int .u8 21, .int .u8 19, .int .u8 16, .int .u8 7, .int .u8 26, .int .u8 12, .int .u8 18, .int .u8 6, .int .u8 11, .int .u8 5, .int .u8 10, .int .u8 9]
def tab64 : Array Value := #[.int .u8 0, .int .u8 1, .int .u8 56, .int .u8 2, .int .u8 57, .int .u8 49, .int .u8 28, .int .u8 3, .int .u8 61, .int .u8 58, .int .u8 42, .int .u8 50, .int .u8 38, .int .u8 29, .int .u8 17, .int .u8 4, .int .u8 62, .int .u8 47, .int .u8 59, .int .u8 36, .int .u8 45, .int .u8 43, .int .u8 51, .int .u8 22, .int .u8 53, .int .u8 39, .int .u8 33, .int .u8 30, .int .u8 24, .int .u8 18, .int .u8 12, .int .u8 5, .int .u8 63, .int .u8 55, .int .u8 48, .int .u8 27, .int .u8 60, .int .u8 41, .int .u8 37, .int .u8 16, .int .u8 46, .int .u8 35, .int .u8 44, .int .u8 21, .int .u8 52, .int .u8 32, .int .u8 23, .int .u8 11, .int .u8 54, .int .u8 26, .int .u8 40, .int .u8 15, .int .u8 34, .int .u8 20, .int .u8 31, .int .u8 10, .int .u8 25, .int .u8 14, .int .u8 19, .int .u8 9, .int .u8 13, .int .u8 8, .int .u8 7, .int .u8 6]

def lay (c : Array Value) : Obj → Obj
  | .cells _ t frozen => .cells c t frozen
  | o => o
/-- The settled world of P, three tables laid in its first variables. -/
def laidIn (P : Program) (os : Os) : World :=
  { World.holding P os ⟨#[], #[], []⟩ with heap := (((World.holding P os ⟨#[], #[], []⟩).heap.modify 0 (lay (Lib.pow10Tab.map fun z => Value.int .u64 z).toArray)).modify 1 (lay tab32)).modify 2 (lay tab64) }
theorem laid_met (os : Os) (args : Array Value) : laidMet Tryd.prog laid3 ((laidIn Tryd.prog os).forCall (fun _ _ => 0) ⟨#[], args, []⟩).memory :=
  laidMet_of_run' 8 (by kernel_rfl) (by kernel_rfl)

/-- The bytes that came in. -/
theorem bytes_in {H : Type} {enc : TypeId × Value → H} {W : World} {fuel : Nat} {x : DataW H × List MemPlace} {v : Value} (h : DataW.trod enc Tryd.prog W 0 (fun _ => true) true fuel 22 [v] = some x) :
    ∃ a c l, v = .slice a (l : List UInt8).length c ∧ BytesA W a l ∧ l.length ≤ 9223372036854775807 ∧ (a = none → l.length = 0 ∧ c = 0) := by
  rcases open_ints Tryd.underlying22 Tryd.underlying5 (by kernel_rfl) h with ⟨hcs, _⟩ | ⟨x, n, c, zs, hcs, _, hl, hm, hz, _, hcell, hwz⟩
  · simp only [List.cons.injEq, and_true] at hcs
    exact ⟨none, 0, [], hcs, fun hp => by simp at hp, by simp, fun _ => ⟨rfl, rfl⟩⟩
  · simp only [List.cons.injEq, and_true] at hcs
    have hz' : zs.length = c := by simpa using hz
    have hlen : ((zs.take n).map fun z => UInt8.ofNat z.toNat).length = n := by simp; omega
    unfold maxLen at hm
    refine ⟨some x, c, (zs.take n).map fun z => UInt8.ofNat z.toNat, by rw [hlen]; exact hcs, fun hp => ?_, by omega, fun h => by cases h⟩
    obtain ⟨b, off, spot⟩ := x
    have hspot : spot = none := by simpa [Addr.add] using World.cell?_spot (hcell 0 (by omega))
    subst hspot
    refine ⟨b, off, rfl, fun j hj => ?_⟩
    have hjn : j < n := by omega
    have hcj := hcell j (by omega)
    rw [Lib.add_plain] at hcj
    rw [hcj]
    have hw := hwz (zs.getD j 0) (by rw [List.getD_eq_getElem?_getD, List.getElem?_eq_getElem (by omega)]; exact List.getElem_mem _)
    have hb : 0 ≤ zs.getD j 0 ∧ zs.getD j 0 ≤ 255 := by simpa [Lit.wf, IntKind.min, IntKind.max, IntKind.signed, IntKind.bits] using hw
    have e : ((zs.take n).map fun z => UInt8.ofNat z.toNat).getD j 0 = UInt8.ofNat (zs.getD j 0).toNat := by
      simp [List.getD_eq_getElem?_getD, hjn, show j < zs.length by omega]
    rw [e]
    generalize zs.getD j 0 = z at hb
    rw [show (UInt8.ofNat z.toNat).toNat = z.toNat from by simp [UInt8.toNat_ofNat']; omega, Int.toNat_of_nonneg hb.1]
end Go.Proofs.Qxb6617855aDoor
