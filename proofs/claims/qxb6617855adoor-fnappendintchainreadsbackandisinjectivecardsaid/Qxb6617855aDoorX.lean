/-
  Walks: zzBytes of law 2 (9), zzEqualBytes (10).
-/
import Derived.Test.Qxb6617855aDoorV
namespace Go.Proofs.Qxb6617855aDoor
open Go.RowKit Go.Lib
set_option linter.unusedVariables false

theorem zzBytes9_any (a : Option Addr) (n c : Nat) (i j : Int) (w : World) (hn : n ≤ 9223372036854775807) : Calls Tryd.prog 9 #[.slice a n c, .int .i64 i, .int .i64 j] w fun e w' => e = .returned (.bool (decide (n ≤ 1048576))) ∧ w' = w := by
  by_cases h : (1048576 : Int) < (n : Int)
  · have : decide (n ≤ 1048576) = false := by simp; omega
    rw [this]
    go_enter Tryd.func9, Tryd.ntmps9
    go_wp2
    go_ret
    exact ⟨rfl, rfl⟩
  · have : decide (n ≤ 1048576) = true := by simp; omega
    rw [this]
    go_enter Tryd.func9, Tryd.ntmps9
    go_wp2
    go_ret
    exact ⟨rfl, rfl⟩

/-- A bool that tells φ came back. -/
def RetQ (φ : Prop) (e : Ending) : Prop := ∃ r : Bool, e = .returned (.bool r) ∧ (r = true ↔ φ)
theorem retQ_true {φ : Prop} (h : φ) : RetQ φ (.returned (.bool true)) := ⟨true, rfl, fun _ => h, fun _ => rfl⟩
theorem retQ_false {φ : Prop} (h : ¬ φ) : RetQ φ (.returned (.bool false)) := ⟨false, rfl, ⟨fun e => Bool.noConfusion e, fun e => absurd e h⟩⟩

def SameTo (x y : List UInt8) (k : Nat) : Prop := x.take k = y.take k
theorem same_step {x y : List UInt8} {k : Nat} (h : SameTo x y k) (h1 : k < x.length) (h2 : k < y.length) (e : x.getD k 0 = y.getD k 0) : SameTo x y (k + 1) := by
  unfold SameTo at *; rw [take_snoc x k h1, take_snoc y k h2, h, e]
theorem same_done {x y : List UInt8} {k : Nat} (h : SameTo x y k) (h1 : k = x.length) (h2 : k = y.length) : x = y := by
  unfold SameTo at h
  rw [List.take_of_length_le (by omega), List.take_of_length_le (by omega)] at h; exact h
theorem u8_inj {a b : UInt8} (h : (a.toNat : Int) = (b.toNat : Int)) : a = b := UInt8.toNat_inj.1 (by omega)

set_option maxHeartbeats 1000000 in
theorem equal_any (b1 o1 c1 b2 o2 c2 n1 n2 : Nat) (x y : List UInt8) (w : World) (hn1 : n1 = x.length) (hn2 : n2 = y.length) (hl1 : n1 ≤ 1099511627776) (hl2 : n2 ≤ 1099511627776)
    (hx : ∀ j, j < n1 → w.cell? ⟨b1, o1 + j, none⟩ = some (.int .u8 ((x.getD j 0).toNat : Int))) (hy : ∀ j, j < n2 → w.cell? ⟨b2, o2 + j, none⟩ = some (.int .u8 ((y.getD j 0).toNat : Int))) :
    Calls Tryd.prog 10 #[.slice (some ⟨b1, o1, none⟩) n1 c1, .slice (some ⟨b2, o2, none⟩) n2 c2] w fun e w' => RetQ (x = y) e ∧ ∃ q, w' = w.drewN q := by
  by_cases hne : n1 = n2
  · subst hne
    have HN : Hid (n1 = x.length ∧ n1 = y.length) := ⟨hn1, hn2⟩
    have HX : Hid (∀ j, j < n1 → w.cell? ⟨b1, o1 + j, none⟩ = some (.int .u8 ((x.getD j 0).toNat : Int))) := hx
    have HY : Hid (∀ j, j < n1 → w.cell? ⟨b2, o2 + j, none⟩ = some (.int .u8 ((y.getD j 0).toNat : Int))) := hy
    clear hn1 hn2 hx hy
    go_enter Tryd.func10, Tryd.ntmps10
    go_wp2
    go_loopw [5] (fun i wr => ∃ (k q : Nat), k ≤ n1 ∧ i = .int .i64 k ∧ wr = w.drewN q ∧ Hid (SameTo x y k)) (fun i _ => n1 - (RowKit.intOf i).toNat)
    case atStart => exact ⟨0, 0, Nat.zero_le _, rfl, rfl, (by rfl : x.take 0 = y.take 0)⟩
    case round =>
      obtain ⟨k, q, hk, rfl, rfl, HS⟩ := hrel
      by_cases hlt : k < n1
      · have cx := HX.out k hlt
        have cy := HY.out k hlt
        have hlt' : (k : Int) < (n1 : Int) := by omega
        obtain ⟨u, hu⟩ : ∃ u : Int, ((x.getD k 0).toNat : Int) = u := ⟨_, rfl⟩
        obtain ⟨v, hv⟩ : ∃ v : Int, ((y.getD k 0).toNat : Int) = v := ⟨_, rfl⟩
        rw [hu] at cx
        rw [hv] at cy
        by_cases he : u = v
        · have HS' : Hid (SameTo x y (k + 1)) := same_step HS.out (by rw [← HN.out.1]; exact hlt) (by rw [← HN.out.2]; exact hlt) (u8_inj (by rw [hu, hv, he]))
          subst he
          clear hu hv HX HY HS
          go_wp2
          go_quiet (fail)
          go_wp2
          go_roundw
          case rel => exact ⟨k + 1, _, by omega, by go_num, rfl, HS'⟩
          case measure => simp [RowKit.intOf]; omega
        · have hno : Hid (¬ x = y) := fun e => he (by rw [← hu, ← hv, e])
          have hb : (u != v) = true := by rw [bne_iff_ne]; exact he
          clear hu hv HX HY HS
          go_wp2
          go_quiet (fail)
          go_wp2
          go_ret
          exact ⟨retQ_false hno.out, _, World.drewN_drewN _ _ _⟩
      · have hyes : Hid (x = y) := same_done HS.out (by rw [← HN.out.1]; omega) (by rw [← HN.out.2]; omega)
        clear HX HY HS
        go_wp2
        go_ret
        exact ⟨retQ_true hyes.out, _, rfl⟩
  · have hno : Hid (¬ x = y) := fun e => hne (by rw [hn1, hn2, e])
    have hb : ((n1 : Int) != (n2 : Int)) = true := by rw [bne_iff_ne]; omega
    clear hx hy hn1 hn2
    go_enter Tryd.func10, Tryd.ntmps10
    go_wp2
    go_ret
    exact ⟨retQ_false hno.out, 0, rfl⟩
end Go.Proofs.Qxb6617855aDoor
