/-
  The shims round the walk (26), and its state read out (29).
-/
import Derived.Test.Qxb6617214aJ
namespace Go.Proofs.Qxb6617214a
open Go.RowKit Go.Deep

set_option maxRecDepth 100000 in
set_option maxHeartbeats 400000 in
theorem walkFrom_nil (wb : Nat) (k : ByteArray) (past : Bool) (w : World) :
    Calls Try.prog 34 #[.pointer (some ⟨wb, 0, none⟩), .pointer none, .string k, .bool past] w fun e w' => RetS none e ∧ w' = w := by
  go_enter Try.func34, Try.ntmps34
  go_wp2
  go_ret2
  exact ⟨retS_none rfl, rfl⟩

set_option maxHeartbeats 400000 in
theorem zzWalkFrom_nil (wb : Nat) (k : ByteArray) (past : Bool) (w : World) :
    Calls Try.prog 26 #[.pointer (some ⟨wb, 0, none⟩), .pointer none, .string k, .bool past] w fun e w' => RetS none e ∧ w' = w := by
  go_enter Try.func26, Try.ntmps26
  go_wp2_with (go_at_call 34; refine (walkFrom_nil _ _ _ _).mono ?_; rintro e w' ⟨rfl, rfl⟩)
  go_ret2
  exact ⟨rfl, rfl⟩

set_option maxHeartbeats 400000 in
theorem zzWalkFrom_any {w : World} {sb wb : Nat} {a : Option Addr} {cap : Nat} {css : List (List ByteArray)} {ch wch : Int} {p : Option Addr} {wat wkey : ByteArray} {wpast wfound : Bool}
    (h : View w sb a cap css ch) (hw : WalkAt w wb p wch wat wpast wfound wkey) (hne : sb ≠ wb) (hp : p = none ∨ p = some ⟨sb, 0, none⟩) (k : ByteArray) (past : Bool)
    (htrue : p = some ⟨sb, 0, none⟩ → wch = ch → wkey = (scan css.flatten wat wpast).getD ByteArray.empty ∧ wfound = (scan css.flatten wat wpast).isSome) :
    Calls Try.prog 26 #[.pointer (some ⟨wb, 0, none⟩), .pointer (some ⟨sb, 0, none⟩), .string k, .bool past] w fun e w' => RetS (scan css.flatten k past) e ∧ Asked w w' wb sb ch k past (scan css.flatten k past) := by
  have HS : Hid _ := fun (_ : True) => walkFrom_any h hw hne hp k past htrue
  clear h hw hp htrue hne
  generalize scan css.flatten k past = o at *
  go_enter Try.func26, Try.ntmps26
  go_wp2_with (go_at_call 34; refine (HS.out trivial).mono ?_; rintro e w' ⟨rfl, hA⟩)
  go_ret2
  exact ⟨rfl, hA⟩

set_option maxHeartbeats 1000000 in
theorem walkState_any {w : World} {wb : Nat} {p : Option Addr} {ch : Int} {wat key : ByteArray} {past found : Bool} (hw : WalkAt w wb p ch wat past found key) :
    Calls Try.prog 29 #[.pointer (some ⟨wb, 0, none⟩)] w fun e w' => e = .returned (.tuple #[.pointer p, .int .u64 ch, .string wat, .bool past, .bool found, .string key]) ∧ ∃ q, w' = w.drewN q := by
  obtain ⟨d0, d1, d2, d3, d4, d5⟩ := hw.cell
  clear hw
  go_enter Try.func29, Try.ntmps29
  go_wp2
  go_quiet (fail)
  go_wp2
  refine bodyPost_ret (v := .tuple #[.pointer p, .int .u64 ch, .string wat, .bool past, .bool found, .string key]) (by simp [results, Try.results29, go_sem]) rfl ⟨rfl, _, rfl⟩
end Go.Proofs.Qxb6617214a
