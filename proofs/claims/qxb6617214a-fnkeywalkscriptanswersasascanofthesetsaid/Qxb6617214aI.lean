/-
  The walks over (*keySet).from (35) and its shim (30); the makers and readers (14, 17, 19, 25).
-/
import Derived.Test.Qxb6617214aH
import Derived.Test.Qxb6617214aP3
namespace Go.Proofs.Qxb6617214a
open Go.RowKit Go.Deep

set_option maxHeartbeats 1000000 in
theorem from_any {w : World} {sb : Nat} {a : Option Addr} {cap : Nat} {css : List (List ByteArray)} {ch : Int} (h : View w sb a cap css ch) (k : ByteArray) (past : Bool) :
    Calls Try.prog 35 #[.pointer (some ⟨sb, 0, none⟩), .string k, .bool past] w fun e w' => RetS (scan css.flatten k past) e ∧ w' = w := by
  have hfd := fun w' (e : w' = w) => by subst e; exact find_any h k
  have c0 := h.c0
  have hlen := h.len
  by_cases he : cidx css k = css.length
  · have HF : Hid (scan css.flatten k past = none) := from_end h.fine he
    have HR : findR css k = .tuple #[.int .i64 (css.length : Nat), .int .i64 0, .bool false] := by unfold findR; rw [if_pos he]
    rw [HR] at hfd
    have HS : Hid _ := hfd
    clear hfd he h HR
    generalize scan css.flatten k past = o at *
    generalize css.length = n at *
    go_enter Try.func35, Try.ntmps35
    go_wp2_with (go_at_call 36; refine (HS.out _ rfl).mono ?_; rintro e w' ⟨rfl, rfl⟩)
    go_ret2
    exact ⟨retS_none HF.out, rfl⟩
  · have hcl := cidx_le css k
    have hlt : cidx css k < css.length := by omega
    have HR : findR css k = .tuple #[.int .i64 (cidx css k : Nat), .int .i64 (sidx (css.getD (cidx css k) []) k : Nat), .bool (isAt (css.getD (cidx css k) []) k)] := by unfold findR; rw [if_neg he]
    rw [HR] at hfd
    have HS : Hid _ := hfd
    obtain ⟨b, off, G, O, C, rfl, hc⟩ := h.places (by omega)
    obtain ⟨hcell, hcs⟩ := hc _ hlt
    have hin := sidx_in h.fine k hlt
    have hl1 := h.lens _ (getD_mem (d := []) hlt)
    by_cases hn : isAt (css.getD (cidx css k) []) k = false ∨ past = false
    · have HF : Hid (scan css.flatten k past = some ((css.getD (cidx css k) []).getD (sidx (css.getD (cidx css k) []) k) ByteArray.empty)) := from_here h.fine hlt hn
      have hx := hcs _ hin
      clear hc hcs h HR hfd
      generalize (css.getD (cidx css k) []).getD (sidx (css.getD (cidx css k) []) k) ByteArray.empty = x at *
      generalize scan css.flatten k past = o at *
      generalize sidx (css.getD (cidx css k) []) k = at' at *
      generalize isAt (css.getD (cidx css k) []) k = fd at *
      generalize (css.getD (cidx css k) []).length = len at *
      generalize G (cidx css k) = g at *
      generalize O (cidx css k) = oo at *
      generalize C (cidx css k) = cc at *
      generalize cidx css k = p at *
      generalize css.length = n at *
      have hne : ((p : Int) == (n : Int)) = false := by rw [beq_eq_false_iff_ne]; omega
      cases fd with
      | false =>
        go_enter Try.func35, Try.ntmps35
        go_wp2_with (go_at_call 36; refine (HS.out _ rfl).mono ?_; rintro e w' ⟨rfl, rfl⟩)
        go_ret2
        exact ⟨retS_some HF.out, rfl⟩
      | true =>
        have hp : past = false := by rcases hn with hn | hn; cases hn; exact hn
        subst hp
        go_enter Try.func35, Try.ntmps35
        go_wp2_with (go_at_call 36; refine (HS.out _ rfl).mono ?_; rintro e w' ⟨rfl, rfl⟩)
        go_ret2
        exact ⟨retS_some HF.out, rfl⟩
    · have hfd1 : isAt (css.getD (cidx css k) []) k = true := by cases hh : isAt (css.getD (cidx css k) []) k; exact absurd (.inl hh) hn; rfl
      have hpast : past = true := by cases past; exact absurd (.inr rfl) hn; rfl
      subst hpast
      rw [hfd1] at HS
      by_cases hl : sidx (css.getD (cidx css k) []) k + 1 < (css.getD (cidx css k) []).length
      · have HF : Hid (scan css.flatten k true = some ((css.getD (cidx css k) []).getD (sidx (css.getD (cidx css k) []) k + 1) ByteArray.empty)) := from_next h.fine hlt hfd1 hl
        have hx := hcs _ hl
        clear hc hcs h HR hfd hfd1 hn
        generalize (css.getD (cidx css k) []).getD (sidx (css.getD (cidx css k) []) k + 1) ByteArray.empty = x at *
        generalize scan css.flatten k true = o at *
        generalize sidx (css.getD (cidx css k) []) k = at' at *
        generalize (css.getD (cidx css k) []).length = len at *
        generalize G (cidx css k) = g at *
        generalize O (cidx css k) = oo at *
        generalize C (cidx css k) = cc at *
        generalize cidx css k = p at *
        generalize css.length = n at *
        have hne : ((p : Int) == (n : Int)) = false := by rw [beq_eq_false_iff_ne]; omega
        have hne2 : ((at' : Int) + 1 == (len : Int)) = false := by rw [beq_eq_false_iff_ne]; omega
        go_enter Try.func35, Try.ntmps35
        go_wp2_with (go_at_call 36; refine (HS.out _ rfl).mono ?_; rintro e w' ⟨rfl, rfl⟩)
        go_ret2
        exact ⟨retS_some HF.out, rfl⟩
      · have hle : sidx (css.getD (cidx css k) []) k + 1 = (css.getD (cidx css k) []).length := by omega
        by_cases hc1 : cidx css k + 1 < css.length
        · have HF : Hid (scan css.flatten k true = some ((css.getD (cidx css k + 1) []).getD 0 ByteArray.empty)) := from_hop h.fine hlt hfd1 hle hc1
          obtain ⟨hcell2, hcs2⟩ := hc _ hc1
          have hne5 := h.fine.1 _ (getD_mem (d := []) hc1)
          have hx : w.cell? ⟨G (cidx css k + 1), O (cidx css k + 1), none⟩ = some (.string ((css.getD (cidx css k + 1) []).getD 0 ByteArray.empty)) := hcs2 0 hne5
          have hl2 := h.lens _ (getD_mem (d := []) hc1)
          clear hc hcs h HR hfd hfd1 hn hcs2
          generalize (css.getD (cidx css k + 1) []).getD 0 ByteArray.empty = x at *
          generalize scan css.flatten k true = o at *
          generalize sidx (css.getD (cidx css k) []) k = at' at *
          generalize (css.getD (cidx css k) []).length = len at *
          generalize (css.getD (cidx css k + 1) []).length = len2 at *
          generalize G (cidx css k) = g at *
          generalize O (cidx css k) = oo at *
          generalize C (cidx css k) = cc at *
          generalize G (cidx css k + 1) = g2 at *
          generalize O (cidx css k + 1) = oo2 at *
          generalize C (cidx css k + 1) = cc2 at *
          generalize cidx css k = p at *
          generalize css.length = n at *
          have hne : ((p : Int) + 1 == (n : Int)) = false := by rw [beq_eq_false_iff_ne]; omega
          have hne2 : ((at' : Int) + 1 == (len : Int)) = true := by rw [beq_iff_eq]; omega
          clear hle
          go_enter Try.func35, Try.ntmps35
          go_wp2_with (go_at_call 36; refine (HS.out _ rfl).mono ?_; rintro e w' ⟨rfl, rfl⟩)
          go_ret2
          exact ⟨retS_some HF.out, rfl⟩
        · have hce : cidx css k + 1 = css.length := by omega
          have HF : Hid (scan css.flatten k true = none) := from_hop_end h.fine hlt hfd1 hle hce
          clear hc hcs h HR hfd hfd1 hn
          generalize scan css.flatten k true = o at *
          generalize sidx (css.getD (cidx css k) []) k = at' at *
          generalize (css.getD (cidx css k) []).length = len at *
          generalize G (cidx css k) = g at *
          generalize O (cidx css k) = oo at *
          generalize C (cidx css k) = cc at *
          generalize cidx css k = p at *
          generalize css.length = n at *
          have hne : ((p : Int) + 1 == (n : Int)) = true := by rw [beq_iff_eq]; omega
          have hne2 : ((at' : Int) + 1 == (len : Int)) = true := by rw [beq_iff_eq]; omega
          clear hle hce
          go_enter Try.func35, Try.ntmps35
          go_wp2_with (go_at_call 36; refine (HS.out _ rfl).mono ?_; rintro e w' ⟨rfl, rfl⟩)
          go_ret2
          exact ⟨retS_none HF.out, rfl⟩

set_option maxHeartbeats 400000 in
theorem zzFrom_any {w : World} {sb : Nat} {a : Option Addr} {cap : Nat} {css : List (List ByteArray)} {ch : Int} (h : View w sb a cap css ch) (k : ByteArray) (past : Bool) :
    Calls Try.prog 30 #[.pointer (some ⟨sb, 0, none⟩), .string k, .bool past] w fun e w' => RetS (scan css.flatten k past) e ∧ w' = w := by
  have HS : Hid _ := fun w' (e : w' = w) => by subst e; exact from_any h k past
  clear h
  generalize scan css.flatten k past = o at *
  go_enter Try.func30, Try.ntmps30
  go_wp2_with (go_at_call 35; refine (HS.out _ rfl).mono ?_; rintro e w' ⟨rfl, rfl⟩)
  go_ret2
  exact ⟨rfl, rfl⟩

/-! ### makers and readers -/
set_option maxHeartbeats 400000 in
theorem makeSet_any (a : Option Addr) (n c : Nat) (ch : Int) (w : World) :
    Calls Try.prog 14 #[.slice a n c, .int .u64 ch] w fun e w' => e = .returned (.pointer (some ⟨w.heap.size, 0, none⟩)) ∧ w' = w.alloc (.cells #[.slice a n c, .int .u64 ch] 54) := by
  go_enter Try.func14, Try.ntmps14
  go_wp2
  go_ret
  exact ⟨rfl, rfl⟩

set_option maxHeartbeats 400000 in
theorem setChunks_any (sb : Nat) (v : Value) (w : World) (h : w.cell? ⟨sb, 0, none⟩ = some v) :
    Calls Try.prog 17 #[.pointer (some ⟨sb, 0, none⟩)] w fun e w' => e = .returned v ∧ w' = w := by
  go_enter Try.func17, Try.ntmps17
  go_wp2
  go_ret
  exact ⟨rfl, rfl⟩

set_option maxHeartbeats 400000 in
theorem setChanges_any (sb : Nat) (v : Value) (w : World) (h : w.cell? ⟨sb, 1, none⟩ = some v) :
    Calls Try.prog 19 #[.pointer (some ⟨sb, 0, none⟩)] w fun e w' => e = .returned v ∧ w' = w := by
  go_enter Try.func19, Try.ntmps19
  go_wp2
  go_ret
  exact ⟨rfl, rfl⟩

set_option maxHeartbeats 400000 in
theorem makeWalk_any (p : Option Addr) (ch : Int) (wat key : ByteArray) (past found : Bool) (w : World) :
    Calls Try.prog 25 #[.pointer p, .int .u64 ch, .string wat, .bool past, .bool found, .string key] w fun e w' =>
      e = .returned (.pointer (some ⟨w.heap.size, 0, none⟩)) ∧ w' = w.alloc (.cells #[.pointer p, .int .u64 ch, .string wat, .bool past, .bool found, .string key] 57) := by
  go_enter Try.func25, Try.ntmps25
  go_wp2
  go_ret
  exact ⟨rfl, rfl⟩
end Go.Proofs.Qxb6617214a
