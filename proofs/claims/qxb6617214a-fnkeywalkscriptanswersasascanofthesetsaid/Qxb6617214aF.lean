/-
  Walks that only read: eqStrs (18), scanFrom (27).
-/
import Derived.Test.Qxb6617214aE
import Derived.Deep.QuietTactic
import Derived.BigQuiet
namespace Go.Proofs.Qxb6617214a
open Go.RowKit

theorem strsA_drewN {w : World} {a : Option Addr} {ss : List ByteArray} (h : StrsA w a ss) (q : Nat) : StrsA (w.drewN q) a ss := by
  refine ⟨h.1, fun hp => ?_⟩
  obtain ⟨b, off, ha, hc⟩ := h.2 hp
  exact ⟨b, off, ha, fun j hj => by rw [← hc j hj]; exact World.Alike.cell (World.drewN_alike w q) _⟩

/-! ### eqStrs -/
def EqTo (xs ys : List ByteArray) (k : Nat) : Prop := xs.take k = ys.take k
theorem eqTo_step {xs ys : List ByteArray} {k : Nat} {x : ByteArray} (h : EqTo xs ys k) (h1 : k < xs.length) (h2 : k < ys.length) (e1 : xs.getD k ByteArray.empty = x) (e2 : ys.getD k ByteArray.empty = x) : EqTo xs ys (k + 1) := by
  unfold EqTo at *; rw [take_getDs _ _ h1, take_getDs _ _ h2, h, e1, e2]
theorem eqTo_done {xs ys : List ByteArray} {k : Nat} (h : EqTo xs ys k) (h1 : k = xs.length) (h2 : k = ys.length) : xs = ys := by
  unfold EqTo at h
  rw [List.take_of_length_le (by omega), List.take_of_length_le (by omega)] at h; exact h

set_option maxHeartbeats 1000000 in
theorem eqStrs_some (b1 o1 c1 b2 o2 c2 : Nat) (xs ys : List ByteArray) (w : World) (hl : xs.length ≤ 9223372036854775807) (hxy : xs.length = ys.length)
    (hx : ∀ j, j < xs.length → w.cell? ⟨b1, o1 + j, none⟩ = some (.string (xs.getD j ByteArray.empty))) (hy : ∀ j, j < ys.length → w.cell? ⟨b2, o2 + j, none⟩ = some (.string (ys.getD j ByteArray.empty))) :
    Calls Try.prog 18 #[.slice (some ⟨b1, o1, none⟩) xs.length c1, .slice (some ⟨b2, o2, none⟩) ys.length c2] w fun e w' => RetB (xs = ys) e ∧ ∃ q, w' = w.drewN q := by
  obtain ⟨n, hn⟩ : ∃ n, xs.length = n := ⟨_, rfl⟩
  have hn2 : ys.length = n := by omega
  rw [hn] at hx hl ⊢
  rw [hn2] at hy ⊢
  have HN : Hid (xs.length = n ∧ ys.length = n) := ⟨hn, hn2⟩
  clear hn hn2 hxy
  go_enter Try.func18, Try.ntmps18
  go_wp2
  go_loopw [5] (fun i wr => ∃ (k q : Nat), k ≤ n ∧ i = .int .i64 k ∧ wr = w.drewN q ∧ EqTo xs ys k) (fun i _ => n - (intOf i).toNat)
  case atStart => exact ⟨0, 0, Nat.zero_le _, rfl, rfl, by simp [EqTo]⟩
  case round =>
    obtain ⟨k, q, hk, rfl, rfl, hst⟩ := hrel
    by_cases hlt : k < n
    · have cx := hx k hlt
      have cy := hy k hlt
      obtain ⟨x, hxe⟩ : ∃ x, xs.getD k ByteArray.empty = x := ⟨_, rfl⟩
      obtain ⟨y, hye⟩ : ∃ y, ys.getD k ByteArray.empty = y := ⟨_, rfl⟩
      rw [hxe] at cx
      rw [hye] at cy
      have HX : Hid (xs.getD k ByteArray.empty = x ∧ ys.getD k ByteArray.empty = y) := ⟨hxe, hye⟩
      clear hx hy hxe hye
      have hlt' : (k : Int) < (n : Int) := by omega
      by_cases hxy : x = y
      · subst hxy
        go_wp2
        go_quiet (fail)
        go_wp2
        go_roundw
        case rel => exact ⟨k + 1, _, by omega, by go_num, rfl, eqTo_step hst (by rw [HN.out.1]; exact hlt) (by rw [HN.out.2]; exact hlt) HX.out.1 HX.out.2⟩
        case measure => simp [intOf]; omega
      · have hne : (x.toList == y.toList) = false := by rw [beq_eq_false_iff_ne]; exact fun h => hxy (toList_inj h)
        go_wp2
        go_quiet (fail)
        go_wp2
        go_ret
        exact ⟨retB_false (fun h => hxy (by rw [← HX.out.1, ← HX.out.2, h])), _, World.drewN_drewN _ _ _⟩
    · have hfin : Hid (xs = ys) := eqTo_done hst (by rw [HN.out.1]; omega) (by rw [HN.out.2]; omega)
      clear hst hx hy
      go_wp2
      go_ret
      exact ⟨retB_true hfin.out, _, rfl⟩

set_option maxHeartbeats 400000 in
theorem eqStrs_zero (a1 a2 : Option Addr) (c1 c2 : Nat) (w : World) :
    Calls Try.prog 18 #[.slice a1 0 c1, .slice a2 0 c2] w fun e w' => RetB (([] : List ByteArray) = []) e ∧ ∃ q, w' = w.drewN q := by
  go_enter Try.func18, Try.ntmps18
  go_wp2
  refine wp_loop_rounds 1 ?_; rw [rounds_succ]; go_wp2
  go_ret
  exact ⟨retB_true trivial, 0, rfl⟩

set_option maxHeartbeats 400000 in
theorem eqStrs_len (a1 a2 : Option Addr) (n1 n2 c1 c2 : Nat) (w : World) (h : n1 ≠ n2) :
    Calls Try.prog 18 #[.slice a1 n1 c1, .slice a2 n2 c2] w fun e w' => e = .returned (.bool false) ∧ w' = w := by
  have h' : ((n1 : Int) != (n2 : Int)) = true := by rw [bne_iff_ne]; omega
  go_enter Try.func18, Try.ntmps18
  go_wp2
  go_ret
  exact ⟨rfl, rfl⟩

theorem eqStrs_any (a1 a2 : Option Addr) (n1 n2 c1 c2 : Nat) (xs ys : List ByteArray) (w : World) (h1 : StrsA w a1 xs) (h2 : StrsA w a2 ys) (hn1 : n1 = xs.length) (hn2 : n2 = ys.length) :
    Calls Try.prog 18 #[.slice a1 n1 c1, .slice a2 n2 c2] w fun e w' => RetB (xs = ys) e ∧ ∃ q, w' = w.drewN q := by
  subst hn1; subst hn2
  by_cases hl : xs.length = ys.length
  · by_cases h0 : xs = []
    · subst h0
      have : ys = [] := List.length_eq_zero_iff.1 (by simpa using hl.symm)
      subst this
      exact eqStrs_zero a1 a2 c1 c2 w
    · have hp : 0 < xs.length := List.length_pos_iff.2 h0
      obtain ⟨b1, o1, rfl, hx⟩ := h1.2 hp
      obtain ⟨b2, o2, rfl, hy⟩ := h2.2 (by omega)
      exact eqStrs_some b1 o1 c1 b2 o2 c2 xs ys w h1.1 hl hx hy
  · exact (eqStrs_len a1 a2 _ _ c1 c2 w hl).mono fun e w' ⟨he, hw⟩ => ⟨by rw [he]; exact retB_false (fun h => hl (by rw [h])), 0, hw⟩

/-! ### scanFrom -/
/-- Is x an answer at (k, past)? -/
def hit (k : ByteArray) (past : Bool) (x : ByteArray) : Bool := slt k x || (!past && decide (x = k))
/-- The answer of a plain scan. -/
def scan (xs : List ByteArray) (k : ByteArray) (past : Bool) : Option ByteArray := xs.find? (hit k past)
def NoTo (xs : List ByteArray) (k : ByteArray) (past : Bool) (i : Nat) : Prop := ∀ x ∈ xs.take i, hit k past x = false
theorem noTo_step {xs : List ByteArray} {k : ByteArray} {past : Bool} {i : Nat} {x : ByteArray} (h : NoTo xs k past i) (hi : i < xs.length) (hx : xs.getD i ByteArray.empty = x) (hh : hit k past x = false) : NoTo xs k past (i + 1) := by
  unfold NoTo at *
  rw [take_getDs _ _ hi, hx]
  intro y hy
  rw [List.mem_append] at hy
  rcases hy with hy | hy
  · exact h y hy
  · simp at hy; subst hy; exact hh
theorem noTo_hit {xs : List ByteArray} {k : ByteArray} {past : Bool} {i : Nat} {x : ByteArray} (h : NoTo xs k past i) (hi : i < xs.length) (hx : xs.getD i ByteArray.empty = x) (hh : hit k past x = true) : scan xs k past = some x := by
  unfold scan NoTo at *
  rw [drop_getDs xs i hi, hx, List.find?_append, List.find?_eq_none.2 (fun y hy => by simp [h y hy])]
  simp [hh]
theorem noTo_done {xs : List ByteArray} {k : ByteArray} {past : Bool} {i : Nat} (h : NoTo xs k past i) (hi : i = xs.length) : scan xs k past = none := by
  unfold scan NoTo at *
  subst hi
  rw [List.take_length] at h
  exact List.find?_eq_none.2 (fun y hy => by simp [h y hy])

/-- The two results of a question. -/
def RetS (o : Option ByteArray) (e : Ending) : Prop := e = .returned (.tuple #[.string (o.getD ByteArray.empty), .bool o.isSome])
theorem retS_some {o : Option ByteArray} {x : ByteArray} (h : o = some x) : RetS o (.returned (.tuple #[.string x, .bool true])) := by subst h; rfl
theorem retS_none {o : Option ByteArray} (h : o = none) : RetS o (.returned (.tuple #[.string ⟨#[]⟩, .bool false])) := by subst h; rfl

set_option maxHeartbeats 1000000 in
theorem scanFrom_some (b off c : Nat) (xs : List ByteArray) (k : ByteArray) (past : Bool) (w : World) (hl : xs.length ≤ 9223372036854775807)
    (hx : ∀ j, j < xs.length → w.cell? ⟨b, off + j, none⟩ = some (.string (xs.getD j ByteArray.empty))) :
    Calls Try.prog 27 #[.slice (some ⟨b, off, none⟩) xs.length c, .string k, .bool past] w fun e w' => RetS (scan xs k past) e ∧ w' = w := by
  go_enter Try.func27, Try.ntmps27
  go_wp2
  go_loop [8] (fun i => ∃ (n : Nat), n ≤ xs.length ∧ i = .int .i64 n ∧ NoTo xs k past n) (fun i => xs.length - (intOf i).toNat)
  case atStart => exact ⟨0, Nat.zero_le _, rfl, by simp [NoTo]⟩
  case round =>
    obtain ⟨n, hn, rfl, hst⟩ := hrel
    by_cases hlt : n < xs.length
    · have cx := hx n hlt
      obtain ⟨x, hxe⟩ : ∃ x, xs.getD n ByteArray.empty = x := ⟨_, rfl⟩
      rw [hxe] at cx
      have HX : Hid (xs.getD n ByteArray.empty = x) := hxe
      clear hx hxe
      cases hb : Op.bytesLess k.toList x.toList with
      | true =>
        go_wp2
        go_ret2
        exact ⟨retS_some (noTo_hit hst hlt HX.out (by simp [hit, slt, hb])), rfl⟩
      | false =>
        cases past with
        | true =>
          go_wp2
          go_round
          case rel => exact ⟨n + 1, by omega, by go_num, noTo_step hst hlt HX.out (by simp [hit, slt, hb])⟩
          case measure => simp [intOf]; omega
        | false =>
          by_cases he : x = k
          · subst he
            go_wp2
            go_ret2
            exact ⟨retS_some (noTo_hit hst hlt HX.out (by simp [hit])), rfl⟩
          · have hne : (x.toList == k.toList) = false := by rw [beq_eq_false_iff_ne]; exact fun h => he (toList_inj h)
            go_wp2
            go_round
            case rel => exact ⟨n + 1, by omega, by go_num, noTo_step hst hlt HX.out (by simp [hit, slt, hb, he])⟩
            case measure => simp [intOf]; omega
    · have hf : Hid (scan xs k past = none) := noTo_done hst (by omega)
      clear hx hst
      go_wp2
      go_ret2
      exact ⟨retS_none hf.out, rfl⟩

set_option maxHeartbeats 400000 in
theorem scanFrom_zero (a : Option Addr) (c : Nat) (k : ByteArray) (past : Bool) (w : World) :
    Calls Try.prog 27 #[.slice a 0 c, .string k, .bool past] w fun e w' => RetS (scan [] k past) e ∧ w' = w := by
  have hf : Hid (scan [] k past = none) := rfl
  go_enter Try.func27, Try.ntmps27
  go_wp2
  refine wp_loop_rounds 1 ?_; rw [rounds_succ]; go_wp2
  go_ret2
  exact ⟨retS_none hf.out, rfl⟩

theorem scanFrom_any (a : Option Addr) (n c : Nat) (xs : List ByteArray) (k : ByteArray) (past : Bool) (w : World) (h : StrsA w a xs) (hn : n = xs.length) :
    Calls Try.prog 27 #[.slice a n c, .string k, .bool past] w fun e w' => RetS (scan xs k past) e ∧ w' = w := by
  subst hn
  by_cases h0 : xs = []
  · subst h0; exact scanFrom_zero a c k past w
  · obtain ⟨b, off, rfl, hx⟩ := h.2 (List.length_pos_iff.2 h0)
    exact scanFrom_some b off c xs k past w h.1 hx
end Go.Proofs.Qxb6617214a
