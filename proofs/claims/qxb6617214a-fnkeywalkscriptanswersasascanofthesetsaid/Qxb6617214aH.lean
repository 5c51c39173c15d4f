/-
  The walks over (*keySet).find (36), (*keySet).from (35) and the shims over them.
-/
import Derived.Test.Qxb6617214aG
import Derived.Test.Qxb6617214aP2
import Derived.Deep.Slices
namespace Go.Proofs.Qxb6617214a
open Go.RowKit Go.Deep

/-- A key set as it is read: its struct in block sb; its chunks css; its count ch. -/
structure View (w : World) (sb : Nat) (a : Option Addr) (cap : Nat) (css : List (List ByteArray)) (ch : Int) : Prop where
  c0 : w.cell? ⟨sb, 0, none⟩ = some (.slice a css.length cap)
  c1 : w.cell? ⟨sb, 1, none⟩ = some (.int .u64 ch)
  chunks : ChunksA w a css
  fine : Fine css
  len : css.length ≤ 1073741824
  lens : ∀ c ∈ css, c.length ≤ 1073741824

/-- The chunks' places, by functions of the index. -/
theorem View.places {w : World} {sb : Nat} {a : Option Addr} {cap : Nat} {css : List (List ByteArray)} {ch : Int} (h : View w sb a cap css ch) (hp : 0 < css.length) :
    ∃ (b off : Nat) (G O C : Nat → Nat), a = some ⟨b, off, none⟩ ∧ ∀ i, i < css.length → w.cell? ⟨b, off + i, none⟩ = some (.slice (some ⟨G i, O i, none⟩) (css.getD i []).length (C i)) ∧
      ∀ j, j < (css.getD i []).length → w.cell? ⟨G i, O i + j, none⟩ = some (.string ((css.getD i []).getD j ByteArray.empty)) := by
  obtain ⟨b, off, ha, hc⟩ := h.chunks.2 hp
  have each : ∀ i, i < css.length → ∃ y : Nat × Nat × Nat, w.cell? ⟨b, off + i, none⟩ = some (.slice (some ⟨y.1, y.2.1, none⟩) (css.getD i []).length y.2.2) ∧
      ∀ j, j < (css.getD i []).length → w.cell? ⟨y.1, y.2.1 + j, none⟩ = some (.string ((css.getD i []).getD j ByteArray.empty)) := by
    intro i hi
    obtain ⟨ai, ci, h1, _, hS⟩ := hc i hi
    obtain ⟨bb, oo, rfl, h2⟩ := hS.2 (h.fine.1 _ (getD_mem hi))
    exact ⟨(bb, oo, ci), h1, h2⟩
  obtain ⟨y, hy⟩ := choose_lt each
  exact ⟨b, off, fun i => (y i).1, fun i => (y i).2.1, fun i => (y i).2.2, ha, hy⟩

set_option maxHeartbeats 400000 in
theorem searchFunc_zero (a : Option Addr) (c : Nat) (k : ByteArray) (w : World) :
    Calls Try.prog 42 #[.slice a 0 c, .string k, .func (Fn.func 43) #[] #[]] w fun e w' => RetIdx 0 e ∧ w' = w := by
  go_enter Try.func42, Try.ntmps42
  go_wp2
  refine wp_loop_rounds 1 ?_; rw [rounds_succ]; go_wp2
  go_ret2
  exact ⟨retIdx 0 _, rfl⟩

theorem searchFunc_any {w : World} {sb : Nat} {a : Option Addr} {cap : Nat} {css : List (List ByteArray)} {ch : Int} (h : View w sb a cap css ch) (k : ByteArray) :
    Calls Try.prog 42 #[.slice a css.length cap, .string k, .func (Fn.func 43) #[] #[]] w fun e w' => RetIdx (cidx css k) e ∧ w' = w := by
  by_cases h0 : css = []
  · subst h0; exact searchFunc_zero a cap k w
  · obtain ⟨b, off, G, O, C, rfl, hc⟩ := h.places (List.length_pos_iff.2 h0)
    refine searchFunc_some b off css.length cap (cidx css k) k G O (fun i => (css.getD i []).length) C (fun i => lastS (css.getD i [])) w h.len (fun i hi => ?_) (cidx_le css k) (cidx_lt css k) (cidx_ge h.fine k)
    have hne := h.fine.1 _ (getD_mem (d := []) hi)
    have hle := h.lens _ (getD_mem (d := []) hi)
    exact ⟨(hc i hi).1, hne, by omega, (hc i hi).2 _ (by omega)⟩

/-- What find answers. -/
def findR (css : List (List ByteArray)) (k : ByteArray) : Value :=
  if cidx css k = css.length then .tuple #[.int .i64 (css.length : Nat), .int .i64 0, .bool false]
  else .tuple #[.int .i64 (cidx css k : Nat), .int .i64 (sidx (css.getD (cidx css k) []) k : Nat), .bool (isAt (css.getD (cidx css k) []) k)]

set_option maxHeartbeats 1000000 in
theorem find_any {w : World} {sb : Nat} {a : Option Addr} {cap : Nat} {css : List (List ByteArray)} {ch : Int} (h : View w sb a cap css ch) (k : ByteArray) :
    Calls Try.prog 36 #[.pointer (some ⟨sb, 0, none⟩), .string k] w fun e w' => e = .returned (findR css k) ∧ w' = w := by
  have hs := fun w' (e : w' = w) => by subst e; exact searchFunc_any h k
  have c0 := h.c0
  have hcl := cidx_le css k
  have hlen := h.len
  by_cases he : cidx css k = css.length
  · have HR : Hid (findR css k = .tuple #[.int .i64 (css.length : Nat), .int .i64 0, .bool false]) := by unfold findR; rw [if_pos he]; rfl
    rw [HR.out]
    rw [he] at hs
    have HS : Hid _ := hs
    clear hs he h
    generalize css.length = n at *
    go_enter Try.func36, Try.ntmps36
    go_wp2_with (go_at_call 42; refine (HS.out _ rfl).mono ?_; rintro e w' ⟨⟨r, rfl⟩, rfl⟩)
    go_ret3
    exact ⟨rfl, rfl⟩
  · have hlt : cidx css k < css.length := by omega
    have HR : Hid (findR css k = .tuple #[.int .i64 (cidx css k : Nat), .int .i64 (sidx (css.getD (cidx css k) []) k : Nat), .bool (isAt (css.getD (cidx css k) []) k)]) := by unfold findR; rw [if_neg he]; rfl
    rw [HR.out]
    obtain ⟨b, off, G, O, C, rfl, hc⟩ := h.places (by omega)
    obtain ⟨hcell, hcs⟩ := hc _ hlt
    have h45 : ∀ c', Calls Try.prog 45 #[.slice (some ⟨G (cidx css k), O (cidx css k), none⟩) (css.getD (cidx css k) []).length c', .string k] w fun e w' => e = .returned (.tuple #[.int .i64 (sidx (css.getD (cidx css k) []) k : Nat), .bool (isAt (css.getD (cidx css k) []) k)]) ∧ w' = w := fun c' =>
      search_some _ _ _ c' _ k _ w (h.lens _ (getD_mem hlt)) rfl hcs (sidx_le _ _) (sidx_lt _ _) (sidx_ge (fine_chunk h.fine (getD_mem hlt)) k)
    have HS : Hid _ := hs
    have H45 : Hid _ := h45
    clear hs h45 hc hcs h HR
    generalize sidx (css.getD (cidx css k) []) k = at' at *
    generalize isAt (css.getD (cidx css k) []) k = fd at *
    generalize (css.getD (cidx css k) []).length = len at *
    generalize G (cidx css k) = g at *
    generalize O (cidx css k) = o at *
    generalize C (cidx css k) = cc at *
    generalize cidx css k = p at *
    generalize css.length = n at *
    have hne : ((p : Int) == (n : Int)) = false := by rw [beq_eq_false_iff_ne]; omega
    go_enter Try.func36, Try.ntmps36
    go_wp2_with (first | (go_at_call 42; refine (HS.out _ rfl).mono ?_; rintro e w' ⟨⟨r, rfl⟩, rfl⟩) | (go_at_call 45; refine (H45.out _).mono ?_; rintro e w' ⟨rfl, rfl⟩))
    go_ret3
    exact ⟨rfl, rfl⟩
end Go.Proofs.Qxb6617214a
