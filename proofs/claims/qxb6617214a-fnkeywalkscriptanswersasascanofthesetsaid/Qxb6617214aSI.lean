/-
  The walk over sortedInsert (21).
-/
import Derived.Test.Qxb6617214aD
import Derived.Test.Qxb6617214aP4
namespace Go.Proofs.Qxb6617214a
open Go.RowKit
set_option linter.unusedVariables false

theorem sidx_step {ss : List ByteArray} {k : ByteArray} {p : Nat} (h : p ≤ sidx ss k) (hl : p < ss.length) (hb : slt (ss.getD p ByteArray.empty) k = true) : p + 1 ≤ sidx ss k := by
  apply Nat.lt_of_le_of_ne h
  intro e
  have := tw_at (fun x => slt x k) ByteArray.empty ss (by show sidx ss k < _; omega)
  rw [show (ss.takeWhile fun x => slt x k).length = p from e.symm] at this
  rw [hb] at this; cases this
theorem sidx_stop {ss : List ByteArray} {k : ByteArray} {p : Nat} (h : p ≤ sidx ss k) (hb : slt (ss.getD p ByteArray.empty) k = false) : p = sidx ss k := by
  apply Nat.le_antisymm h
  apply Nat.le_of_not_lt
  intro hlt
  rw [sidx_lt ss k p hlt] at hb; cases hb
theorem sidx_all {ss : List ByteArray} {k : ByteArray} {p : Nat} (h : p ≤ sidx ss k) (hl : ¬ p < ss.length) : p = sidx ss k := by
  have := sidx_le ss k; omega

theorem ins_getD_lt (l : List ByteArray) (i j : Nat) (x : ByteArray) (hi : i ≤ l.length) (h : j < i) : (ins l i x).getD j ByteArray.empty = l.getD j ByteArray.empty := by
  unfold ins
  rw [List.getD_eq_getElem?_getD, List.getElem?_append_left (by rw [List.length_take]; omega), List.getElem?_take, if_pos h, ← List.getD_eq_getElem?_getD]
theorem ins_getD_at (l : List ByteArray) (i : Nat) (x : ByteArray) (hi : i ≤ l.length) : (ins l i x).getD i ByteArray.empty = x := by
  unfold ins
  rw [List.getD_eq_getElem?_getD, List.getElem?_append_right (by rw [List.length_take]; omega), List.length_take, show i - min i l.length = 0 by omega]
  rfl
theorem ins_getD_gt (l : List ByteArray) (i j : Nat) (x : ByteArray) (hi : i ≤ l.length) (h : i ≤ j) : (ins l i x).getD (j + 1) ByteArray.empty = l.getD j ByteArray.empty := by
  unfold ins
  rw [List.getD_eq_getElem?_getD, List.getElem?_append_right (by rw [List.length_take]; omega), List.length_take, show j + 1 - min i l.length = (j - i) + 1 by omega, List.getElem?_cons_succ, List.getElem?_drop, show i + (j - i) = j by omega, ← List.getD_eq_getElem?_getD]

/-- What sortedInsert hands back: a fresh row, and whether the string is new. -/
def SortRet (w w' : World) (l : List ByteArray) (b : Bool) (e : Ending) : Prop :=
  e = .returned (.tuple #[.slice (some ⟨w.heap.size, 0, none⟩) l.length l.length, .bool b]) ∧ w'.rowIs w.heap.size 9 l.length (full l) ∧ Below w.heap.size w w' ∧ w'.heap.size = w.heap.size + 1

set_option maxHeartbeats 2000000 in
theorem sortedInsert_any (b off c : Nat) (xs : List ByteArray) (k : ByteArray) (w : World) (hl : xs.length ≤ 1073741000)
    (hc : ∀ j, j < xs.length → w.cell? ⟨b, off + j, none⟩ = some (.string (xs.getD j ByteArray.empty))) :
    Calls Try.prog 21 #[.slice (some ⟨b, off, none⟩) xs.length c, .string k] w fun e w' => SortRet w w' (insS xs k) (!isAt xs k) e := by
  have H31 : Hid _ := fun (_ : True) => cloneStrs_some b off c xs w (by omega) hc
  have hmk := run_make_row' (P := Try.prog) 29 9 (.string ⟨#[]⟩) 16 Try.underlying29 info9 rfl .i64 .i64 (xs.length + 1) (by omega) (by omega)
  rw [show ((xs.length + 1 : Nat) : Int) = (xs.length : Int) + 1 from by omega] at hmk
  have HMK : Hid _ := hmk
  clear hmk
  have hsl := sidx_le xs k
  go_enter Try.func21, Try.ntmps21
  go_wp2
  go_loop [6] (fun s => ∃ p : Nat, p ≤ sidx xs k ∧ s = .int .i64 p) (fun s => xs.length - (intOf s).toNat)
  case atStart => exact ⟨0, Nat.zero_le _, rfl⟩
  case round =>
    obtain ⟨p, hp, rfl⟩ := hrel
    by_cases hcont : p < xs.length ∧ slt (xs.getD p ByteArray.empty) k = true
    · obtain ⟨hlt, hb⟩ := hcont
      have cx := hc p hlt
      have hst := sidx_step hp hlt hb
      have hb' : Op.bytesLess (xs.getD p ByteArray.empty).toList k.toList = true := hb
      clear hb
      generalize xs.getD p ByteArray.empty = x at *
      clear hc
      go_wp2
      go_round
      case rel => exact ⟨p + 1, hst, by go_num⟩
      case measure => simp [intOf]; omega
    · have hps : p = sidx xs k := by
        by_cases hlt : p < xs.length
        · have hb : slt (xs.getD p ByteArray.empty) k = false := by
            cases hb : slt (xs.getD p ByteArray.empty) k with
            | false => rfl
            | true => exact absurd ⟨hlt, hb⟩ hcont
          exact sidx_stop hp hb
        · exact sidx_all hp hlt
      cases hia : isAt xs k with
      | true =>
        obtain ⟨h1, h2⟩ := of_decide_eq_true hia
        rw [← hps] at h1 h2
        have cx := hc p h1
        rw [h2] at cx
        have hb' : Op.bytesLess k.toList k.toList = false := slt_irrefl k
        have HIN : Hid (insS xs k = xs) := by show insS xs k = xs; unfold insS; rw [hia, if_pos rfl]
        have HIA : Hid (isAt xs k = true) := hia
        clear hc hps h2 HMK hcont hia
        go_wp2_with (go_at_call 31; refine (H31.out trivial).mono ?_; rintro e w1 ⟨rfl, hr1, hb1, hs1⟩)
        go_ret2
        exact ⟨by rw [HIN.out, HIA.out]; rfl, by rw [HIN.out]; exact hr1, hb1, hs1⟩
      | false =>
        have HIN : Hid (insS xs k = ins xs p k) := by show insS xs k = _; unfold insS; rw [hia, if_neg (by simp), ← hps]
        have hpl : p ≤ xs.length := by omega
        have hnl := ins_length xs p k hpl
        have HA : Hid (∀ j, j < p → (ins xs p k).getD j ByteArray.empty = xs.getD j ByteArray.empty) := fun j hj => ins_getD_lt xs p j k hpl hj
        have HBe : Hid ((ins xs p k).getD p ByteArray.empty = k) := ins_getD_at xs p k hpl
        have HCe : Hid (∀ j, p ≤ j → (ins xs p k).getD (j + 1) ByteArray.empty = xs.getD j ByteArray.empty) := fun j hj => ins_getD_gt xs p j k hpl hj
        have hcase : (∃ x, p < xs.length ∧ w.cell? ⟨b, off + p, none⟩ = some (.string x) ∧ Op.bytesLess x.toList k.toList = false ∧ (x.toList == k.toList) = false) ∨ ¬ p < xs.length := by
          by_cases hlt : p < xs.length
          · refine .inl ⟨_, hlt, hc p hlt, ?_, ?_⟩
            · cases hb : Op.bytesLess (xs.getD p ByteArray.empty).toList k.toList with
              | false => rfl
              | true => exact absurd ⟨hlt, hb⟩ hcont
            · rw [beq_eq_false_iff_ne]
              intro e
              have := toList_inj e
              unfold isAt at hia
              exact absurd ⟨by rw [← hps]; exact hlt, by rw [← hps]; exact this⟩ (of_decide_eq_false hia)
          · exact .inr hlt
        obtain ⟨N, hN⟩ : ∃ N, ins xs p k = N := ⟨_, rfl⟩
        rw [hN] at HIN hnl HA HBe HCe
        have HIA : Hid (isAt xs k = false) := hia
        clear hN hps hcont H31 hia hp hsl
        have HC : Hid (∀ j, j < xs.length → w.cell? ⟨b, off + j, none⟩ = some (.string (xs.getD j ByteArray.empty))) := hc
        have HNL : Hid (N.length = xs.length + 1) := hnl
        clear hc hnl
        have hmk := HMK.out
        clear HMK
        rcases hcase with ⟨x, hlt, cx, hb1, hb2⟩ | hlt
        all_goals
          go_wp2
          clear hmk
          go_loopw [8] (fun i wr => ∃ m : Nat, m ≤ p ∧ i = .int .i64 m ∧ wr.rowIs w.heap.size 9 (xs.length + 1) (part N m) ∧ Below w.heap.size w wr ∧ wr.heap.size = w.heap.size + 1) (fun i _ => p - (intOf i).toNat)
          case atStart => exact ⟨0, Nat.zero_le _, rfl, (World.rowIs_made w _ _ 9).congr (fun j _ => by unfold part; rw [if_neg (by omega)]), (Below.refl _ _).alloc (Nat.le_refl _) _, by simp⟩
          case round =>
            obtain ⟨m, hm, rfl, hrow, hbel, hsz⟩ := hrel
            by_cases hmp : m < p
            · have hc0 := HC.out m (by omega)
              obtain ⟨y, hye⟩ : ∃ y, xs.getD m ByteArray.empty = y := ⟨_, rfl⟩
              rw [hye] at hc0
              have hblt : b < w.heap.size := World.block_lt_of_cell? w _ hc0
              have hcx : wr.cell? ⟨b, off + m, none⟩ = some (.string y) := (hbel.cell (by exact hblt)).trans hc0
              have hold := hrow.cell (i := m) (by omega)
              have hfz := hrow.frozen m
              have HN : Hid _ := rowIs_step hrow ((HA.out m hmp).trans hye)
              have HB : Hid _ := hbel
              have HZ : Hid (wr.heap.size = w.heap.size + 1) := hsz
              clear hc0 hrow hbel hye hsz
              generalize part N m m = u at hold
              go_wp2
              go_roundw
              case rel => exact ⟨m + 1, by omega, by go_num, HN.out, HB.out.setCell (Nat.le_refl _) _, by simpa [World.setCell] using HZ.out⟩
              case measure => simp [intOf]; omega
            · have hme : m = p := by omega
              subst hme
              have hold := hrow.cell (i := m) (by omega)
              have hfz := hrow.frozen m
              have HN : Hid _ := rowIs_step hrow HBe.out
              have HB : Hid (Below w.heap.size w (wr.setCell ⟨w.heap.size, m, none⟩ (.string k))) := hbel.setCell (Nat.le_refl _) _
              have HZ : Hid ((wr.setCell ⟨w.heap.size, m, none⟩ (.string k)).heap.size = w.heap.size + 1) := by show _ = _; simpa [World.setCell] using hsz
              clear hrow hbel hsz
              generalize part N m m = u at hold
              go_wp2
              clear hold hfz hlt
              go_loopw [9] (fun i wr => ∃ q : Nat, m ≤ q ∧ q ≤ xs.length ∧ i = .int .i64 q ∧ wr.rowIs w.heap.size 9 (xs.length + 1) (part N (q + 1)) ∧ Below w.heap.size w wr ∧ wr.heap.size = w.heap.size + 1) (fun i _ => xs.length - (intOf i).toNat)
              case atStart => exact ⟨m, Nat.le_refl _, hpl, rfl, HN.out, HB.out, HZ.out⟩
              case round =>
                obtain ⟨q, hq1, hq2, rfl, hrow, hbel, hsz⟩ := hrel
                by_cases hql : q < xs.length
                · have hc0 := HC.out q hql
                  obtain ⟨y, hye⟩ : ∃ y, xs.getD q ByteArray.empty = y := ⟨_, rfl⟩
                  rw [hye] at hc0
                  have hblt : b < w.heap.size := World.block_lt_of_cell? w _ hc0
                  have hcx : wr.cell? ⟨b, off + q, none⟩ = some (.string y) := (hbel.cell (by exact hblt)).trans hc0
                  have hold := hrow.cell (i := q + 1) (by omega)
                  have hfz := hrow.frozen (q + 1)
                  have HN2 : Hid _ := rowIs_step hrow ((HCe.out q hq1).trans hye)
                  have HB2 : Hid _ := hbel
                  have HZ2 : Hid (wr.heap.size = w.heap.size + 1) := hsz
                  clear hc0 hrow hbel hye hsz
                  generalize part N (q + 1) (q + 1) = u at hold
                  go_wp2
                  go_roundw
                  case rel => exact ⟨q + 1, by omega, by omega, by go_num, HN2.out, HB2.out.setCell (Nat.le_refl _) _, by simpa [World.setCell] using HZ2.out⟩
                  case measure => simp [intOf]; omega
                · have hfin : Hid _ := rowIs_done hrow (by omega)
                  have HB2 : Hid _ := hbel
                  have HZ2 : Hid (wr.heap.size = w.heap.size + 1) := hsz
                  clear hrow hbel hsz
                  go_wp2
                  go_ret2
                  exact ⟨by rw [HIN.out, HNL.out, HIA.out]; rfl, by rw [HIN.out, HNL.out]; exact hfin.out, HB2.out, HZ2.out⟩
end Go.Proofs.Qxb6617214a
