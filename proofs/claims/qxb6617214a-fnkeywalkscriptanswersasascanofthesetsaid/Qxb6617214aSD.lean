/-
  The walk over sortedDelete (13).
-/
import Derived.Test.Qxb6617214aSI
namespace Go.Proofs.Qxb6617214a
open Go.RowKit
set_option linter.unusedVariables false

theorem era_getD_lt (l : List ByteArray) (i j : Nat) (h : j < i) : (l.eraseIdx i).getD j ByteArray.empty = l.getD j ByteArray.empty := by
  rw [List.getD_eq_getElem?_getD, List.getElem?_eraseIdx, if_pos h, ← List.getD_eq_getElem?_getD]
theorem era_getD_ge (l : List ByteArray) (i j : Nat) (h : i ≤ j) : (l.eraseIdx i).getD j ByteArray.empty = l.getD (j + 1) ByteArray.empty := by
  rw [List.getD_eq_getElem?_getD, List.getElem?_eraseIdx, if_neg (by omega), ← List.getD_eq_getElem?_getD]

set_option maxHeartbeats 2000000 in
theorem sortedDelete_any (b off c : Nat) (xs : List ByteArray) (k : ByteArray) (w : World) (hl : xs.length ≤ 1073741000)
    (hc : ∀ j, j < xs.length → w.cell? ⟨b, off + j, none⟩ = some (.string (xs.getD j ByteArray.empty))) :
    Calls Try.prog 13 #[.slice (some ⟨b, off, none⟩) xs.length c, .string k] w fun e w' => SortRet w w' (delS xs k) (isAt xs k) e := by
  have H31 : Hid _ := fun (_ : True) => cloneStrs_some b off c xs w (by omega) hc
  have hsl := sidx_le xs k
  go_enter Try.func13, Try.ntmps13
  go_wp2
  go_loop [6] (fun s => ∃ p : Nat, p ≤ sidx xs k ∧ s = .int .i64 p) (fun s => xs.length - (intOf s).toNat)
  case atStart => exact ⟨0, Nat.zero_le _, rfl⟩
  case round =>
    obtain ⟨p, hp, rfl⟩ := hrel
    by_cases hcont : p < xs.length ∧ slt (xs.getD p ByteArray.empty) k = true
    · obtain ⟨hlt, hb⟩ := hcont
      have cx := hc p hlt
      have hst := sidx_step hp hlt hb
      have hb' : Op.bytesLess (xs.getD p ByteArray.empty).toList k.toList = true := hb
      clear hb
      generalize xs.getD p ByteArray.empty = x at *
      clear hc
      go_wp2
      go_round
      case rel => exact ⟨p + 1, hst, by go_num⟩
      case measure => simp [intOf]; omega
    · have hps : p = sidx xs k := by
        by_cases hlt : p < xs.length
        · have hb : slt (xs.getD p ByteArray.empty) k = false := by
            cases hb : slt (xs.getD p ByteArray.empty) k with
            | false => rfl
            | true => exact absurd ⟨hlt, hb⟩ hcont
          exact sidx_stop hp hb
        · exact sidx_all hp hlt
      cases hia : isAt xs k with
      | false =>
        have hcase : (∃ x, p < xs.length ∧ w.cell? ⟨b, off + p, none⟩ = some (.string x) ∧ Op.bytesLess x.toList k.toList = false ∧ (x.toList == k.toList) = false) ∨ ¬ p < xs.length := by
          by_cases hlt : p < xs.length
          · refine .inl ⟨_, hlt, hc p hlt, ?_, ?_⟩
            · cases hb : Op.bytesLess (xs.getD p ByteArray.empty).toList k.toList with
              | false => rfl
              | true => exact absurd ⟨hlt, hb⟩ hcont
            · rw [beq_eq_false_iff_ne]
              intro e
              have := toList_inj e
              unfold isAt at hia
              exact absurd ⟨by rw [← hps]; exact hlt, by rw [← hps]; exact this⟩ (of_decide_eq_false hia)
          · exact .inr hlt
        have HIN : Hid (delS xs k = xs) := by show delS xs k = xs; unfold delS; rw [hia, if_neg (by simp)]
        have HIA : Hid (isAt xs k = false) := hia
        clear hc hps hcont hia
        rcases hcase with ⟨x, hlt, cx, hb1, hb2⟩ | hlt
        · have hnn : ((p : Int) == (xs.length : Int)) = false := by rw [beq_eq_false_iff_ne]; omega
          go_wp2_with (go_at_call 31; refine (H31.out trivial).mono ?_; rintro e w1 ⟨rfl, hr1, hb1, hs1⟩)
          go_ret2
          exact ⟨by rw [HIN.out, HIA.out]; rfl, by rw [HIN.out]; exact hr1, hb1, hs1⟩
        · have hnn : ((p : Int) == (xs.length : Int)) = true := by rw [beq_iff_eq]; omega
          go_wp2_with (go_at_call 31; refine (H31.out trivial).mono ?_; rintro e w1 ⟨rfl, hr1, hb1, hs1⟩)
          go_ret2
          exact ⟨by rw [HIN.out, HIA.out]; rfl, by rw [HIN.out]; exact hr1, hb1, hs1⟩
      | true =>
        obtain ⟨hlt, h2⟩ := of_decide_eq_true hia
        rw [← hps] at hlt h2
        have cx := hc p hlt
        rw [h2] at cx
        have hb' : Op.bytesLess k.toList k.toList = false := slt_irrefl k
        have hnn : ((p : Int) == (xs.length : Int)) = false := by rw [beq_eq_false_iff_ne]; omega
        have HIN : Hid (delS xs k = xs.eraseIdx p) := by show delS xs k = _; unfold delS; rw [hia, if_pos rfl, ← hps]
        have hnl : (xs.eraseIdx p).length = xs.length - 1 := List.length_eraseIdx_of_lt hlt
        have HA : Hid (∀ j, j < p → (xs.eraseIdx p).getD j ByteArray.empty = xs.getD j ByteArray.empty) := fun j hj => era_getD_lt xs p j hj
        have HCe : Hid (∀ j, p ≤ j → (xs.eraseIdx p).getD j ByteArray.empty = xs.getD (j + 1) ByteArray.empty) := fun j hj => era_getD_ge xs p j hj
        obtain ⟨N, hN⟩ : ∃ N, xs.eraseIdx p = N := ⟨_, rfl⟩
        rw [hN] at HIN hnl HA HCe
        obtain ⟨L, hL⟩ : ∃ L, xs.length = L + 1 := ⟨xs.length - 1, by omega⟩
        have HIA : Hid (isAt xs k = true) := hia
        rw [hL] at hc hlt hl hnn hnl
        rw [Nat.add_sub_cancel] at hnl
        have hmk := run_make_row' (P := Try.prog) 29 9 (.string ⟨#[]⟩) 16 Try.underlying29 info9 rfl .i64 .i64 L (by omega) (by omega)
        have HC : Hid (∀ j, j < L + 1 → w.cell? ⟨b, off + j, none⟩ = some (.string (xs.getD j ByteArray.empty))) := hc
        have HNL : Hid (N.length = L) := hnl
        clear hN hps hcont H31 hia hp hsl hc hnl h2
        rw [hL]
        clear hL
        go_wp2
        clear hmk cx
        go_loopw [8] (fun i wr => ∃ m : Nat, m ≤ p ∧ i = .int .i64 m ∧ wr.rowIs w.heap.size 9 L (part N m) ∧ Below w.heap.size w wr ∧ wr.heap.size = w.heap.size + 1) (fun i _ => p - (intOf i).toNat)
        case atStart => exact ⟨0, Nat.zero_le _, rfl, (World.rowIs_made w _ _ 9).congr (fun j _ => by unfold part; rw [if_neg (by omega)]), (Below.refl _ _).alloc (Nat.le_refl _) _, by simp⟩
        case round =>
          obtain ⟨m, hm, rfl, hrow, hbel, hsz⟩ := hrel
          by_cases hmp : m < p
          · have hc0 := HC.out m (by omega)
            obtain ⟨y, hye⟩ : ∃ y, xs.getD m ByteArray.empty = y := ⟨_, rfl⟩
            rw [hye] at hc0
            have hblt : b < w.heap.size := World.block_lt_of_cell? w _ hc0
            have hcx : wr.cell? ⟨b, off + m, none⟩ = some (.string y) := (hbel.cell (by exact hblt)).trans hc0
            have hold := hrow.cell (i := m) (by omega)
            have hfz := hrow.frozen m
            have HN : Hid _ := rowIs_step hrow ((HA.out m hmp).trans hye)
            have HB : Hid _ := hbel
            have HZ : Hid (wr.heap.size = w.heap.size + 1) := hsz
            clear hc0 hrow hbel hye hsz
            generalize part N m m = u at hold
            go_wp2
            go_roundw
            case rel => exact ⟨m + 1, by omega, by go_num, HN.out, HB.out.setCell (Nat.le_refl _) _, by simpa [World.setCell] using HZ.out⟩
            case measure => simp [intOf]; omega
          · have hme : m = p := by omega
            subst hme
            have HN : Hid _ := hrow
            have HB : Hid (Below w.heap.size w wr) := hbel
            have HZ : Hid (wr.heap.size = w.heap.size + 1) := hsz
            clear hrow hbel hsz
            go_wp2
            go_loopw [9] (fun i wr => ∃ q : Nat, m ≤ q ∧ q ≤ L ∧ i = .int .i64 (q + 1 : Nat) ∧ wr.rowIs w.heap.size 9 L (part N q) ∧ Below w.heap.size w wr ∧ wr.heap.size = w.heap.size + 1) (fun i _ => L + 1 - (intOf i).toNat)
            case atStart => exact ⟨m, Nat.le_refl _, by omega, by go_num, HN.out, HB.out, HZ.out⟩
            case round =>
              obtain ⟨q, hq1, hq2, rfl, hrow, hbel, hsz⟩ := hrel
              by_cases hql : q < L
              · have hc0 := HC.out (q + 1) (by omega)
                obtain ⟨y, hye⟩ : ∃ y, xs.getD (q + 1) ByteArray.empty = y := ⟨_, rfl⟩
                rw [hye] at hc0
                have hblt : b < w.heap.size := World.block_lt_of_cell? w _ hc0
                have hcx : wr.cell? ⟨b, off + (q + 1), none⟩ = some (.string y) := (hbel.cell (by exact hblt)).trans hc0
                have hold := hrow.cell (i := q) hql
                have hfz := hrow.frozen q
                have HN2 : Hid _ := rowIs_step hrow ((HCe.out q hq1).trans hye)
                have HB2 : Hid _ := hbel
                have HZ2 : Hid (wr.heap.size = w.heap.size + 1) := hsz
                clear hc0 hrow hbel hye hsz
                generalize part N q q = u at hold
                go_wp2
                go_roundw
                case rel => exact ⟨q + 1, by omega, by omega, by go_num, HN2.out, HB2.out.setCell (Nat.le_refl _) _, by simpa [World.setCell] using HZ2.out⟩
                case measure => simp [intOf]; omega
              · have hfin : Hid _ := rowIs_done hrow (by omega)
                have HB2 : Hid _ := hbel
                have HZ2 : Hid (wr.heap.size = w.heap.size + 1) := hsz
                clear hrow hbel hsz
                go_wp2
                go_ret2
                exact ⟨by rw [HIN.out, HNL.out, HIA.out]; rfl, by rw [HIN.out, HNL.out]; exact hfin.out, HB2.out, HZ2.out⟩
end Go.Proofs.Qxb6617214a
