/-
  A key set that the call owns, one chunk of it made anew; the library's calls in the set's own words.
-/
import Derived.Test.Qxb6617214aV
namespace Go.Proofs.Qxb6617214a
open Go.RowKit Go.Lib
set_option linter.unusedVariables false

/-- F, and what has been made since. -/
def F2 (F : Nat → Prop) (w w' : World) (b : Nat) : Prop := F b ∨ (w.heap.size ≤ b ∧ b < w'.heap.size)

theorem es_split {α : Type} (es : List α) (i : Nat) (hi : i < es.length) : es = es.take i ++ es[i] :: es.drop (i + 1) := by
  conv => lhs; rw [← List.take_append_drop i es, List.drop_eq_getElem_cons hi]
theorem set_eq {α : Type} (es : List α) (i : Nat) (hi : i < es.length) (e : α) : es.set i e = es.take i ++ [e] ++ es.drop (i + 1) := by
  rw [List.set_eq_take_append_cons_drop, if_pos hi]; simp

section
variable {F : Nat → Prop} {w w2 : World} {sb : Nat} {es : List Ent} {ch ch' : Int} {a a' : Option Addr} {cap cap' : Nat}

theorem Own.rebuild (h : Own F w sb es ch a cap) {ab ab' i : Nat} (ha : a = some ⟨ab, 0, none⟩) (hi : i < es.length) (mid : List Ent)
    (hk : Kp (fun b => b = es[i].g ∨ b = ab ∨ b = sb) w w2)
    (hs : w2.heap[sb]? = some (.cells #[.slice (some ⟨ab', 0, none⟩) (es.take i ++ mid ++ es.drop (i + 1)).length cap', .int .u64 ch'] 54 (0, 0)))
    (hr : RowV w2 ab' 29 cap' ((es.take i ++ mid ++ es.drop (i + 1)).map entVal)) (hab : ab' = ab ∨ w.heap.size ≤ ab')
    (hmid : ∀ e ∈ mid, RowV w2 e.g 9 e.c (strVals e.ss) ∧ (e.g = es[i].g ∨ w.heap.size ≤ e.g) ∧ e.g ≠ ab')
    (hnd : (mid.map Ent.g).Nodup) (hok : OK (cssOf (es.take i ++ mid ++ es.drop (i + 1)))) :
    Own (F2 F w w2) w2 sb (es.take i ++ mid ++ es.drop (i + 1)) ch' (some ⟨ab', 0, none⟩) cap' ∧ Kp F w w2 := by
  obtain ⟨ab0, ha0, hr0, h1, h2, h3⟩ : ∃ ab, a = some ⟨ab, 0, none⟩ ∧ RowV w ab 29 cap (es.map entVal) ∧ ab ≠ sb ∧ F ab ∧ ∀ e ∈ es, e.g ≠ ab := by
    rcases h.arr with ⟨h0, _⟩ | h0
    · rw [ha] at h0; cases h0
    · exact h0
  rw [ha] at ha0
  obtain rfl : ab = ab0 := by cases ha0; rfl
  have hei := h.rows es[i] (List.getElem_mem hi)
  have hsbl := h.lt
  have habl := hr0.lt
  have hspl := es_split es i hi
  have hnd0 := h.nodup
  rw [hspl] at hnd0
  simp only [List.map_append, List.map_cons] at hnd0
  obtain ⟨n1, n2, n3⟩ := List.nodup_append.1 hnd0
  obtain ⟨n4, n5⟩ := List.nodup_cons.1 n2
  -- an old chunk that stays
  have hold : ∀ e ∈ es, e.g ≠ es[i].g → RowV w2 e.g 9 e.c (strVals e.ss) ∧ e.g ≠ sb ∧ F2 F w w2 e.g ∧ e.g < w.heap.size ∧ e.g ≠ ab' := by
    intro e he hne
    obtain ⟨q1, q2, q3⟩ := h.rows e he
    have q4 := h3 e he
    refine ⟨q1.kp hk (by rintro (q | q | q); exact hne q; exact q4 q; exact q2 q), q2, .inl q3, q1.lt, ?_⟩
    rcases hab with rfl | hab
    · exact q4
    · have := q1.lt; omega
  have htake : ∀ e ∈ es.take i, e.g ≠ es[i].g := fun e he hh => n3 e.g (List.mem_map_of_mem he) es[i].g (by simp) hh
  have hdrop : ∀ e ∈ es.drop (i + 1), e.g ≠ es[i].g := fun e he hh => n4 (by rw [← hh]; exact List.mem_map_of_mem he)
  refine ⟨⟨hs, .inl h.fsb, .inr ⟨ab', rfl, hr, ?_, ?_, ?_⟩, ?_, ?_, hok⟩, hk.mono ?_⟩
  · rcases hab with rfl | hab
    · exact h1
    · omega
  · rcases hab with rfl | hab
    · exact .inl h2
    · exact .inr ⟨hab, hr.lt⟩
  · intro e he
    rw [List.mem_append, List.mem_append] at he
    rcases he with (he | he) | he
    · exact (hold e (List.mem_of_mem_take he) (htake e he)).2.2.2.2
    · exact (hmid e he).2.2
    · exact (hold e (List.mem_of_mem_drop he) (hdrop e he)).2.2.2.2
  · intro e he
    rw [List.mem_append, List.mem_append] at he
    rcases he with (he | he) | he
    · obtain ⟨q1, q2, q3, _⟩ := hold e (List.mem_of_mem_take he) (htake e he); exact ⟨q1, q2, q3⟩
    · obtain ⟨q1, q2, _⟩ := hmid e he
      refine ⟨q1, ?_, ?_⟩
      · rcases q2 with q2 | q2
        · rw [q2]; exact hei.2.1
        · omega
      · rcases q2 with q2 | q2
        · rw [q2]; exact .inl hei.2.2
        · exact .inr ⟨q2, q1.lt⟩
    · obtain ⟨q1, q2, q3, _⟩ := hold e (List.mem_of_mem_drop he) (hdrop e he); exact ⟨q1, q2, q3⟩
  · simp only [List.map_append]
    have dis : ∀ e ∈ es, e.g ≠ es[i].g → ∀ m ∈ mid, e.g ≠ m.g := fun e he hne m hm hh => by
      obtain ⟨_, _, _, q4, _⟩ := hold e he hne
      rcases (hmid m hm).2.1 with q | q
      · exact hne (hh.trans q)
      · omega
    rw [List.nodup_append, List.nodup_append]
    refine ⟨⟨n1, hnd, fun x hx y hy => ?_⟩, n5, fun x hx y hy => ?_⟩
    · obtain ⟨e, he, rfl⟩ := List.mem_map.1 hx
      obtain ⟨m, hm, rfl⟩ := List.mem_map.1 hy
      exact dis e (List.mem_of_mem_take he) (htake e he) m hm
    · obtain ⟨d, hd, rfl⟩ := List.mem_map.1 hy
      rw [List.mem_append] at hx
      rcases hx with hx | hx
      · exact n3 x hx d.g (List.mem_cons_of_mem _ (List.mem_map_of_mem hd))
      · obtain ⟨m, hm, rfl⟩ := List.mem_map.1 hx
        exact fun hh => dis d (List.mem_of_mem_drop hd) (hdrop d hd) m hm hh.symm
  · rintro b hb (rfl | rfl | rfl)
    · exact hei.2.2
    · exact h2
    · exact h.fsb
end

/-! ### the library's calls, at the set's own chunks -/
theorem ins_ent (g c i vb : Nat) (ss : List ByteArray) (k : ByteArray) (w : World) (h : RowV w g 9 c (strVals ss)) (hv : RowV w vb 9 1 [.string k]) (hne : vb ≠ g) (hi : i ≤ ss.length) (hbig : ss.length ≤ 1073741824) :
    Calls Try.prog 37 #[.slice (some ⟨g, 0, none⟩) ss.length c, .int .i64 i, .slice (some ⟨vb, 0, none⟩) 1 1] w fun e w' =>
      ∃ g' c', e = .returned (.slice (some ⟨g', 0, none⟩) (ss.length + 1) c') ∧ RowV w' g' 9 c' (strVals (ins ss i k)) ∧ (g' = g ∨ g' = w.heap.size) ∧ w.grownBy w' (some g) := by
  have := insStr_any g c i vb (strVals ss) (.string k) w h hv hne (by rw [strVals_len]; exact hi) (by rw [strVals_len]; exact hbig) (strVals_one ss) rfl
  rw [strVals_len, strVals_ins] at this
  exact this
theorem del_ent (g c i : Nat) (ss : List ByteArray) (w : World) (h : RowV w g 9 c (strVals ss)) (hi : i < ss.length) :
    Calls Try.prog 40 #[.slice (some ⟨g, 0, none⟩) ss.length c, .int .i64 i, .int .i64 ((i : Int) + 1)] w fun e w' =>
      e = .returned (.slice (some ⟨g, 0, none⟩) (ss.length - 1) c) ∧ RowV w' g 9 c (strVals (ss.eraseIdx i)) ∧ w.grownBy w' (some g) := by
  have := delStr_any g c i (strVals ss) w h (by rw [strVals_len]; exact hi) (strVals_one ss)
  rw [strVals_len, strVals_erase] at this
  exact this
theorem ins_arr (ab cap i vb : Nat) (es : List Ent) (e : Ent) (w : World) (h : RowV w ab 29 cap (es.map entVal)) (hv : RowV w vb 29 1 [entVal e]) (hne : vb ≠ ab) (hi : i ≤ es.length) (hbig : es.length ≤ 1073741824) :
    Calls Try.prog 39 #[.slice (some ⟨ab, 0, none⟩) es.length cap, .int .i64 i, .slice (some ⟨vb, 0, none⟩) 1 1] w fun r w' =>
      ∃ ab' cap', r = .returned (.slice (some ⟨ab', 0, none⟩) (es.length + 1) cap') ∧ RowV w' ab' 29 cap' ((ins es i e).map entVal) ∧ (ab' = ab ∨ ab' = w.heap.size) ∧ w.grownBy w' (some ab) := by
  have := insChk_any ab cap i vb (es.map entVal) (entVal e) w h hv hne (by simpa using hi) (by simpa using hbig) (entVals_one es) rfl
  rw [List.length_map, entVals_ins] at this
  exact this
theorem del_arr (ab cap i : Nat) (es : List Ent) (w : World) (h : RowV w ab 29 cap (es.map entVal)) (hi : i < es.length) :
    Calls Try.prog 41 #[.slice (some ⟨ab, 0, none⟩) es.length cap, .int .i64 i, .int .i64 ((i : Int) + 1)] w fun r w' =>
      r = .returned (.slice (some ⟨ab, 0, none⟩) (es.length - 1) cap) ∧ RowV w' ab 29 cap ((es.eraseIdx i).map entVal) ∧ w.grownBy w' (some ab) := by
  have := delChk_any ab cap i (es.map entVal) w h (by simpa using hi) (entVals_one es)
  rw [List.length_map, entVals_erase] at this
  exact this
end Go.Proofs.Qxb6617214a
