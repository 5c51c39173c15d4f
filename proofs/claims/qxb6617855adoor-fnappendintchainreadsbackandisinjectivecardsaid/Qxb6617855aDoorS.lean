/-
  append ONTO A ROW OF BYTES OF ONE's OWN, with the whole frame: of the blocks that were there only the row's own may turn, and what comes back lies in that block or in a new one.
-/
import Derived.Test.Qxb6617855aDoorA
import Derived.Lib.AppendStr
import Derived.OwnWalk
namespace Go.Proofs.Qxb6617855aDoor
open Go.RowKit Go.Lib
set_option linter.unusedVariables false

/-- v' holds xs; only sv's block, of those of w, may have turned; v' lies there or in a new block. -/
structure App (B : Nat) (sv : Value) (w w' : World) (v' : Value) (n : Nat) (xs : List Value) : Prop where
  own : w'.ownsRow B 5 1 v' n xs
  grown : w.grownBy w' sv.ownBlock
  mv : v'.ownBlock = sv.ownBlock ∨ ∃ k, v'.ownBlock = some k ∧ w.heap.size ≤ k

section
variable {B : Nat} {sv v1 v2 : Value} {w w1 w2 : World} {n n1 n2 : Nat} {xs xs1 xs2 : List Value}
theorem App.trans (h : App B sv w w1 v1 n1 xs1) (k : App B v1 w1 w2 v2 n2 xs2) : App B sv w w2 v2 n2 xs2 := by
  have hs := h.grown.size
  refine ⟨k.own, ⟨k.grown.os.trans h.grown.os, k.grown.tape.trans h.grown.tape, k.grown.output.trans h.grown.output, Nat.le_trans hs k.grown.size, fun b hb hne => ?_⟩, ?_⟩
  · rw [k.grown.block b (by omega) ?_]
    · exact h.grown.block b hb hne
    · intro e
      rcases h.mv with e2 | ⟨m, e2, hm⟩
      · exact hne (e.trans e2)
      · rw [e2] at e
        cases e
        omega
  · rcases k.mv with e | ⟨m, e, hm⟩
    · rcases h.mv with e2 | ⟨m, e2, hm⟩
      · exact .inl (e.trans e2)
      · exact .inr ⟨m, e.trans e2, hm⟩
    · exact .inr ⟨m, e, by omega⟩
/-- A world that has grown ahead of it. -/
theorem App.after (hb : Below w.heap.size w w1) (h : App B sv w1 w2 v2 n2 xs2) : App B sv w w2 v2 n2 xs2 := by
  have hs := hb.size
  refine ⟨h.own, ⟨h.grown.os.trans hb.os, h.grown.tape.trans hb.tape, h.grown.output.trans hb.output, Nat.le_trans hs h.grown.size, fun b hlt hne => (h.grown.block b (by omega) hne).trans (hb.block b hlt)⟩, ?_⟩
  rcases h.mv with e | ⟨m, e, hm⟩
  · exact .inl e
  · exact .inr ⟨m, e, by omega⟩
theorem App.below (h : App B sv w w1 v1 n1 xs1) (ho : w.ownsRow B 5 1 sv n xs) (hB : B ≤ w.heap.size) : Below B w w1 :=
  (Below.refl B w).grown h.grown hB (fun k hk => (ho.lt k hk).1)
end

theorem append_app (B : Nat) (ty : TypeId) (v : Value) (n : Nat) (xs : List Value) (w : World) (hown : w.ownsRow B 5 1 v n xs) (a : Addr) (m c : Nat) (news : List Value) (hm : 0 < m) (hl : news.length = m) (hnews : ∀ j u, news[j]? = some u → w.cell? (a.add j) = some u) (h1 : ∀ u ∈ news, u.oneCell' = true)
    (hbytes : n + m ≤ 140737488355328) (hbase : B ≤ w.heap.size) :
    ∃ v' w', (Builtin.append_ #[22, 22] ty #[v, .slice (some a) m c]).run Tryd.prog w = .ok v' w' ∧ App B v w w' v' (n + m) (xs ++ news) := by
  obtain ⟨i0, hi, hz0, hz1, hz2⟩ := info_parts info5
  obtain ⟨v', w', hr, h2, h3, _⟩ := run_append_own (P := Tryd.prog) w B 22 ty 5 i0 (.int .u8 0) 1 1 Tryd.underlying22 hi hz0 hz1 hz2 rfl (by decide) v n xs hown a m c news (by rw [hl]; omega) hnews h1 (by unfold maxLen; omega) (by omega) hbase
  refine ⟨v', w', hr, h2, h3, ?_⟩
  have hxl : xs.length = n := by simpa using hown.1
  rcases hown.2 with ⟨rfl, rfl⟩ | ⟨g, cap, cur, rfl, hbg, hg, hnc, hcm, hcs, htake⟩
  · have hr2 := run_append_nil (P := Tryd.prog) w 22 ty 5 i0 (.int .u8 0) Tryd.underlying22 hi hz0 a m c news (by rw [hz1, hl]; omega) hnews hm (by omega) (by rw [hz2]; omega)
    rw [hr2] at hr
    simp only [Result.ok.injEq] at hr
    rw [← hr.1]
    exact .inr ⟨_, rfl, Nat.le_refl _⟩
  · by_cases hroom : n + m ≤ cap
    · have hr2 := run_append_room (P := Tryd.prog) w 22 ty 5 i0 Tryd.underlying22 hi g n cap cur hg a m c news (by rw [hz1, hl]; omega) hnews h1 hroom (by rw [hz1, hl]; simp only [Nat.mul_one] at hcs ⊢; omega)
      rw [hr2] at hr
      simp only [Result.ok.injEq] at hr
      rw [← hr.1]
      exact .inl rfl
    · have hr2 := run_append_grow (P := Tryd.prog) w 22 ty 5 i0 (.int .u8 0) Tryd.underlying22 hi hz0 ⟨g, 0, none⟩ n cap xs (by rw [hz1, hxl]; omega) (hown.cells (g := g) rfl) a m c news (by rw [hz1, hl]; omega) hnews (by omega) (by omega) (by rw [hz2]; exact growslice_fits (by omega) (by omega))
      rw [hr2] at hr
      simp only [Result.ok.injEq] at hr
      rw [← hr.1]
      exact .inr ⟨_, rfl, Nat.le_refl _⟩

theorem append_app_string (B : Nat) (ty : TypeId) (v : Value) (n : Nat) (xs : List Value) (w : World) (hown : w.ownsRow B 5 1 v n xs) (s : ByteArray) (hm : 0 < s.size) (hbytes : n + s.size ≤ 140737488355328) (hbase : B ≤ w.heap.size) :
    ∃ v' w', (Builtin.append_ #[22, 9] ty #[v, .string s]).run Tryd.prog w = .ok v' w' ∧ App B v w w' v' (n + s.size) (xs ++ strCells s) := by
  obtain ⟨i0, hi, hz0, hz1, hz2⟩ := info_parts info5
  obtain ⟨v', w', hr, h2, h3, _⟩ := run_append_own_string (P := Tryd.prog) w B 22 9 ty 5 i0 Tryd.underlying22 Tryd.underlying9 hi hz0 hz1 hz2 v n xs hown s (by unfold maxLen; omega) hbytes hbase
  refine ⟨v', w', hr, h2, h3, ?_⟩
  have hxl : xs.length = n := by simpa using hown.1
  rcases hown.2 with ⟨rfl, rfl⟩ | ⟨g, cap, cur, rfl, hbg, hg, hnc, hcm, hcs, htake⟩
  · have hr2 := run_append_nil_string (P := Tryd.prog) w 22 9 ty 5 i0 (.int .u8 0) Tryd.underlying22 Tryd.underlying9 hi hz0 s (by omega) (by omega) (by rw [hz2]; omega)
    rw [hr2] at hr
    simp only [Result.ok.injEq] at hr
    rw [← hr.1]
    exact .inr ⟨_, rfl, Nat.le_refl _⟩
  · by_cases hroom : n + s.size ≤ cap
    · have hr2 := run_append_room_string (P := Tryd.prog) w 22 9 ty 5 i0 Tryd.underlying22 Tryd.underlying9 hi hz1 g n cap cur hg s hroom (by simp only [Nat.mul_one] at hcs; omega)
      rw [hr2] at hr
      simp only [Result.ok.injEq] at hr
      rw [← hr.1]
      exact .inl rfl
    · have hr2 := run_append_grow_string (P := Tryd.prog) w 22 9 ty 5 i0 (.int .u8 0) Tryd.underlying22 Tryd.underlying9 hi hz0 ⟨g, 0, none⟩ n cap xs (by rw [hz1, hxl]; omega) (hown.cells (g := g) rfl) s (by omega) (by omega) (by rw [hz2]; exact growslice_fits (by omega) (by omega))
      rw [hr2] at hr
      simp only [Result.ok.injEq] at hr
      rw [← hr.1]
      exact .inr ⟨_, rfl, Nat.le_refl _⟩

/-- One byte more, laid in a new block by the text: 'append(b, c)'. -/
theorem append_one (B : Nat) (ty : TypeId) (v : Value) (n : Nat) (xs : List Value) (w : World) (hown : w.ownsRow B 5 1 v n xs) (x : Int) (hbytes : n + 1 ≤ 140737488355328) (hbase : B ≤ w.heap.size) :
    ∃ v' w', (Builtin.append_ #[22, 22] ty #[v, .slice (some ⟨w.heap.size, 0, none⟩) 1 1]).run Tryd.prog (w.alloc (.cells #[.int .u8 x] 5)) = .ok v' w' ∧ App B v w w' v' (n + 1) (xs ++ [.int .u8 x]) := by
  have hb : Below w.heap.size w (w.alloc (.cells #[.int .u8 x] 5)) := (Below.refl _ _).alloc (Nat.le_refl _) _
  obtain ⟨v', w', hr, ha⟩ := append_app B ty v n xs (w.alloc (.cells #[.int .u8 x] 5)) (hown.alloc _) ⟨w.heap.size, 0, none⟩ 1 1 [.int .u8 x] (by omega) rfl (fun j u hj => by
    match j, hj with
    | 0, hj =>
      simp at hj
      subst hj
      have hn : (w.alloc (.cells #[Value.int .u8 x] 5)).heap[w.heap.size]? = some (.cells #[Value.int .u8 x] 5) := heap_alloc_new w _
      have hadd : (⟨w.heap.size, 0, none⟩ : Addr).add 0 = ⟨w.heap.size, 0, none⟩ := by unfold Addr.add; split <;> simp_all
      rw [hadd]
      unfold World.cell?
      rw [hn]
      rfl) (by intro u hu; simp at hu; subst hu; rfl) hbytes (by have := hb.size; omega)
  exact ⟨v', w', hr, ha.after hb⟩

section
variable {w : World} {ops : Array Oper} {rest : List Oper} {o : Oper} {a : Act} {Q : Exit → Act → World → Prop}
/-- The operation, for the walk. -/
theorem wpList_app (hgd : o.guard = none) (s x : Operand) (ho : o.op = .call { callee := .builtin .append, args := #[s, x], argTypes := #[22, 22] })
    (B : Nat) (v : Value) (n : Nat) (xs : List Value) (hs : a.eval s = v) (hown : w.ownsRow B 5 1 v n xs) (ad : Addr) (m c : Nat) (news : List Value) (hx : a.eval x = .slice (some ad) m c) (hm : 0 < m) (hl : news.length = m)
    (hnews : ∀ j u, news[j]? = some u → w.cell? (ad.add j) = some u) (h1 : ∀ u ∈ news, u.oneCell' = true) (hbytes : n + m ≤ 140737488355328) (hbase : B ≤ w.heap.size)
    (h : ∀ v' w', App B v w w' v' (n + m) (xs ++ news) → wpList Tryd.prog ops Q rest (a.put o.dst v') w') : wpList Tryd.prog ops Q (o :: rest) a w := by
  refine wpList_plain hgd fun K hK => ?_
  obtain ⟨v', w', hr, h2⟩ := append_app B o.type v n xs w hown ad m c news hm hl hnews h1 hbytes hbase
  unfold Oper.wp execOp
  simp only [ho, resolve, invoke, builtin, Sem.run_bind, Sem.run_pure, Result.andThen_ok, List.map_toArray, List.map_cons, List.map_nil, hs, hx, hr]
  exact hK _ _ (h v' w' h2)
theorem wpList_app_string (hgd : o.guard = none) (s x : Operand) (ho : o.op = .call { callee := .builtin .append, args := #[s, x], argTypes := #[22, 9] })
    (B : Nat) (v : Value) (n : Nat) (xs : List Value) (hs : a.eval s = v) (hown : w.ownsRow B 5 1 v n xs) (t : ByteArray) (hx : a.eval x = .string t) (hm : 0 < t.size) (hbytes : n + t.size ≤ 140737488355328) (hbase : B ≤ w.heap.size)
    (h : ∀ v' w', App B v w w' v' (n + t.size) (xs ++ strCells t) → wpList Tryd.prog ops Q rest (a.put o.dst v') w') : wpList Tryd.prog ops Q (o :: rest) a w := by
  refine wpList_plain hgd fun K hK => ?_
  obtain ⟨v', w', hr, h2⟩ := append_app_string B o.type v n xs w hown t hm hbytes hbase
  unfold Oper.wp execOp
  simp only [ho, resolve, invoke, builtin, Sem.run_bind, Sem.run_pure, Result.andThen_ok, List.map_toArray, List.map_cons, List.map_nil, hs, hx, hr]
  exact hK _ _ (h v' w' h2)
end

/-- 'append(b, c)', the walk's own form: c laid in a new block. -/
theorem new_one (w : World) (x : Int) : ∀ j u, [Value.int .u8 x][j]? = some u → (w.alloc (.cells #[.int .u8 x] 5)).cell? ((⟨w.heap.size, 0, none⟩ : Addr).add j) = some u := fun j u hj => by
  match j, hj with
  | 0, hj =>
    simp at hj
    subst hj
    have hn : (w.alloc (.cells #[Value.int .u8 x] 5)).heap[w.heap.size]? = some (.cells #[Value.int .u8 x] 5) := heap_alloc_new w _
    have hadd : (⟨w.heap.size, 0, none⟩ : Addr).add 0 = ⟨w.heap.size, 0, none⟩ := by unfold Addr.add; split <;> simp_all
    rw [hadd]
    unfold World.cell?
    rw [hn]
    rfl
theorem one_one (x : Int) : ∀ u ∈ [Value.int .u8 x], u.oneCell' = true := by intro u hu; simp at hu; subst hu; rfl
theorem below_one (w : World) (x : Int) : Below w.heap.size w (w.alloc (.cells #[.int .u8 x] 5)) := (Below.refl _ _).alloc (Nat.le_refl _) _
end Go.Proofs.Qxb6617855aDoor
