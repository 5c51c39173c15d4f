/-
  The script's law: the set beside the walk's block and the row that is held against it; what a round leaves.
-/
import Derived.Test.Qxb6617214aAB
import Derived.Test.Qxb6617214aC22
namespace Go.Proofs.Qxb6617214a
open Go.RowKit Go.Lib Go.Deep
set_option linter.unusedVariables false

/-- A set of one's own; none of its blocks lies in X. -/
structure OwnZ (B : Nat) (X : List Nat) (w : World) (sb : Nat) (l : List ByteArray) (C : Int) : Prop where
  ex : ∃ F es a cap, Own F w sb es C a cap ∧ (cssOf es).flatten = l ∧ ∀ b, F b → B ≤ b ∧ b < w.heap.size ∧ b ∉ X

section
variable {B : Nat} {X : List Nat} {w w' : World} {sb : Nat} {l : List ByteArray} {C : Int}
theorem ownZ_of (h : OwnIn B w sb l C) : OwnZ B [] w sb l C := by
  obtain ⟨F, es, a, cap, hO, hf, hF⟩ := h.ex
  refine ⟨fun b => F b ∧ b < w.heap.size, es, a, cap, hO.wide (fun b hb h1 => ⟨h1, hb⟩), hf, fun b hb => ⟨hF b hb.1, hb.2, by simp⟩⟩
theorem OwnZ.keep (h : OwnZ B X w sb l C) (hk : ∀ b, b < w.heap.size → b ∉ X → w'.heap[b]? = w.heap[b]?) (hs : w.heap.size ≤ w'.heap.size) : OwnZ B X w' sb l C := by
  obtain ⟨F, es, a, cap, hO, hf, hF⟩ := h.ex
  exact ⟨F, es, a, cap, hO.keep (fun b h1 h2 => hk b h1 (hF b h2).2.2), hf, fun b hb => by obtain ⟨h1, h2, h3⟩ := hF b hb; exact ⟨h1, by omega, h3⟩⟩
theorem OwnZ.below (h : OwnZ B X w sb l C) (hb : Below w.heap.size w w') : OwnZ B X w' sb l C := h.keep (fun b h1 _ => hb.block b h1) hb.size
theorem OwnZ.swap {X' : List Nat} (h : OwnZ B X w sb l C) (hX : ∀ x ∈ X', x ∈ X ∨ w.heap.size ≤ x) : OwnZ B X' w sb l C := by
  obtain ⟨F, es, a, cap, hO, hf, hF⟩ := h.ex
  refine ⟨F, es, a, cap, hO, hf, fun b hb => ?_⟩
  obtain ⟨h1, h2, h3⟩ := hF b hb
  refine ⟨h1, h2, fun hx => ?_⟩
  rcases hX b hx with h4 | h4
  · exact h3 h4
  · omega
theorem OwnZ.sort (h : OwnZ B X w sb l C) : Incr l := by
  obtain ⟨F, es, a, cap, hO, hf, hF⟩ := h.ex
  rw [← hf]; exact hO.ok.2
theorem OwnZ.view (h : OwnZ B X w sb l C) (hl : l.length ≤ 1073741824) : ∃ a cap cs, View w sb a cap cs C ∧ OK cs ∧ cs.flatten = l := by
  obtain ⟨F, es, a, cap, hO, hf, hF⟩ := h.ex
  exact ⟨a, cap, cssOf es, hO.view (by rw [hf]; exact hl), hO.ok, hf⟩
theorem OwnZ.ne (h : OwnZ B X w sb l C) {x : Nat} (hx : x ∈ X) : sb ≠ x := by
  obtain ⟨F, es, a, cap, hO, hf, hF⟩ := h.ex
  intro e
  subst e
  exact (hF _ hO.fsb).2.2 hx

structure AddZ (B : Nat) (X : List Nat) (w w' : World) (sb : Nat) (l : List ByteArray) (C : Int) : Prop where
  own : OwnZ B X w' sb l C
  bel : Below B w w'
  same : ∀ x ∈ X, w'.heap[x]? = w.heap[x]?
theorem addZ_any (h : OwnZ B X w sb l C) (hl : l.length ≤ 1073741000) (hB : B ≤ w.heap.size) (hX : ∀ x ∈ X, x < w.heap.size) (k : ByteArray) :
    Calls Try.prog 15 #[.pointer (some ⟨sb, 0, none⟩), .string k] w fun e w' => e = .returned (.tuple #[]) ∧ AddZ B X w w' sb (insS l k) (if isAt l k then C else incU C) := by
  obtain ⟨F, es, a, cap, hO, hf, hF⟩ := h.ex
  refine (zzAddKey_any hO (by rw [hf]; exact hl) k).mono ?_
  rintro e w' ⟨rfl, es', a', cap', hO', hf', hk⟩
  rw [hf] at hO' hf'
  have hs := hk.size
  refine ⟨rfl, ⟨_, es', a', cap', hO', hf', ?_⟩, hk.to_below (fun b _ h2 h3 => by have := (hF b h3).1; omega) hB, fun x hx => hk.block x (hX x hx) (fun h3 => (hF x h3).2.2 hx)⟩
  rintro b (hb | ⟨hb, hb2⟩)
  · obtain ⟨h1, h2, h3⟩ := hF b hb; exact ⟨h1, by omega, h3⟩
  · exact ⟨by omega, hb2, fun hx => by have := hX b hx; omega⟩
theorem delZ_any (h : OwnZ B X w sb l C) (hl : l.length ≤ 1073741000) (hB : B ≤ w.heap.size) (hX : ∀ x ∈ X, x < w.heap.size) (k : ByteArray) :
    Calls Try.prog 16 #[.pointer (some ⟨sb, 0, none⟩), .string k] w fun e w' => e = .returned (.tuple #[]) ∧ AddZ B X w w' sb (delS l k) (if isAt l k then incU C else C) := by
  obtain ⟨F, es, a, cap, hO, hf, hF⟩ := h.ex
  refine (zzRemoveKey_any hO (by rw [hf]; exact hl) k).mono ?_
  rintro e w' ⟨rfl, es', a', cap', hO', hf', hk⟩
  rw [hf] at hO' hf'
  have hs := hk.size
  refine ⟨rfl, ⟨_, es', a', cap', hO', hf', ?_⟩, hk.to_below (fun b _ h2 h3 => by have := (hF b h3).1; omega) hB, fun x hx => hk.block x (hX x hx) (fun h3 => (hF x h3).2.2 hx)⟩
  rintro b (hb | ⟨hb, hb2⟩)
  · obtain ⟨h1, h2, h3⟩ := hF b hb; exact ⟨h1, by omega, h3⟩
  · exact ⟨by omega, hb2, fun hx => by have := hX b hx; omega⟩
end

theorem incU_ne (C : Int) : C ≠ incU C := by
  unfold incU
  rw [u64wrap]
  omega

/-- What the walk holds is true of the set, or is another time's. -/
def Cached (w : World) (wb sb : Nat) (l : List ByteArray) (C : Int) : Prop :=
  ∃ p wch wat wpast wfound wkey, WalkAt w wb p wch wat wpast wfound wkey ∧ (p = none ∨ p = some ⟨sb, 0, none⟩) ∧
    (p = some ⟨sb, 0, none⟩ → wch = C → wkey = (scan l wat wpast).getD ByteArray.empty ∧ wfound = (scan l wat wpast).isSome)
theorem Cached.same {w w' : World} {wb sb : Nat} {l : List ByteArray} {C : Int} (h : Cached w wb sb l C) (he : w'.heap[wb]? = w.heap[wb]?) : Cached w' wb sb l C := by
  obtain ⟨p, wch, wat, wpast, wfound, wkey, hw, h1, h2⟩ := h
  exact ⟨p, wch, wat, wpast, wfound, wkey, ⟨he.trans hw.blk⟩, h1, h2⟩
/-- Behind a question: the walk holds that question's answer. -/
structure Fresh (w : World) (wb sb : Nat) (l : List ByteArray) (C : Int) : Prop where
  ex : ∃ wat wpast, WalkAt w wb (some ⟨sb, 0, none⟩) C wat wpast (scan l wat wpast).isSome ((scan l wat wpast).getD ByteArray.empty)
theorem Fresh.same {w w' : World} {wb sb : Nat} {l : List ByteArray} {C : Int} (h : Fresh w wb sb l C) (he : w'.heap[wb]? = w.heap[wb]?) : Fresh w' wb sb l C := by
  obtain ⟨wat, wpast, hw⟩ := h.ex
  exact ⟨wat, wpast, ⟨he.trans hw.blk⟩⟩
theorem Fresh.cached {w : World} {wb sb : Nat} {l : List ByteArray} {C : Int} (h : Fresh w wb sb l C) : Cached w wb sb l C := by
  obtain ⟨wat, wpast, hw⟩ := h.ex
  exact ⟨_, _, _, _, _, _, hw, .inr rfl, fun _ _ => ⟨rfl, rfl⟩⟩
theorem Fresh.past {w : World} {wb sb : Nat} {l l' : List ByteArray} {C : Int} (h : Fresh w wb sb l C) : Cached w wb sb l' (incU C) := by
  obtain ⟨wat, wpast, hw⟩ := h.ex
  exact ⟨_, _, _, _, _, _, hw, .inr rfl, fun _ e => absurd e (incU_ne C)⟩
theorem Fresh.lt {w : World} {wb sb : Nat} {l : List ByteArray} {C : Int} (h : Fresh w wb sb l C) : wb < w.heap.size := by
  obtain ⟨wat, wpast, hw⟩ := h.ex
  exact (Array.getElem?_eq_some_iff.1 hw.blk).1
theorem Cached.lt {w : World} {wb sb : Nat} {l : List ByteArray} {C : Int} (h : Cached w wb sb l C) : wb < w.heap.size := by
  obtain ⟨p, wch, wat, wpast, wfound, wkey, hw, h1, h2⟩ := h
  exact (Array.getElem?_eq_some_iff.1 hw.blk).1

/-- The loop's invariant. B: the heap's size when the law began. -/
structure Sc (B : Nat) (w0 w : World) (sb wb cb : Nat) (l : List ByteArray) (C : Int) (k : Nat) : Prop where
  own : OwnZ B [wb, cb] w sb l C
  cur : StrsA w (some ⟨cb, 0, none⟩) l
  cache : Cached w wb sb l C
  bel : Below B w0 w
  len : l.length ≤ 1048576 + k
  wge : B ≤ wb
  clt : cb < w.heap.size

/-- Behind the question. -/
structure Sq (B : Nat) (w0 w : World) (sb wb cb : Nat) (l : List ByteArray) (C : Int) (k : Nat) : Prop where
  own : OwnZ B [wb, cb] w sb l C
  cur : StrsA w (some ⟨cb, 0, none⟩) l
  fresh : Fresh w wb sb l C
  bel : Below B w0 w
  len : l.length ≤ 1048576 + k
  wge : B ≤ wb
  clt : cb < w.heap.size

section
variable {B : Nat} {w0 w w' : World} {sb wb cb : Nat} {l : List ByteArray} {C : Int} {k : Nat}
theorem strs_block {w w' : World} {b : Nat} {ss : List ByteArray} (h : StrsA w (some ⟨b, 0, none⟩) ss) (he : w'.heap[b]? = w.heap[b]?) : StrsA w' (some ⟨b, 0, none⟩) ss := by
  refine ⟨h.1, fun hp => ?_⟩
  obtain ⟨b', off, hb, hc⟩ := h.2 hp
  cases hb
  exact ⟨b, 0, rfl, fun j hj => (World.cell?_of_block (w := w) (a := ⟨b, 0 + j, none⟩) he).trans (hc j hj)⟩

theorem Sc.ask (h : Sc B w0 w sb wb cb l C k) (hne : wb ≠ cb) {q : ByteArray} {p : Bool} (ha : Asked w w' wb sb C q p (scan l q p)) : Sq B w0 w' sb wb cb l C k := by
  obtain ⟨hw, ho⟩ := ha
  refine ⟨h.own.keep (fun b _ hx => ho.block b (fun e => hx (by simp [e]))) (by rw [ho.size]; exact Nat.le_refl _), strs_block h.cur (ho.block cb (fun e => hne e.symm)), ⟨q, p, hw⟩, h.bel.trans ⟨ho.os, ho.tape, ho.output, by rw [ho.size]; exact Nat.le_refl _, fun b hb => ho.block b (by have := h.wge; omega)⟩, h.len, h.wge, by rw [ho.size]; exact h.clt⟩
theorem Sq.next (h : Sq B w0 w sb wb cb l C k) : Sc B w0 w sb wb cb l C (k + 1) :=
  ⟨h.own, h.cur, h.fresh.cached, h.bel, by have := h.len; omega, h.wge, h.clt⟩
/-- The row of the next state has been laid beside. -/
theorem Sq.laid (h : Sq B w0 w sb wb cb l C k) (hB : B ≤ w.heap.size) (hb : Below w.heap.size w w') : Sq B w0 w' sb wb cb l C k :=
  ⟨h.own.below hb, h.cur.keep (keep_below hb), h.fresh.same (hb.block _ h.fresh.lt), h.bel.trans (hb.mono hB), h.len, h.wge, by have := hb.size; have := h.clt; omega⟩
/-- The key was new: it is added, and the new row is the one to hold. -/
theorem Sq.added {w1 w2 : World} {x : ByteArray} (h : Sq B w0 w sb wb cb l C k) (hB : B ≤ w.heap.size) (hb : Below w.heap.size w w1) (hs : w1.heap.size = w.heap.size + 1) (hrow : StrsA w1 (some ⟨w.heap.size, 0, none⟩) (insS l x))
    (ha : AddZ B [wb, w.heap.size] w1 w2 sb (insS l x) (incU C)) : Sc B w0 w2 sb wb w.heap.size (insS l x) (incU C) (k + 1) := by
  have hl := h.len
  have hbs := ha.bel.size
  refine ⟨ha.own, strs_block hrow (ha.same _ (by simp)), ?_, (h.bel.trans (hb.mono hB)).trans ha.bel, ?_, h.wge, by omega⟩
  · exact ((h.fresh.same (hb.block _ h.fresh.lt)).same (ha.same _ (by simp))).past
  · rw [insS_length]; split <;> omega
theorem Sq.ownNew {w1 : World} (h : Sq B w0 w sb wb cb l C k) (hb : Below w.heap.size w w1) : OwnZ B [wb, w.heap.size] w1 sb l C :=
  (h.own.swap (fun x hx => by
    simp only [List.mem_cons, List.not_mem_nil, or_false] at hx
    rcases hx with rfl | rfl
    · exact .inl (by simp)
    · exact .inr (Nat.le_refl _))).below hb
theorem delS_len_le (l : List ByteArray) (k : ByteArray) : (delS l k).length ≤ l.length := by
  unfold delS; split
  · exact List.Sublist.length_le (List.eraseIdx_sublist _ _)
  · exact Nat.le_refl _
/-- The key was there: it is taken out, and the row without it is the one to hold. -/
theorem Sq.removed {w1 w2 : World} {x : ByteArray} (h : Sq B w0 w sb wb cb l C k) (ha : AddZ B [wb, cb] w w1 sb (delS l x) (incU C)) (hB : B ≤ w1.heap.size) (hb : Below w1.heap.size w1 w2) (hs : w2.heap.size = w1.heap.size + 1)
    (hrow : StrsA w2 (some ⟨w1.heap.size, 0, none⟩) (delS l x)) : Sc B w0 w2 sb wb w1.heap.size (delS l x) (incU C) (k + 1) := by
  have hl := h.len
  have hf : Fresh w1 wb sb l C := h.fresh.same (ha.same _ (by simp))
  refine ⟨?_, hrow, ?_, (h.bel.trans ha.bel).trans (hb.mono hB), ?_, h.wge, by omega⟩
  · refine (ha.own.swap (fun x hx => ?_)).below hb
    simp only [List.mem_cons, List.not_mem_nil, or_false] at hx
    rcases hx with rfl | rfl
    · exact .inl (by simp)
    · exact .inr (Nat.le_refl _)
  · exact (hf.same (hb.block _ hf.lt)).past
  · have := delS_len_le l x; omega

theorem Sc.question (h : Sc B w0 w sb wb cb l C k) (hk : k ≤ 1048576) (hne : wb ≠ cb) (q : ByteArray) (p : Bool) :
    Calls Try.prog 26 #[.pointer (some ⟨wb, 0, none⟩), .pointer (some ⟨sb, 0, none⟩), .string q, .bool p] w fun e w' => RetS (scan l q p) e ∧ Sq B w0 w' sb wb cb l C k := by
  obtain ⟨a, cap, cs, hv, hok, hf⟩ := h.own.view (by have := h.len; omega)
  obtain ⟨pp, wch, wat, wpast, wfound, wkey, hw, h1, h2⟩ := h.cache
  have := zzWalkFrom_any hv hw (h.own.ne (by simp)) h1 q p (by rw [hf]; exact h2)
  rw [hf] at this
  exact this.mono fun e w' ⟨he, ha⟩ => ⟨he, h.ask hne ha⟩
theorem Sc.scan (h : Sq B w0 w sb wb cb l C k) (cc : Nat) (q : ByteArray) (p : Bool) :
    Calls Try.prog 27 #[.slice (some ⟨cb, 0, none⟩) l.length cc, .string q, .bool p] w fun e w' => RetS (Go.Proofs.Qxb6617214a.scan l q p) e ∧ w' = w :=
  scanFrom_any _ _ cc l q p w h.cur rfl
end

theorem ownZ_made {w wc W : World} {a : Option Addr} {css : List (List ByteArray)} (h : ClV w.heap.size w wc (.slice a css.length css.length) css) (hW : Below wc.heap.size wc W) (hs : w.heap.size ≤ wc.heap.size) (hlt : wc.heap.size < W.heap.size) (hok : OK css) (hl : css.length ≤ 1073741824) (ht : tot css ≤ 1073741824) (ch : Int) :
    OwnZ w.heap.size [W.heap.size + 1, wc.heap.size] (W.alloc (.cells #[.slice a css.length css.length, .int .u64 ch] 54)) W.heap.size css.flatten ch := by
  obtain ⟨a', he, ho⟩ := own_made (F := fun b => (w.heap.size ≤ b ∧ b < wc.heap.size) ∨ b = W.heap.size) h rfl hW hok hl ht ch (fun b h1 h2 => .inl ⟨h1, h2⟩) (.inr rfl)
  cases he
  refine ⟨_, _, _, _, ho, by rw [madeEs_css], ?_⟩
  have hsz : (W.alloc (.cells #[.slice a css.length css.length, .int .u64 ch] 54)).heap.size = W.heap.size + 1 := by simp
  intro b hb
  rw [hsz]
  rcases hb with hb | hb
  · refine ⟨hb.1, by omega, ?_⟩
    simp; omega
  · refine ⟨by omega, by omega, ?_⟩
    simp; omega

/-- The loop's start. -/
theorem sc_start {w wc w2 : World} {a : Option Addr} {css : List (List ByteArray)} (h : ClV w.heap.size w wc (.slice a css.length css.length) css) (hb : Below w.heap.size w wc) (hs : w.heap.size ≤ wc.heap.size) (hW : Below wc.heap.size wc w2) (hs2 : w2.heap.size = wc.heap.size + 1) (hok : OK css) (hl : css.length ≤ 1073741824) (ht : tot css ≤ 1048576) (ch : Int)
    (hrow : StrsA w2 (some ⟨wc.heap.size, 0, none⟩) css.flatten) :
    Sc w.heap.size w ((w2.alloc (.cells #[.slice a css.length css.length, .int .u64 ch] 54)).alloc (.cells #[.pointer none, .int .u64 0, .string ⟨#[]⟩, .bool false, .bool false, .string ⟨#[]⟩] 57)) w2.heap.size (w2.heap.size + 1) wc.heap.size css.flatten ch 0 := by
  have hsz : (w2.alloc (.cells #[.slice a css.length css.length, .int .u64 ch] 54)).heap.size = w2.heap.size + 1 := by simp
  have ho := ownZ_made h hW hs (by omega) hok hl (by omega) ch
  have hb1 : Below (w2.alloc (.cells #[.slice a css.length css.length, .int .u64 ch] 54)).heap.size (w2.alloc (.cells #[.slice a css.length css.length, .int .u64 ch] 54)) ((w2.alloc (.cells #[.slice a css.length css.length, .int .u64 ch] 54)).alloc (.cells #[.pointer none, .int .u64 0, .string ⟨#[]⟩, .bool false, .bool false, .string ⟨#[]⟩] 57)) := (Below.refl _ _).alloc (Nat.le_refl _) _
  refine ⟨ho.below hb1, (hrow.keep (keep_alloc _ _)).keep (keep_alloc _ _), ?_, ?_, ?_, by omega, ?_⟩
  · refine ⟨none, 0, ⟨#[]⟩, false, false, ⟨#[]⟩, ⟨?_⟩, .inl rfl, fun h => by cases h⟩
    have := heap_alloc_new (w2.alloc (.cells #[.slice a css.length css.length, .int .u64 ch] 54)) (.cells #[.pointer none, .int .u64 0, .string ⟨#[]⟩, .bool false, .bool false, .string ⟨#[]⟩] 57)
    rw [hsz] at this
    exact this
  · exact ((hb.trans (hW.mono hs)).alloc (by omega) _).alloc (by rw [hsz]; omega) _
  · show css.flatten.length ≤ _; unfold tot at ht; omega
  · have : ((w2.alloc (.cells #[.slice a css.length css.length, .int .u64 ch] 54)).alloc (.cells #[.pointer none, .int .u64 0, .string ⟨#[]⟩, .bool false, .bool false, .string ⟨#[]⟩] 57)).heap.size = w2.heap.size + 2 := by simp
    omega

/-- A bool. -/
def IsB (v : Value) : Prop := ∃ b : Bool, v = .bool b
/-- What is read of a []bool. -/
def BoolsA (w : World) (a : Option Addr) (bs : List Bool) : Prop :=
  bs.length ≤ 9223372036854775807 ∧ (0 < bs.length → ∃ b off, a = some ⟨b, off, none⟩ ∧ ∀ j, j < bs.length → w.cell? ⟨b, off + j, none⟩ = some (.bool (bs.getD j false)))
theorem BoolsA.keep {w w' : World} {a : Option Addr} {bs : List Bool} (h : BoolsA w a bs) (hk : Keep w w') : BoolsA w' a bs := by
  refine ⟨h.1, fun hp => ?_⟩
  obtain ⟨b, off, ha, hc⟩ := h.2 hp
  exact ⟨b, off, ha, fun j hj => hk _ _ (hc j hj)⟩
end Go.Proofs.Qxb6617214a
