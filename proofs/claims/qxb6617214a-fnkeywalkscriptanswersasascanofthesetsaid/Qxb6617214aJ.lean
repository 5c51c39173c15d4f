/-
  The walk over (*keyWalk).from (34), its shim (26), and the walk's state read out (29).
-/
import Derived.Test.Qxb6617214aI
import Derived.Deep.DeepCutAuto
import Derived.Laws.Pointers
namespace Go.Proofs.Qxb6617214a
open Go.RowKit Go.Deep

/-! ### pointers held against each other: the same, or nil -/
theorem under33 : Try.prog.underlying 33 = some (.pointer 54) := Try.underlying33
theorem info54 : (Try.prog.info? 54).map (·.size) = some 2 := by kernel_rfl
theorem eqIn_same (d : Nat) (a : Addr) (w : World) : (Op.equalIn (d + 1) 33 (.pointer (some a)) (.pointer (some a))).run Try.prog w = .ok true w := by
  simp [Op.equalIn, run_underlying under33, sizeOf, sameAddr]
theorem eqIn_none (d : Nat) (b : Option Addr) (w : World) : (Op.equalIn (d + 1) 33 (.pointer none) (.pointer b)).run Try.prog w = .ok b.isNone w := by
  cases b <;> simp [Op.equalIn, run_underlying under33]
theorem eql_same (a : Addr) (w : World) : (binOp .eql 33 (.pointer (some a)) (.pointer (some a))).run Try.prog w = .ok (.bool true) w := by
  simp only [binOp]; simp [Op.equal, Op.maxDepth, eqIn_same 9999 a w]
theorem neq_same (a : Addr) (w : World) : (binOp .neq 33 (.pointer (some a)) (.pointer (some a))).run Try.prog w = .ok (.bool false) w := by
  simp only [binOp]; simp [Op.equal, Op.maxDepth, eqIn_same 9999 a w]
theorem eql_none (b : Option Addr) (w : World) : (binOp .eql 33 (.pointer none) (.pointer b)).run Try.prog w = .ok (.bool b.isNone) w := by
  simp only [binOp]; simp [Op.equal, Op.maxDepth, eqIn_none 9999 b w]
theorem neq_none (b : Option Addr) (w : World) : (binOp .neq 33 (.pointer none) (.pointer b)).run Try.prog w = .ok (.bool (!b.isNone)) w := by
  simp only [binOp]; simp [Op.equal, Op.maxDepth, eqIn_none 9999 b w]

/-! ### the plain law: a cached answer holds while the question has not gone back, and not past the answer -/
def fwdB (k wat : ByteArray) (past wpast : Bool) : Bool := slt wat k || (decide (k = wat) && (past || !wpast))
def ahdB (found : Bool) (key k : ByteArray) (past : Bool) : Bool := !found || slt k key || (decide (key = k) && !past)

theorem find_agree {α : Type} (p q : α → Bool) (hqp : ∀ x, q x = true → p x = true) : ∀ (l : List α), (∀ x, l.find? p = some x → q x = true) → l.find? q = l.find? p
  | [], _ => rfl
  | x :: r, h => by
    rw [List.find?_cons, List.find?_cons]
    cases hp : p x with
    | true =>
      have := h x (by simp [hp])
      simp [this]
    | false =>
      have hq : q x = false := by cases hq : q x; rfl; rw [hqp x hq] at hp; cases hp
      simp only [hq]
      exact find_agree p q hqp r (fun y hy => h y (by simpa [List.find?_cons, hp] using hy))

theorem cached {l : List ByteArray} {k wat key : ByteArray} {past wpast found : Bool} (hk : key = (scan l wat wpast).getD ByteArray.empty) (hfd : found = (scan l wat wpast).isSome)
    (hf : fwdB k wat past wpast = true) (ha : ahdB found key k past = true) : scan l k past = scan l wat wpast := by
  unfold scan at *
  refine find_agree _ _ (fun x hx => ?_) l (fun x hx => ?_)
  · unfold hit at *
    unfold fwdB at hf
    rw [Bool.or_eq_true, Bool.and_eq_true] at hf hx ⊢
    rcases hf with hf | ⟨hf, hp⟩
    · left
      rcases hx with hx | ⟨_, hx⟩
      · exact slt_trans hf hx
      · rw [of_decide_eq_true hx]; exact hf
    · have e := of_decide_eq_true hf
      subst e
      rcases hx with hx | ⟨h1, hx⟩
      · exact .inl hx
      · right
        refine ⟨?_, hx⟩
        cases past <;> cases wpast <;> simp_all
  · rw [hx] at hk hfd
    simp only [Option.getD_some, Option.isSome_some] at hk hfd
    subst hk; subst hfd
    unfold ahdB at ha
    unfold hit
    simp only [Bool.not_true, Bool.false_or] at ha
    rw [Bool.or_eq_true, Bool.and_eq_true] at ha ⊢
    rcases ha with ha | ⟨h1, h2⟩
    · exact .inl ha
    · exact .inr ⟨h2, h1⟩

/-- A walk's struct in block wb. -/
structure WalkAt (w : World) (wb : Nat) (p : Option Addr) (ch : Int) (wat : ByteArray) (past found : Bool) (key : ByteArray) : Prop where
  blk : w.heap[wb]? = some (.cells #[.pointer p, .int .u64 ch, .string wat, .bool past, .bool found, .string key] 57 (0, 0))

section
variable {w : World} {wb : Nat} {p : Option Addr} {ch : Int} {wat : ByteArray} {past found : Bool} {key : ByteArray}
theorem WalkAt.cell (h : WalkAt w wb p ch wat past found key) : w.cell? ⟨wb, 0, none⟩ = some (.pointer p) ∧ w.cell? ⟨wb, 1, none⟩ = some (.int .u64 ch) ∧ w.cell? ⟨wb, 2, none⟩ = some (.string wat) ∧
    w.cell? ⟨wb, 3, none⟩ = some (.bool past) ∧ w.cell? ⟨wb, 4, none⟩ = some (.bool found) ∧ w.cell? ⟨wb, 5, none⟩ = some (.string key) := by
  have := h.blk
  refine ⟨?_, ?_, ?_, ?_, ?_, ?_⟩ <;> simp [World.cell?, this]
theorem WalkAt.frozen (h : WalkAt w wb p ch wat past found key) (i : Nat) : w.frozen? ⟨wb, i, none⟩ = false := by
  simp [World.frozen?, h.blk]
end

/-- Nothing but block wb has turned. -/
structure Only (wb : Nat) (w w' : World) : Prop where
  os : w'.os = w.os
  tape : w'.tape = w.tape
  output : w'.output = w.output
  size : w'.heap.size = w.heap.size
  block : ∀ b, b ≠ wb → w'.heap[b]? = w.heap[b]?
theorem Only.refl (wb : Nat) (w : World) : Only wb w w := ⟨rfl, rfl, rfl, rfl, fun _ _ => rfl⟩
theorem Only.setCell {wb : Nat} {w w' : World} (h : Only wb w w') (i : Nat) (v : Value) : Only wb w (w'.setCell ⟨wb, i, none⟩ v) :=
  ⟨h.os, h.tape, h.output, by rw [← h.size]; simp [World.setCell], fun b hb => by rw [Below.heap_setCell _ _ _ _ hb]; exact h.block b hb⟩
theorem drewN_heap (w : World) (q : Nat) : (w.drewN q).heap = w.heap := (World.drewN_alike w q).1
theorem drewN_tape (w : World) : ∀ q, (w.drewN q).tape = w.tape := by
  intro q; induction q with
  | zero => rfl
  | succ n ih => simp [World.drewN]
theorem Only.drewN {wb : Nat} {w w' : World} (h : Only wb w w') (q : Nat) : Only wb w (w'.drewN q) := by
  refine ⟨?_, ?_, ?_, ?_, ?_⟩
  · exact (World.drewN_alike w' q).2.1.trans h.os
  · exact (drewN_tape w' q).trans h.tape
  · exact (World.drewN_alike w' q).2.2.trans h.output
  · rw [drewN_heap]; exact h.size
  · intro b hb; rw [drewN_heap]; exact h.block b hb
theorem blk_set {w : World} {wb i : Nat} {c : Array Value} {t : TypeId} (h : w.heap[wb]? = some (.cells c t (0, 0))) (v : Value) : (w.setCell ⟨wb, i, none⟩ v).heap[wb]? = some (.cells (c.setIfInBounds i v) t (0, 0)) := by
  simp [World.setCell, Array.getElem?_modify, h]

theorem strsA_same {w w' : World} {a : Option Addr} {ss : List ByteArray} (h : StrsA w a ss) (hc : ∀ b off v, w.cell? ⟨b, off, none⟩ = some (.string v) → w'.cell? ⟨b, off, none⟩ = some (.string v)) : StrsA w' a ss := by
  refine ⟨h.1, fun hp => ?_⟩
  obtain ⟨b, off, ha, h2⟩ := h.2 hp
  exact ⟨b, off, ha, fun j hj => hc _ _ _ (h2 j hj)⟩
theorem View.same {w w' : World} {sb : Nat} {a : Option Addr} {cap : Nat} {css : List (List ByteArray)} {ch : Int} (h : View w sb a cap css ch) (hc : ∀ x, w'.cell? x = w.cell? x) : View w' sb a cap css ch := by
  refine ⟨by rw [hc]; exact h.c0, by rw [hc]; exact h.c1, ⟨h.chunks.1, fun hp => ?_⟩, h.fine, h.len, h.lens⟩
  obtain ⟨b, off, ha, h2⟩ := h.chunks.2 hp
  refine ⟨b, off, ha, fun i hi => ?_⟩
  obtain ⟨ai, ci, h3, h4, h5⟩ := h2 i hi
  exact ⟨ai, ci, by rw [hc]; exact h3, h4, strsA_same h5 (fun b off v hv => by rw [hc]; exact hv)⟩
theorem View.drewN {w : World} {sb : Nat} {a : Option Addr} {cap : Nat} {css : List (List ByteArray)} {ch : Int} (h : View w sb a cap css ch) (q : Nat) : View (w.drewN q) sb a cap css ch :=
  h.same (fun x => World.Alike.cell (World.drewN_alike w q) x)

def needB (p : Option Addr) (ch wch : Int) (f g : Bool) : Bool := p.isNone || (wch != ch) || !f || !g
/-- What a question leaves. -/
def Asked (w w' : World) (wb sb : Nat) (ch : Int) (k : ByteArray) (past : Bool) (o : Option ByteArray) : Prop :=
  WalkAt w' wb (some ⟨sb, 0, none⟩) ch k past o.isSome (o.getD ByteArray.empty) ∧ Only wb w w'

theorem asked_search {w : World} {sb wb : Nat} {ch wch : Int} {p : Option Addr} {wat wkey k : ByteArray} {wpast wfound past : Bool} (hw : WalkAt w wb p wch wat wpast wfound wkey) (o : Option ByteArray) (q r : Nat) :
    Asked w ((((((((w.drewN q).setCell ⟨wb, 5, none⟩ (.string (o.getD ByteArray.empty))).setCell ⟨wb, 4, none⟩ (.bool o.isSome)).setCell ⟨wb, 0, none⟩ (.pointer (some ⟨sb, 0, none⟩))).setCell ⟨wb, 1, none⟩ (.int .u64 ch)).setCell ⟨wb, 2, none⟩ (.string k)).setCell ⟨wb, 3, none⟩ (.bool past)).drewN r) wb sb ch k past o := by
  have hb : (w.drewN q).heap[wb]? = some (.cells #[.pointer p, .int .u64 wch, .string wat, .bool wpast, .bool wfound, .string wkey] 57 (0, 0)) := by rw [drewN_heap]; exact hw.blk
  refine ⟨⟨?_⟩, (((((((((Only.refl wb w).drewN q).setCell _ _).setCell _ _).setCell _ _).setCell _ _).setCell _ _).setCell _ _).drewN r)⟩
  rw [drewN_heap, blk_set (blk_set (blk_set (blk_set (blk_set (blk_set hb _) _) _) _) _) _]
  simp
theorem asked_cached {w : World} {sb wb : Nat} {ch : Int} {wat wkey k : ByteArray} {wpast wfound past : Bool} (hw : WalkAt w wb (some ⟨sb, 0, none⟩) ch wat wpast wfound wkey) (o : Option ByteArray) (hk : wkey = o.getD ByteArray.empty) (hf : wfound = o.isSome) (q r : Nat) :
    Asked w ((((w.drewN q).setCell ⟨wb, 2, none⟩ (.string k)).setCell ⟨wb, 3, none⟩ (.bool past)).drewN r) wb sb ch k past o := by
  subst hk; subst hf
  have hb : (w.drewN q).heap[wb]? = some (.cells #[.pointer (some ⟨sb, 0, none⟩), .int .u64 ch, .string wat, .bool wpast, .bool o.isSome, .string (o.getD ByteArray.empty)] 57 (0, 0)) := by rw [drewN_heap]; exact hw.blk
  refine ⟨⟨?_⟩, ((((Only.refl wb w).drewN q).setCell _ _).setCell _ _).drewN r⟩
  rw [drewN_heap, blk_set (blk_set hb _) _]
  simp

theorem fwd_lt {k wat : ByteArray} {past wpast : Bool} (h : Op.bytesLess k.toList wat.toList = true) : fwdB k wat past wpast = false := by
  have h' : slt k wat = true := h
  unfold fwdB
  rw [slt_asymm h']
  have : k ≠ wat := fun e => by subst e; rw [slt_irrefl] at h'; cases h'
  simp [this]
theorem bl_ne {x y : ByteArray} (h : Op.bytesLess x.toList y.toList = true) : (x.toList == y.toList) = false := by
  rw [beq_eq_false_iff_ne]
  intro e
  have := toList_inj e
  subst this
  have h' : slt x x = true := h
  rw [slt_irrefl] at h'; cases h'
theorem fwd_eq {k wat : ByteArray} {past wpast : Bool} (h : (k.toList == wat.toList) = true) : fwdB k wat past wpast = (past || !wpast) := by
  have e := toList_inj (beq_iff_eq.1 h)
  subst e
  unfold fwdB; rw [slt_irrefl]; simp
theorem fwd_gt {k wat : ByteArray} {past wpast : Bool} (h : Op.bytesLess k.toList wat.toList = false) (h2 : (k.toList == wat.toList) = false) : fwdB k wat past wpast = true := by
  have h' : slt k wat = false := h
  unfold fwdB
  rcases not_lt_cases h' with h3 | h3
  · simp [h3]
  · subst h3; simp at h2
theorem ahd_lt {key k : ByteArray} {past : Bool} (h : Op.bytesLess key.toList k.toList = true) : ahdB true key k past = false := by
  have h' : slt key k = true := h
  unfold ahdB
  rw [slt_asymm h']
  have : key ≠ k := fun e => by subst e; rw [slt_irrefl] at h'; cases h'
  simp [this]
theorem ahd_eq {key k : ByteArray} {past : Bool} (h : (key.toList == k.toList) = true) : ahdB true key k past = !past := by
  have e := toList_inj (beq_iff_eq.1 h)
  subst e
  unfold ahdB; rw [slt_irrefl]; simp
theorem ahd_gt {key k : ByteArray} {past : Bool} (h : Op.bytesLess key.toList k.toList = false) (h2 : (key.toList == k.toList) = false) : ahdB true key k past = true := by
  have h' : slt key k = false := h
  unfold ahdB
  rcases not_lt_cases h' with h3 | h3
  · simp [h3]
  · subst h3; simp at h2

set_option maxRecDepth 100000 in
set_option maxHeartbeats 2000000 in
theorem walkFrom_any {w : World} {sb wb : Nat} {a : Option Addr} {cap : Nat} {css : List (List ByteArray)} {ch wch : Int} {p : Option Addr} {wat wkey : ByteArray} {wpast wfound : Bool}
    (h : View w sb a cap css ch) (hw : WalkAt w wb p wch wat wpast wfound wkey) (hne : sb ≠ wb) (hp : p = none ∨ p = some ⟨sb, 0, none⟩) (k : ByteArray) (past : Bool)
    (htrue : p = some ⟨sb, 0, none⟩ → wch = ch → wkey = (scan css.flatten wat wpast).getD ByteArray.empty ∧ wfound = (scan css.flatten wat wpast).isSome) :
    Calls Try.prog 34 #[.pointer (some ⟨wb, 0, none⟩), .pointer (some ⟨sb, 0, none⟩), .string k, .bool past] w fun e w' => RetS (scan css.flatten k past) e ∧ Asked w w' wb sb ch k past (scan css.flatten k past) := by
  obtain ⟨d0, d1, d2, d3, d4, d5⟩ := hw.cell
  have c1 := h.c1
  have f0 := hw.frozen 0
  have f1 := hw.frozen 1
  have f2 := hw.frozen 2
  have f3 := hw.frozen 3
  have f4 := hw.frozen 4
  have f5 := hw.frozen 5
  have HFR : Hid (∀ q, Calls Try.prog 35 #[.pointer (some ⟨sb, 0, none⟩), .string k, .bool past] (w.drewN q) fun e w' => RetS (scan css.flatten k past) e ∧ w' = w.drewN q) := fun q => from_any (h.drewN q) k past
  have HCA : Hid (p = some ⟨sb, 0, none⟩ → wch = ch → fwdB k wat past wpast = true → ahdB wfound wkey k past = true → wkey = (scan css.flatten k past).getD ByteArray.empty ∧ wfound = (scan css.flatten k past).isSome) := fun h1 h2 h3 h4 => by
    obtain ⟨h5, h6⟩ := htrue h1 h2
    rw [cached h5 h6 h3 h4]; exact ⟨h5, h6⟩
  have HW : Hid _ := hw
  clear htrue h hw
  generalize scan css.flatten k past = o at *
  go_enter Try.func34, Try.ntmps34
  go_upto_region 3 with fail
  go_cut [10] (fun s wx => s = .bool (fwdB k wat past wpast) ∧ wx = w)
  case first =>
    cases hb : Op.bytesLess k.toList wat.toList with
    | true =>
      have hne : (k.toList == wat.toList) = false := bl_ne hb
      have HF : Hid (fwdB k wat past wpast = false) := fwd_lt hb
      go_wp2
      go_meet
      case rel => exact ⟨by rw [HF.out], rfl⟩
    | false =>
      cases he : (k.toList == wat.toList) with
      | true =>
        have HF : Hid (fwdB k wat past wpast = (past || !wpast)) := fwd_eq he
        cases past with
        | true =>
          go_wp2
          go_meet
          case rel => exact ⟨by rw [HF.out]; rfl, rfl⟩
        | false =>
          go_wp2
          go_meet
          case rel => exact ⟨by rw [HF.out]; rfl, rfl⟩
      | false =>
        have HF : Hid (fwdB k wat past wpast = true) := fwd_gt hb he
        go_wp2
        go_meet
        case rel => exact ⟨by rw [HF.out], rfl⟩
  case rest =>
  obtain ⟨rfl, rfl⟩ := hcut
  generalize fwdB k wat past wpast = fw at *
  go_upto_region 4 with fail
  go_cut [11] (fun s wx => s = .bool (ahdB wfound wkey k past) ∧ wx = wc)
  case first =>
    cases wfound with
    | false =>
      have HF : Hid (ahdB false wkey k past = true) := rfl
      go_wp2
      go_meet
      case rel => exact ⟨by rw [HF.out], rfl⟩
    | true =>
      cases hb : Op.bytesLess wkey.toList k.toList with
      | true =>
        have hne : (wkey.toList == k.toList) = false := bl_ne hb
        have HF : Hid (ahdB true wkey k past = false) := ahd_lt hb
        go_wp2
        go_meet
        case rel => exact ⟨by rw [HF.out], rfl⟩
      | false =>
        cases he : (wkey.toList == k.toList) with
        | true =>
          have HF : Hid (ahdB true wkey k past = !past) := ahd_eq he
          go_wp2
          go_meet
          case rel => exact ⟨by rw [HF.out], rfl⟩
        | false =>
          have HF : Hid (ahdB true wkey k past = true) := ahd_gt hb he
          go_wp2
          go_meet
          case rel => exact ⟨by rw [HF.out], rfl⟩
  case rest =>
  obtain ⟨rfl, rfl⟩ := hcut
  generalize ahdB wfound wkey k past = ah at *
  go_upto_region 5 with fail
  go_cut [87] (fun s wx => s = .bool (needB p ch wch fw ah) ∧ ∃ q, wx = wc.drewN q)
  case first =>
    rcases hp with rfl | rfl
    · have hnn := fun w => neq_none (some ⟨sb, 0, none⟩) w
      simp only [Option.isNone_some, Bool.not_false] at hnn
      go_quiet (fail)
      go_wp2
      go_meet
      case rel => exact ⟨rfl, _, rfl⟩
    · have hss := fun w => neq_same ⟨sb, 0, none⟩ w
      by_cases hch : wch = ch
      · have hcc : (wch != ch) = false := by simp [hch]
        have HN : Hid (needB (some ⟨sb, 0, none⟩) ch wch fw ah = (!fw || !ah)) := by show needB _ _ _ _ _ = _; simp [needB, hch]
        clear hch
        cases fw with
        | false =>
          go_quiet (fail)
          go_wp2
          go_meet
          case rel => exact ⟨by rw [HN.out]; rfl, _, rfl⟩
        | true =>
          go_quiet (fail)
          go_wp2
          go_meet
          case rel => exact ⟨by rw [HN.out]; rfl, _, rfl⟩
      · have hcc : (wch != ch) = true := by simp [hch]
        have HN : Hid (needB (some ⟨sb, 0, none⟩) ch wch fw ah = true) := by show needB _ _ _ _ _ = _; simp [needB, hch]
        clear hch
        go_quiet (fail)
        go_wp2
        go_meet
        case rel => exact ⟨by rw [HN.out], _, rfl⟩
  case rest =>
  obtain ⟨rfl, q, rfl⟩ := hcut
  cases hnd : needB p ch wch fw ah with
  | true =>
    clear HCA hp
    have hne' : ¬ wb = sb := fun e => hne e.symm
    go_wp2_with (go_at_call 35; refine (HFR.out _).mono ?_; rintro e w' ⟨rfl, rfl⟩)
    go_quiet (fail)
    go_wp2
    go_ret2
    clear HFR d0 d1 d2 d3 d4 d5 f0 f1 f2 f3 f4 f5
    exact ⟨rfl, asked_search HW.out o q _⟩
  | false =>
    have hps : p = some ⟨sb, 0, none⟩ := by rcases hp with rfl | rfl; simp [needB] at hnd; rfl
    subst hps
    have hcc : wch = ch := by apply Classical.byContradiction; intro hh; simp [needB, hh] at hnd
    subst hcc
    have hfw : fw = true := by cases fw; simp [needB] at hnd; rfl
    have hah : ah = true := by cases ah; simp [needB] at hnd; rfl
    have HC : Hid _ := HCA.out rfl rfl hfw hah
    clear HCA hp hfw hah
    go_wp2
    go_quiet (fail)
    go_wp2
    go_ret2
    clear HFR d0 d1 d2 d3 d4 d5 f0 f1 f2 f3 f4 f5
    obtain ⟨h1, h2⟩ := HC.out
    exact ⟨by subst h1; subst h2; rfl, asked_cached HW.out o h1 h2 q _⟩
end Go.Proofs.Qxb6617214a
