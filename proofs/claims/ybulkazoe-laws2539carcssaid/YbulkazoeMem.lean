import Derived.Test.YbulkazoeRows
import Derived.Test.YbulkazoePlain
import Derived.WalkKit
import Derived.WalkSpells
import Derived.WalkLawsBesides
import Derived.Deep.OwnRows
import Derived.Lib.LazyBuf
namespace Go.Proofs.Ybulkazoe
open Go.RowKit
set_option linter.unusedVariables false

/-! ### What may be written: the blocks M, and new ones -/
structure Kp (M : Nat → Prop) (w w' : World) : Prop where
  os : w'.os = w.os
  tape : w'.tape = w.tape
  output : w'.output = w.output
  size : w.heap.size ≤ w'.heap.size
  block : ∀ b, b < w.heap.size → ¬ M b → w'.heap[b]? = w.heap[b]?

def Free (M : Nat → Prop) (w : World) (b : Nat) : Prop := M b ∨ w.heap.size ≤ b

theorem Kp.refl (M : Nat → Prop) (w : World) : Kp M w w := ⟨rfl, rfl, rfl, Nat.le_refl _, fun _ _ _ => rfl⟩

theorem Kp.grown {M : Nat → Prop} {w wr w' : World} {row : Option Nat} (h : Kp M w wr) (hg : wr.grownBy w' row) (hr : ∀ b, row = some b → Free M w b) : Kp M w w' :=
  ⟨hg.os.trans h.os, hg.tape.trans h.tape, hg.output.trans h.output, Nat.le_trans h.size hg.size, fun b hb hm => by
    rw [hg.block b (Nat.lt_of_lt_of_le hb h.size) (fun e => ?_)]
    · exact h.block b hb hm
    · rcases hr b e.symm with h1 | h1
      · exact hm h1
      · omega⟩

theorem Kp.below {M : Nat → Prop} {w wr w' : World} (h : Kp M w wr) (hb : Below wr.heap.size wr w') : Kp M w w' :=
  h.grown (row := none) ⟨hb.os, hb.tape, hb.output, hb.size, fun k hk _ => hb.block k hk⟩ (fun b e => by cases e)

theorem grownBy_setCell (w : World) (b o : Nat) (v : Value) : w.grownBy (w.setCell ⟨b, o, none⟩ v) (some b) :=
  ⟨rfl, rfl, rfl, by simp, fun k _ hk => heap_setCell_other w ⟨b, o, none⟩ k v (fun e => hk (by rw [e]))⟩

theorem grownBy_trans {w w1 w2 : World} {row : Option Nat} (h1 : w.grownBy w1 row) (h2 : w1.grownBy w2 row) : w.grownBy w2 row :=
  ⟨h2.os.trans h1.os, h2.tape.trans h1.tape, h2.output.trans h1.output, Nat.le_trans h1.size h2.size, fun k hk hne => (h2.block k (Nat.lt_of_lt_of_le hk h1.size) hne).trans (h1.block k hk hne)⟩

theorem grownBy_setCells (b : Nat) : ∀ (vs : List Value) (o : Nat) (w : World), w.grownBy (w.setCells b o vs) (some b)
  | [], o, w => World.grownBy.refl _ _
  | v :: r, o, w => grownBy_trans (grownBy_setCell w b o v) (grownBy_setCells b r (o + 1) _)

theorem grownBy_drewN (w : World) (n : Nat) (row : Option Nat) : w.grownBy (w.drewN n) row := by
  have h := below_drewN (Below.refl w.heap.size w) n
  exact ⟨h.os, h.tape, h.output, h.size, fun k hk _ => h.block k hk⟩

theorem grownBy_drew (w : World) (row : Option Nat) : w.grownBy w.drew row := ⟨rfl, rfl, rfl, Nat.le_refl _, fun _ _ _ => rfl⟩

theorem grownBy_below {w w' : World} (hb : Below w.heap.size w w') : w.grownBy w' none := ⟨hb.os, hb.tape, hb.output, hb.size, fun k hk _ => hb.block k hk⟩

/-! ### A row with spare room, nil or not -/
def blk (a : Option Addr) : Option Nat := a.map (·.block)

structure Row (w : World) (e : TypeId) (a : Option Addr) (n c : Nat) (f : Nat → Value) : Prop where
  le : n ≤ c
  max : c ≤ maxLen
  isNone : a = none → c = 0
  isSome : ∀ x, a = some x → ∃ g, x = ⟨g, 0, none⟩ ∧ w.rowIs g e c f

theorem Row.nil (w : World) (e : TypeId) (f : Nat → Value) : Row w e none 0 0 f := ⟨Nat.le_refl _, by unfold maxLen; omega, fun _ => rfl, fun x h => by cases h⟩

theorem Row.pos {w : World} {e : TypeId} {a : Option Addr} {n c : Nat} {f : Nat → Value} (h : Row w e a n c f) (hc : 0 < c) : ∃ g, a = Option.some ⟨g, 0, Option.none⟩ ∧ w.rowIs g e c f := by
  cases a with
  | none => have := h.isNone rfl; omega
  | some x => obtain ⟨g, rfl, hr⟩ := h.isSome x rfl; exact ⟨g, rfl, hr⟩

theorem Row.keep {w w' : World} {e : TypeId} {a : Option Addr} {n c : Nat} {f : Nat → Value} (h : Row w e a n c f) (hb : ∀ b, blk a = Option.some b → w'.heap[b]? = w.heap[b]?) : Row w' e a n c f :=
  ⟨h.le, h.max, h.isNone, fun x hx => by obtain ⟨g, rfl, hr⟩ := h.isSome x hx; exact ⟨g, rfl, hr.of_block (hb g (by subst hx; rfl))⟩⟩

theorem Row.grown {w w' : World} {e : TypeId} {a : Option Addr} {n c : Nat} {f : Nat → Value} {row : Option Nat} (h : Row w e a n c f) (hg : w.grownBy w' row) (hne : ∀ b, blk a = Option.some b → Option.some b ≠ row) : Row w' e a n c f :=
  h.keep (fun b hb => by
    cases a with
    | none => cases hb
    | some x =>
      obtain ⟨g, rfl, hr⟩ := h.isSome x rfl
      cases hb
      exact hg.block _ hr.lt (hne _ rfl))

theorem Row.lt {w : World} {e : TypeId} {a : Option Addr} {n c : Nat} {f : Nat → Value} (h : Row w e a n c f) : ∀ b, blk a = Option.some b → b < w.heap.size := by
  intro b hb
  cases a with
  | none => cases hb
  | some x => obtain ⟨g, rfl, hr⟩ := h.isSome x rfl; cases hb; exact hr.lt

theorem Row.len {w : World} {e : TypeId} {a : Option Addr} {n c : Nat} {f : Nat → Value} (h : Row w e a n c f) (m : Nat) (hm : m ≤ c) : Row w e a m c f := ⟨hm, h.max, h.isNone, h.isSome⟩

theorem rowIs_ne {w : World} {b b' : Nat} {t t' : TypeId} {n n' : Nat} {f f' : Nat → Value} (h : w.rowIs b t n f) (h' : w.rowIs b' t' n' f') (ht : t ≠ t') : b ≠ b' := by
  intro e
  subst e
  obtain ⟨c, hb, _⟩ := h
  obtain ⟨c', hb', _⟩ := h'
  rw [hb] at hb'
  simp at hb'
  exact ht hb'.2

theorem Row.ne_box {w : World} {e t : TypeId} {a : Option Addr} {n c s N : Nat} {f S : Nat → Value} (h : Row w e a n c f) (hs : w.rowIs s t N S) (ht : e ≠ t) : ∀ b, blk a = Option.some b → b ≠ s := by
  intro b hb
  cases a with
  | none => cases hb
  | some x => obtain ⟨g, rfl, hr⟩ := h.isSome x rfl; cases hb; exact rowIs_ne hr hs ht

theorem Row.ne_row {w : World} {e e' : TypeId} {a a' : Option Addr} {n c n' c' : Nat} {f f' : Nat → Value} (h : Row w e a n c f) (h' : Row w e' a' n' c' f') (ht : e ≠ e') : ∀ b, blk a = Option.some b → Option.some b ≠ blk a' := by
  intro b hb e0
  cases a with
  | none => cases hb
  | some x =>
    obtain ⟨g, rfl, hr⟩ := h.isSome x rfl
    cases hb
    cases a' with
    | none => cases e0
    | some y =>
      obtain ⟨g', rfl, hr'⟩ := h'.isSome y rfl
      have : g = g' := by simpa [blk] using e0
      exact rowIs_ne hr hr' ht this

/-- From what make, Clone and append leave. -/
theorem row_of_own {w : World} {base : Nat} {e : TypeId} {a : Option Addr} {n c : Nat} {xs : List Value} (h : w.ownsRow base e 1 (.slice a n c) n xs) : ∃ f, Row w e a n c f ∧ (∀ i v, xs[i]? = Option.some v → f i = v) ∧ ∀ b, blk a = Option.some b → base ≤ b := by
  rcases h.2 with ⟨h0, rfl⟩ | ⟨g, cap, cur, hv, hb, hg, h1, h2, h3, h4⟩
  · cases h0
    refine ⟨fun _ => default, Row.nil _ _ _, fun i v hi => ?_, fun b hb => by cases hb⟩
    have : xs = [] := List.eq_nil_of_length_eq_zero (by simpa using h.1)
    subst this; simp at hi
  · cases hv
    refine ⟨fun i => (cur[i]?).getD default, ⟨h1, h2, (fun h => by cases h), fun x hx => ?_⟩, fun i v hi => ?_, fun b hbk => by cases hbk; exact hb⟩
    · cases hx
      refine ⟨g, rfl, cur, hg, by omega, fun i hi => ?_⟩
      simp [Array.getElem?_eq_getElem (show i < cur.size by omega)]
    · have h5 : (cur.toList.take (n * 1))[i]? = Option.some v := by rw [h4]; exact hi
      rw [List.getElem?_take] at h5
      split at h5
      · have h6 : cur[i]? = Option.some v := by simpa using h5
        simp [h6]
      · cases h5

/-! ### The state of the search behind its pointer -/
structure Ph (M : Nat → Prop) (w : World) (sb rfb : Nat) (fa : Option Addr) (fn fc : Nat) (F : Nat → Value) (ma : Option Addr) (mn mc : Nat) (G : Nat → Value) (ca : Option Addr) (cn cc : Nat) (C : Nat → Value) (wr : World) : Prop where
  kp : Kp M w wr
  box : ∃ S, wr.rowIs sb 58 49 S ∧ S 0 = .pointer (some ⟨rfb, 0, none⟩) ∧ S 38 = .slice fa fn fc ∧ S 39 = .slice ma mn mc ∧ S 40 = .slice ca cn cc
  fx : Row wr 32 fa fn fc F
  am : Row wr 3 ma mn mc G
  cr : Row wr 3 ca cn cc C
  fs : Free M w sb
  ff : ∀ b, blk fa = some b → Free M w b
  fm : ∀ b, blk ma = some b → Free M w b
  fcn : ∀ b, blk ca = some b → Free M w b
  ne : ∀ b, blk ma = some b → some b ≠ blk ca

variable {M : Nat → Prop} {w wr : World} {sb rfb : Nat} {fa : Option Addr} {fn fc : Nat} {F : Nat → Value} {ma : Option Addr} {mn mc : Nat} {G : Nat → Value} {ca : Option Addr} {cn cc : Nat} {C : Nat → Value}

theorem Ph.cells (h : Ph M w sb rfb fa fn fc F ma mn mc G ca cn cc C wr) :
    wr.cell? ⟨sb, 0, none⟩ = some (.pointer (some ⟨rfb, 0, none⟩)) ∧ wr.cell? ⟨sb, 38, none⟩ = some (.slice fa fn fc) ∧ wr.cell? ⟨sb, 39, none⟩ = some (.slice ma mn mc) ∧ wr.cell? ⟨sb, 40, none⟩ = some (.slice ca cn cc) ∧ (∀ o, wr.frozen? ⟨sb, o, none⟩ = false) ∧ sb < wr.heap.size := by
  obtain ⟨S, hb, h0, h1, h2, h3⟩ := h.box
  refine ⟨?_, ?_, ?_, ?_, fun o => hb.frozen o, hb.lt⟩
  · rw [← h0]; exact hb.cell (by omega)
  · rw [← h1]; exact hb.cell (by omega)
  · rw [← h2]; exact hb.cell (by omega)
  · rw [← h3]; exact hb.cell (by omega)

/-- Nothing but draws and new blocks. -/
theorem Ph.later {w' : World} (h : Ph M w sb rfb fa fn fc F ma mn mc G ca cn cc C wr) (hg : wr.grownBy w' none) : Ph M w sb rfb fa fn fc F ma mn mc G ca cn cc C w' := by
  obtain ⟨S, hb, h0, h1, h2, h3⟩ := h.box
  exact ⟨h.kp.grown hg (fun b e => by cases e), ⟨S, hb.of_block (hg.block sb hb.lt (by simp)), h0, h1, h2, h3⟩, h.fx.grown hg (fun b _ => by simp), h.am.grown hg (fun b _ => by simp), h.cr.grown hg (fun b _ => by simp), h.fs, h.ff, h.fm, h.fcn, h.ne⟩

/-- chainNext's row has been laid anew, or written: w1; then its header is stored. -/
theorem Ph.newC {w1 : World} {ca' : Option Addr} {cn' cc' : Nat} {C' : Nat → Value} (h : Ph M w sb rfb fa fn fc F ma mn mc G ca cn cc C wr) (hr : Row w1 3 ca' cn' cc' C') (hg : wr.grownBy w1 (blk ca)) (hnew : ∀ b, blk ca' = some b → blk ca = some b ∨ wr.heap.size ≤ b) :
    (w1.cell? ⟨sb, 40, none⟩ = some (.slice ca cn cc) ∧ (∀ o, w1.frozen? ⟨sb, o, none⟩ = false) ∧ sb < w1.heap.size) ∧ Ph M w sb rfb fa fn fc F ma mn mc G ca' cn' cc' C' (w1.setCell ⟨sb, 40, none⟩ (.slice ca' cn' cc')) := by
  obtain ⟨S, hb, h0, h1, h2, h3⟩ := h.box
  have hbne : some sb ≠ blk ca := fun e => h.cr.ne_box hb (by decide) sb e.symm rfl
  have hb1 : w1.rowIs sb 58 49 S := hb.of_block (hg.block sb hb.lt hbne)
  have hg2 := grownBy_setCell w1 sb 40 (.slice ca' cn' cc')
  have hmlt := h.am.lt
  have hm1 : Row w1 3 ma mn mc G := h.am.grown hg h.ne
  have hf1 : Row w1 32 fa fn fc F := h.fx.grown hg (h.fx.ne_row h.cr (by decide))
  refine ⟨⟨by rw [← h3]; exact hb1.cell (by omega), fun o => hb1.frozen o, hb1.lt⟩, ?_⟩
  refine ⟨(h.kp.grown hg h.fcn).grown hg2 (fun b e => by cases e; exact h.fs), ⟨_, hb1.set 40 _, ?_, ?_, ?_, ?_⟩, hf1.grown hg2 (fun b hb0 e => hf1.ne_box hb1 (by decide) b hb0 (by simpa using e)), hm1.grown hg2 (fun b hb0 e => hm1.ne_box hb1 (by decide) b hb0 (by simpa using e)), hr.grown hg2 (fun b hb0 e => hr.ne_box hb1 (by decide) b hb0 (by simpa using e)), h.fs, h.ff, h.fm, fun b hb0 => ?_, fun b hb0 e => ?_⟩
  · simpa using h0
  · simpa using h1
  · simpa using h2
  · simp
  · rcases hnew b hb0 with h4 | h4
    · exact h.fcn b h4
    · exact .inr (Nat.le_trans h.kp.size h4)
  · rcases hnew b e.symm with h4 | h4
    · exact h.ne b hb0 h4.symm
    · have := hmlt b hb0; omega

/-- A store into chainNext's row. -/
theorem Ph.setC {g : Nat} (h : Ph M w sb rfb fa fn fc F ma mn mc G (some ⟨g, 0, none⟩) cn cc C wr) (i : Nat) (v : Value) :
    Ph M w sb rfb fa fn fc F ma mn mc G (some ⟨g, 0, none⟩) cn cc (fun j => if j = i then v else C j) (wr.setCell ⟨g, i, none⟩ v) := by
  obtain ⟨S, hb, h0, h1, h2, h3⟩ := h.box
  have hg := grownBy_setCell wr g i v
  have hne : sb ≠ g := fun e => h.cr.ne_box hb (by decide) g rfl e.symm
  refine ⟨h.kp.grown hg (fun b e => by cases e; exact h.fcn g rfl), ⟨S, hb.setOther hne _, h0, h1, h2, h3⟩, h.fx.grown hg (fun b hb0 => h.fx.ne_row h.cr (by decide) b hb0), h.am.grown hg (fun b hb0 => h.ne b hb0), ⟨h.cr.le, h.cr.max, h.cr.isNone, fun x hx => ?_⟩, h.fs, h.ff, h.fm, h.fcn, h.ne⟩
  obtain ⟨g', rfl, hr⟩ := h.cr.isSome x hx
  cases hx
  exact ⟨g, rfl, hr.set i v⟩

/-- arcMemory's row has been laid anew, or written; then its header is stored. -/
theorem Ph.newM {w1 : World} {ma' : Option Addr} {mn' mc' : Nat} {G' : Nat → Value} (h : Ph M w sb rfb fa fn fc F ma mn mc G ca cn cc C wr) (hr : Row w1 3 ma' mn' mc' G') (hg : wr.grownBy w1 (blk ma)) (hnew : ∀ b, blk ma' = some b → blk ma = some b ∨ wr.heap.size ≤ b) :
    (w1.cell? ⟨sb, 39, none⟩ = some (.slice ma mn mc) ∧ (∀ o, w1.frozen? ⟨sb, o, none⟩ = false) ∧ sb < w1.heap.size) ∧ Ph M w sb rfb fa fn fc F ma' mn' mc' G' ca cn cc C (w1.setCell ⟨sb, 39, none⟩ (.slice ma' mn' mc')) := by
  obtain ⟨S, hb, h0, h1, h2, h3⟩ := h.box
  have hbne : some sb ≠ blk ma := fun e => h.am.ne_box hb (by decide) sb e.symm rfl
  have hb1 : w1.rowIs sb 58 49 S := hb.of_block (hg.block sb hb.lt hbne)
  have hg2 := grownBy_setCell w1 sb 39 (.slice ma' mn' mc')
  have hclt := h.cr.lt
  have hc1 : Row w1 3 ca cn cc C := h.cr.grown hg (fun b hb0 e => h.ne b e.symm hb0.symm)
  have hf1 : Row w1 32 fa fn fc F := h.fx.grown hg (h.fx.ne_row h.am (by decide))
  refine ⟨⟨by rw [← h2]; exact hb1.cell (by omega), fun o => hb1.frozen o, hb1.lt⟩, ?_⟩
  refine ⟨(h.kp.grown hg h.fm).grown hg2 (fun b e => by cases e; exact h.fs), ⟨_, hb1.set 39 _, ?_, ?_, ?_, ?_⟩, hf1.grown hg2 (fun b hb0 e => hf1.ne_box hb1 (by decide) b hb0 (by simpa using e)), hr.grown hg2 (fun b hb0 e => hr.ne_box hb1 (by decide) b hb0 (by simpa using e)), hc1.grown hg2 (fun b hb0 e => hc1.ne_box hb1 (by decide) b hb0 (by simpa using e)), h.fs, h.ff, fun b hb0 => ?_, h.fcn, fun b hb0 e => ?_⟩
  · simpa using h0
  · simpa using h1
  · simp
  · simpa using h3
  · rcases hnew b hb0 with h4 | h4
    · exact h.fm b h4
    · exact .inr (Nat.le_trans h.kp.size h4)
  · rcases hnew b hb0 with h4 | h4
    · exact h.ne b h4 e
    · have := hclt b e.symm; omega

/-- fixed's row has been laid anew, or written; then its header is stored. -/
theorem Ph.newF {w1 : World} {fa' : Option Addr} {fn' fc' : Nat} {F' : Nat → Value} (h : Ph M w sb rfb fa fn fc F ma mn mc G ca cn cc C wr) (hr : Row w1 32 fa' fn' fc' F') (hg : wr.grownBy w1 (blk fa)) (hnew : ∀ b, blk fa' = some b → blk fa = some b ∨ wr.heap.size ≤ b) :
    (w1.cell? ⟨sb, 38, none⟩ = some (.slice fa fn fc) ∧ (∀ o, w1.frozen? ⟨sb, o, none⟩ = false) ∧ sb < w1.heap.size) ∧ Ph M w sb rfb fa' fn' fc' F' ma mn mc G ca cn cc C (w1.setCell ⟨sb, 38, none⟩ (.slice fa' fn' fc')) := by
  obtain ⟨S, hb, h0, h1, h2, h3⟩ := h.box
  have hbne : some sb ≠ blk fa := fun e => h.fx.ne_box hb (by decide) sb e.symm rfl
  have hb1 : w1.rowIs sb 58 49 S := hb.of_block (hg.block sb hb.lt hbne)
  have hg2 := grownBy_setCell w1 sb 38 (.slice fa' fn' fc')
  have hc1 : Row w1 3 ca cn cc C := h.cr.grown hg (h.cr.ne_row h.fx (by decide))
  have hm1 : Row w1 3 ma mn mc G := h.am.grown hg (h.am.ne_row h.fx (by decide))
  refine ⟨⟨by rw [← h1]; exact hb1.cell (by omega), fun o => hb1.frozen o, hb1.lt⟩, ?_⟩
  refine ⟨(h.kp.grown hg h.ff).grown hg2 (fun b e => by cases e; exact h.fs), ⟨_, hb1.set 38 _, ?_, ?_, ?_, ?_⟩, hr.grown hg2 (fun b hb0 e => hr.ne_box hb1 (by decide) b hb0 (by simpa using e)), hm1.grown hg2 (fun b hb0 e => hm1.ne_box hb1 (by decide) b hb0 (by simpa using e)), hc1.grown hg2 (fun b hb0 e => hc1.ne_box hb1 (by decide) b hb0 (by simpa using e)), h.fs, fun b hb0 => ?_, h.fm, h.fcn, h.ne⟩
  · simpa using h0
  · simp
  · simpa using h2
  · simpa using h3
  · rcases hnew b hb0 with h4 | h4
    · exact h.ff b h4
    · exact .inr (Nat.le_trans h.kp.size h4)

/-- A store into fixed's row. -/
theorem Ph.setF {g : Nat} (h : Ph M w sb rfb (some ⟨g, 0, none⟩) fn fc F ma mn mc G ca cn cc C wr) (i : Nat) (v : Value) :
    Ph M w sb rfb (some ⟨g, 0, none⟩) fn fc (fun j => if j = i then v else F j) ma mn mc G ca cn cc C (wr.setCell ⟨g, i, none⟩ v) := by
  obtain ⟨S, hb, h0, h1, h2, h3⟩ := h.box
  have hg := grownBy_setCell wr g i v
  have hne : sb ≠ g := fun e => h.fx.ne_box hb (by decide) g rfl e.symm
  refine ⟨h.kp.grown hg (fun b e => by cases e; exact h.ff g rfl), ⟨S, hb.setOther hne _, h0, h1, h2, h3⟩, ⟨h.fx.le, h.fx.max, h.fx.isNone, fun x hx => ?_⟩, h.am.grown hg (fun b hb0 => h.am.ne_row h.fx (by decide) b hb0), h.cr.grown hg (fun b hb0 => h.cr.ne_row h.fx (by decide) b hb0), h.fs, h.ff, h.fm, h.fcn, h.ne⟩
  obtain ⟨g', rfl, hr⟩ := h.fx.isSome x hx
  cases hx
  exact ⟨g, rfl, hr.set i v⟩

end Go.Proofs.Ybulkazoe
