import Derived.Test.YbulkazwgRows
import Derived.WalkKit
import Derived.WalkSpells
import Derived.WalkLawsBesides
namespace Go.Proofs.Ybulkazwg
open Go.RowKit
set_option linter.unusedVariables false

/-! ### Plain lists -/
def rowL (f : Nat → Int) (k : Nat) : List Int := (List.range k).map f
def idx (I : Nat → Int) (i : Nat) : List Nat := (List.range i).filter fun j => I j != 0
def viaAt (l : Nat) (f : Nat → Int) (i : Nat) : Int := if l = 0 then 0 else f (i % l)
def refsTo (R : Nat → Int) (l0 : Nat) (I : Nat → Int) (i : Nat) : List Int := rowL R l0 ++ (idx I i).map I
def viasTo (V : Nat → Int) (l1 : Nat) (I : Nat → Int) (keep : Bool) (Wv : Nat → Int) (i : Nat) : List Int := rowL V l1 ++ if keep = true then (idx I i).map Wv else []
def u64s (l : List Int) : List Value := l.map (Value.int .u64)
def u32s (l : List Int) : List Value := l.map (Value.int .u32)

theorem rowL_succ (f : Nat → Int) (k : Nat) : rowL f (k + 1) = rowL f k ++ [f k] := by simp [rowL, List.range_succ]
theorem rowL_length (f : Nat → Int) (k : Nat) : (rowL f k).length = k := by simp [rowL]
theorem idx_yes (I : Nat → Int) (i : Nat) (h : I i ≠ 0) : idx I (i + 1) = idx I i ++ [i] := by simp [idx, List.range_succ, List.filter_append, h]
theorem idx_no (I : Nat → Int) (i : Nat) (h : I i = 0) : idx I (i + 1) = idx I i := by simp [idx, List.range_succ, List.filter_append, h]
theorem idx_le (I : Nat → Int) (i : Nat) : (idx I i).length ≤ i := by
  have := List.length_filter_le (fun j => I j != 0) (List.range i)
  simpa [idx] using this
theorem refsTo_yes (R : Nat → Int) (l0 : Nat) (I : Nat → Int) (i : Nat) (h : I i ≠ 0) : refsTo R l0 I (i + 1) = refsTo R l0 I i ++ [I i] := by simp [refsTo, idx_yes I i h]
theorem refsTo_no (R : Nat → Int) (l0 : Nat) (I : Nat → Int) (i : Nat) (h : I i = 0) : refsTo R l0 I (i + 1) = refsTo R l0 I i := by simp [refsTo, idx_no I i h]
theorem viasTo_yes (V : Nat → Int) (l1 : Nat) (I : Nat → Int) (Wv : Nat → Int) (i : Nat) (h : I i ≠ 0) : viasTo V l1 I true Wv (i + 1) = viasTo V l1 I true Wv i ++ [Wv i] := by simp [viasTo, idx_yes I i h]
theorem viasTo_off (V : Nat → Int) (l1 : Nat) (I : Nat → Int) (Wv : Nat → Int) (i j : Nat) : viasTo V l1 I false Wv i = viasTo V l1 I false Wv j := by simp [viasTo]
theorem viasTo_no (V : Nat → Int) (l1 : Nat) (I : Nat → Int) (keep : Bool) (Wv : Nat → Int) (i : Nat) (h : I i = 0) : viasTo V l1 I keep Wv (i + 1) = viasTo V l1 I keep Wv i := by simp [viasTo, idx_no I i h]
theorem refsTo_le (R : Nat → Int) (l0 : Nat) (I : Nat → Int) (i : Nat) : (refsTo R l0 I i).length ≤ l0 + i := by
  have := idx_le I i
  simp [refsTo, rowL_length]; omega
theorem viasTo_le (V : Nat → Int) (l1 : Nat) (I : Nat → Int) (keep : Bool) (Wv : Nat → Int) (i : Nat) : (viasTo V l1 I keep Wv i).length ≤ l1 + i := by
  have := idx_le I i
  cases keep <;> simp [viasTo, rowL_length] <;> omega
theorem refsTo_zero (R : Nat → Int) (l0 : Nat) (I : Nat → Int) : refsTo R l0 I 0 = rowL R l0 := by simp [refsTo, idx]
theorem viasTo_zero (V : Nat → Int) (l1 : Nat) (I : Nat → Int) (keep : Bool) (Wv : Nat → Int) : viasTo V l1 I keep Wv 0 = rowL V l1 := by cases keep <;> simp [viasTo, idx]

/-! ### Owned rows -/
theorem own_shape {w : World} {base : Nat} {e : TypeId} {size : Nat} {v : Value} {n : Nat} {xs : List Value} (h : w.ownsRow base e size v n xs) : ∃ a c, v = .slice a n c := by
  rcases h.2 with ⟨rfl, rfl⟩ | ⟨g, cap, cur, rfl, _⟩
  · exact ⟨none, 0, rfl⟩
  · exact ⟨some ⟨g, 0, none⟩, cap, rfl⟩

theorem own_block {w : World} {base : Nat} {e : TypeId} {size : Nat} {v : Value} {n : Nat} {xs : List Value} (h : w.ownsRow base e size v n xs) {b : Nat} (hb : v.ownBlock = some b) : ∃ cur, w.heap[b]? = some (.cells cur e (0, 0)) := by
  rcases h.2 with ⟨rfl, rfl⟩ | ⟨g, cap, cur, rfl, _, hg, _⟩
  · simp [Value.ownBlock] at hb
  · simp [Value.ownBlock] at hb
    subst hb
    exact ⟨cur, hg⟩

/-- Rows of different element types do not share a block. -/
theorem own_ne {w : World} {base base' : Nat} {e e' : TypeId} {size size' : Nat} {v v' : Value} {n n' : Nat} {xs xs' : List Value} (h : w.ownsRow base e size v n xs) (h' : w.ownsRow base' e' size' v' n' xs') (he : e ≠ e') : v.ownBlock = none ∨ v.ownBlock ≠ v'.ownBlock := by
  cases hv : v.ownBlock with
  | none => exact .inl rfl
  | some b =>
    refine .inr (fun e0 => ?_)
    obtain ⟨c1, h1⟩ := own_block h hv
    obtain ⟨c2, h2⟩ := own_block h' e0.symm
    rw [h1] at h2
    simp at h2
    exact he h2.2

/-- A store into a block of another element type leaves the row as it is. -/
theorem own_set {w : World} {base : Nat} {e t : TypeId} {size : Nat} {v : Value} {n : Nat} {xs : List Value} (h : w.ownsRow base e size v n xs) {b o : Nat} {cs : Array Value} {fr : Nat × Nat} (hb : w.heap[b]? = some (.cells cs t fr)) (ht : e ≠ t) (u : Value) :
    (w.setCell ⟨b, o, none⟩ u).ownsRow base e size v n xs := by
  refine ⟨h.1, ?_⟩
  rcases h.2 with hn | ⟨g, cap, cur, rfl, hg, hblk, rest⟩
  · exact .inl hn
  · refine .inr ⟨g, cap, cur, rfl, hg, ?_, rest⟩
    rw [heap_setCell_other w ⟨b, o, none⟩ g u (fun e0 => ?_)]
    · exact hblk
    · have : g = b := e0
      subst this
      rw [hblk] at hb
      simp at hb
      exact ht hb.2.1

theorem own_below {w w' : World} {base : Nat} {e : TypeId} {size : Nat} {v : Value} {n : Nat} {xs : List Value} (h : w.ownsRow base e size v n xs) (hb : Below w.heap.size w w') : w'.ownsRow base e size v n xs :=
  h.kept (row := none) ⟨hb.os, hb.tape, hb.output, hb.size, fun k hk _ => hb.block k hk⟩ (by cases hv : v.ownBlock <;> simp)

/-- Two rows of the call's own, at blocks gA and gB. -/
structure Two (B : Nat) (wS : World) (gA eA kA cA : Nat) (LA : List Value) (gB eB kB cB : Nat) (LB : List Value) (wr : World) : Prop where
  below : Below B wS wr
  ownA : wr.ownsRow B eA 1 (.slice (some ⟨gA, 0, none⟩) kA cA) kA LA
  ownB : wr.ownsRow B eB 1 (.slice (some ⟨gB, 0, none⟩) kB cB) kB LB
  ne : gA ≠ gB
  hB : B ≤ wr.heap.size

structure One (B : Nat) (wS : World) (gA eA kA cA : Nat) (LA : List Value) (wr : World) : Prop where
  below : Below B wS wr
  ownA : wr.ownsRow B eA 1 (.slice (some ⟨gA, 0, none⟩) kA cA) kA LA
  hB : B ≤ wr.heap.size

theorem One.step {B : Nat} {wS : World} {gA eA kA cA : Nat} {LA : List Value} {wr w3 : World} {o : Obj} {x : Value} (h : One B wS gA eA kA cA LA wr) (h3 : w3.ownsRow B eA 1 (.slice (some ⟨gA, 0, none⟩) (kA + 1) cA) (kA + 1) (LA ++ [x])) (hg : (wr.alloc o).grownBy w3 (some gA)) :
    One B wS gA eA (kA + 1) cA (LA ++ [x]) w3 := by
  have hgA := (h.ownA.lt gA rfl).1
  have hs := h.hB
  have hs3 := hg.size
  simp at hs3
  exact ⟨(h.below.alloc hs _).grown hg (by simp; omega) (fun k hk => by cases hk; exact hgA), h3, by omega⟩

theorem Two.stepA {B : Nat} {wS : World} {gA eA kA cA : Nat} {LA : List Value} {gB eB kB cB : Nat} {LB : List Value} {wr w3 : World} {o : Obj} {x : Value} (h : Two B wS gA eA kA cA LA gB eB kB cB LB wr) (h3 : w3.ownsRow B eA 1 (.slice (some ⟨gA, 0, none⟩) (kA + 1) cA) (kA + 1) (LA ++ [x])) (hg : (wr.alloc o).grownBy w3 (some gA)) :
    Two B wS gA eA (kA + 1) cA (LA ++ [x]) gB eB kB cB LB w3 := by
  have hgA := (h.ownA.lt gA rfl).1
  have hs := h.hB
  have hs3 := hg.size
  simp at hs3
  have hne := h.ne
  exact ⟨(h.below.alloc hs _).grown hg (by simp; omega) (fun k hk => by cases hk; exact hgA), h3, (h.ownB.alloc _).kept hg (.inr (fun e => by simp [Value.ownBlock] at e; omega)), h.ne, by omega⟩

theorem Two.stepB {B : Nat} {wS : World} {gA eA kA cA : Nat} {LA : List Value} {gB eB kB cB : Nat} {LB : List Value} {wr w3 : World} {o : Obj} {x : Value} (h : Two B wS gA eA kA cA LA gB eB kB cB LB wr) (h3 : w3.ownsRow B eB 1 (.slice (some ⟨gB, 0, none⟩) (kB + 1) cB) (kB + 1) (LB ++ [x])) (hg : (wr.alloc o).grownBy w3 (some gB)) :
    Two B wS gA eA kA cA LA gB eB (kB + 1) cB (LB ++ [x]) w3 := by
  have hgB := (h.ownB.lt gB rfl).1
  have hs := h.hB
  have hs3 := hg.size
  simp at hs3
  have hne := h.ne
  exact ⟨(h.below.alloc hs _).grown hg (by simp; omega) (fun k hk => by cases hk; exact hgB), (h.ownA.alloc _).kept hg (.inr (fun e => by simp [Value.ownBlock] at e; omega)), h3, h.ne, by omega⟩

/-- A second row is made. -/
theorem One.two {B : Nat} {wS : World} {gA eA kA cA : Nat} {LA : List Value} {wr w1 : World} {eB cB : Nat} (h : One B wS gA eA kA cA LA wr) (h1 : w1.ownsRow B eB 1 (.slice (some ⟨wr.heap.size, 0, none⟩) 0 cB) 0 []) (hg : wr.grownBy w1 none) :
    Two B wS gA eA kA cA LA wr.heap.size eB 0 cB [] w1 := by
  have hgA := (h.ownA.lt gA rfl).2
  exact ⟨h.below.grown hg h.hB (fun k hk => by cases hk), h.ownA.kept hg (.inr (by simp [Value.ownBlock])), h1, by omega, Nat.le_trans h.hB hg.size⟩

/-! ### The parser in memory: refs and vias in its cells 32 and 33, keepVias in 34 -/
structure Par (B : Nat) (w : World) (pb : Nat) (keep : Bool) (rv vv : Value) (rs vs : List Int) (wr : World) : Prop where
  below : Below B w wr
  box : ∃ cs, wr.heap[pb]? = some (.cells cs 44 (0, 0)) ∧ cs[32]? = some rv ∧ cs[33]? = some vv ∧ cs[34]? = some (.bool keep)
  ownR : wr.ownsRow B 24 1 rv rs.length (u64s rs)
  ownV : wr.ownsRow B 27 1 vv vs.length (u32s vs)
  hpb : B ≤ pb
  hB : B ≤ wr.heap.size

theorem Two.par {B : Nat} {w : World} {gA cA n m : Nat} {rs vs : List Int} {gB cB : Nat} {wr : World} {keep : Bool} (h : Two B w gA 24 n cA (u64s rs) gB 27 m cB (u32s vs) wr) (hn : rs.length = n) (hm : vs.length = m) (cs : Array Value)
    (h32 : cs[32]? = some (.slice (some ⟨gA, 0, none⟩) n cA)) (h33 : cs[33]? = some (.slice (some ⟨gB, 0, none⟩) m cB)) (h34 : cs[34]? = some (.bool keep)) :
    Par B w wr.heap.size keep (.slice (some ⟨gA, 0, none⟩) n cA) (.slice (some ⟨gB, 0, none⟩) m cB) rs vs (wr.alloc (.cells cs 44)) := by
  subst hn; subst hm
  exact ⟨h.below.alloc h.hB _, ⟨cs, heap_alloc_new wr _, h32, h33, h34⟩, h.ownA.alloc _, h.ownB.alloc _, h.hB, by simp; have := h.hB; omega⟩

theorem Two.keep {B : Nat} {wS : World} {gA eA kA cA : Nat} {LA : List Value} {gB eB kB cB : Nat} {LB : List Value} {wr w' : World} (h : Two B wS gA eA kA cA LA gB eB kB cB LB wr) (hb : Below wr.heap.size wr w') : Two B wS gA eA kA cA LA gB eB kB cB LB w' :=
  ⟨h.below.trans (hb.mono h.hB), own_below h.ownA hb, own_below h.ownB hb, h.ne, Nat.le_trans h.hB hb.size⟩

theorem own_some {w : World} {base : Nat} {e : TypeId} {size : Nat} {a : Option Addr} {n c : Nat} {xs : List Value} (h : w.ownsRow base e size (.slice a n c) n xs) (hn : 0 < n) : ∃ g, a = some ⟨g, 0, none⟩ := by
  rcases h.2 with ⟨h0, rfl⟩ | ⟨g, cap, cur, hv, _⟩
  · omega
  · cases hv; exact ⟨g, rfl⟩

theorem u64s_snoc (l : List Int) (x : Int) : u64s (l ++ [x]) = u64s l ++ [.int .u64 x] := by simp [u64s]
theorem u32s_snoc (l : List Int) (x : Int) : u32s (l ++ [x]) = u32s l ++ [.int .u32 x] := by simp [u32s]
theorem u64s_at (l : List Int) (j : Nat) (h : j < l.length) : (u64s l)[j]? = some (.int .u64 (l.getD j 0)) := by simp [u64s, List.getD, List.getElem?_eq_getElem h]
theorem u32s_at (l : List Int) (j : Nat) (h : j < l.length) : (u32s l)[j]? = some (.int .u32 (l.getD j 0)) := by simp [u32s, List.getD, List.getElem?_eq_getElem h]

theorem Par.cell {B : Nat} {w : World} {pb : Nat} {keep : Bool} {rv vv : Value} {rs vs : List Int} {wr : World} (h : Par B w pb keep rv vv rs vs wr) :
    wr.cell? ⟨pb, 32, none⟩ = some rv ∧ wr.cell? ⟨pb, 33, none⟩ = some vv ∧ wr.cell? ⟨pb, 34, none⟩ = some (.bool keep) ∧ ∀ o, wr.frozen? ⟨pb, o, none⟩ = false := by
  obtain ⟨cs, hb, h1, h2, h3⟩ := h.box
  refine ⟨?_, ?_, ?_, fun o => by simp [World.frozen?, hb]⟩
  · rw [cell_of_row wr pb 32 cs 44 (0, 0) hb]; exact h1
  · rw [cell_of_row wr pb 33 cs 44 (0, 0) hb]; exact h2
  · rw [cell_of_row wr pb 34 cs 44 (0, 0) hb]; exact h3

theorem Par.keep {B : Nat} {w : World} {pb : Nat} {keep : Bool} {rv vv : Value} {rs vs : List Int} {wr w' : World} (h : Par B w pb keep rv vv rs vs wr) (hb : Below wr.heap.size wr w') : Par B w pb keep rv vv rs vs w' := by
  obtain ⟨cs, hbx, h1, h2, h3⟩ := h.box
  exact ⟨h.below.trans (hb.mono h.hB), ⟨cs, (hb.block pb (Array.getElem?_eq_some_iff.1 hbx).1).trans hbx, h1, h2, h3⟩, own_below h.ownR hb, own_below h.ownV hb, h.hpb, Nat.le_trans h.hB hb.size⟩

/-- Behind 'p.refs = append(p.refs, id)': w1 is the world behind the append, before the store. -/
theorem Par.pushR {B : Nat} {w : World} {pb : Nat} {keep : Bool} {rv vv v' : Value} {rs vs : List Int} {wr w1 : World} {o : Obj} {x : Int} (h : Par B w pb keep rv vv rs vs wr) (h1 : w1.ownsRow B 24 1 v' (rs.length + 1) (u64s rs ++ [.int .u64 x])) (hg : (wr.alloc o).grownBy w1 rv.ownBlock) :
    (w1.cell? ⟨pb, 32, none⟩ = some rv ∧ w1.cell? ⟨pb, 33, none⟩ = some vv ∧ w1.cell? ⟨pb, 34, none⟩ = some (.bool keep) ∧ ∀ o, w1.frozen? ⟨pb, o, none⟩ = false) ∧ Par B w pb keep v' vv (rs ++ [x]) vs (w1.setCell ⟨pb, 32, none⟩ v') := by
  obtain ⟨cs, hbx, c1, c2, c3⟩ := h.box
  have hpb := (Array.getElem?_eq_some_iff.1 hbx).1
  have hB := h.hB
  have hne : some pb ≠ rv.ownBlock := fun e => by
    obtain ⟨cur, hc⟩ := own_block h.ownR e.symm
    rw [hbx] at hc; simp at hc
  have hbx1 : w1.heap[pb]? = some (.cells cs 44 (0, 0)) := by rw [hg.block pb (by simp; omega) hne, Below.heap_alloc wr o pb hpb]; exact hbx
  have hcs : cs.size > 34 := (Array.getElem?_eq_some_iff.1 c3).1
  have hs1 := hg.size
  simp at hs1
  have hV1 : w1.ownsRow B 27 1 vv vs.length (u32s vs) := (h.ownV.alloc o).kept hg (own_ne h.ownV h.ownR (by decide))
  refine ⟨⟨by rw [cell_of_row w1 pb 32 cs 44 (0, 0) hbx1]; exact c1, by rw [cell_of_row w1 pb 33 cs 44 (0, 0) hbx1]; exact c2, by rw [cell_of_row w1 pb 34 cs 44 (0, 0) hbx1]; exact c3, fun o => by simp [World.frozen?, hbx1]⟩, ?_⟩
  refine ⟨((h.below.alloc hB _).grown hg (by simp; omega) (fun k hk => (h.ownR.lt k hk).1)).setCell h.hpb _, ⟨cs.setIfInBounds 32 v', ?_, ?_, ?_, ?_⟩, ?_, own_set hV1 hbx1 (by decide) _, h.hpb, by simp; omega⟩
  · exact heap_setCell_same w1 pb 32 cs 44 v' hbx1
  · simp [Array.getElem?_setIfInBounds]; omega
  · simp [c2]
  · simp [c3]
  · have := own_set (o := 32) h1 hbx1 (by decide) v'
    simpa [u64s] using this

theorem Par.pushV {B : Nat} {w : World} {pb : Nat} {keep : Bool} {rv vv v' : Value} {rs vs : List Int} {wr w1 : World} {o : Obj} {x : Int} (h : Par B w pb keep rv vv rs vs wr) (h1 : w1.ownsRow B 27 1 v' (vs.length + 1) (u32s vs ++ [.int .u32 x])) (hg : (wr.alloc o).grownBy w1 vv.ownBlock) :
    (w1.cell? ⟨pb, 33, none⟩ = some vv ∧ ∀ o, w1.frozen? ⟨pb, o, none⟩ = false) ∧ Par B w pb keep rv v' rs (vs ++ [x]) (w1.setCell ⟨pb, 33, none⟩ v') := by
  obtain ⟨cs, hbx, c1, c2, c3⟩ := h.box
  have hpb := (Array.getElem?_eq_some_iff.1 hbx).1
  have hB := h.hB
  have hne : some pb ≠ vv.ownBlock := fun e => by
    obtain ⟨cur, hc⟩ := own_block h.ownV e.symm
    rw [hbx] at hc; simp at hc
  have hbx1 : w1.heap[pb]? = some (.cells cs 44 (0, 0)) := by rw [hg.block pb (by simp; omega) hne, Below.heap_alloc wr o pb hpb]; exact hbx
  have hcs : cs.size > 34 := (Array.getElem?_eq_some_iff.1 c3).1
  have hs1 := hg.size
  simp at hs1
  have hR1 : w1.ownsRow B 24 1 rv rs.length (u64s rs) := (h.ownR.alloc o).kept hg (own_ne h.ownR h.ownV (by decide))
  refine ⟨⟨by rw [cell_of_row w1 pb 33 cs 44 (0, 0) hbx1]; exact c2, fun o => by simp [World.frozen?, hbx1]⟩, ?_⟩
  refine ⟨((h.below.alloc hB _).grown hg (by simp; omega) (fun k hk => (h.ownV.lt k hk).1)).setCell h.hpb _, ⟨cs.setIfInBounds 33 v', ?_, ?_, ?_, ?_⟩, own_set hR1 hbx1 (by decide) _, ?_, h.hpb, by simp; omega⟩
  · exact heap_setCell_same w1 pb 33 cs 44 v' hbx1
  · simp [c1]
  · simp [Array.getElem?_setIfInBounds]; omega
  · simp [c3]
  · have := own_set (o := 33) h1 hbx1 (by decide) v'
    simpa [u32s] using this

end Go.Proofs.Ybulkazwg
