import Derived.Test.YbulkazoeEnv
import Derived.Deep.AppendLies
namespace Go.Proofs.Ybulkazoe
open Go.RowKit
set_option linter.unusedVariables false

theorem below_of_grown {B : Nat} {w wr w' : World} {row : Option Nat} (h : Below B w wr) (hg : wr.grownBy w' row) (hr : ∀ b, row = some b → B ≤ b) (hB : B ≤ wr.heap.size) : Below B w w' :=
  ⟨hg.os.trans h.os, hg.tape.trans h.tape, hg.output.trans h.output, Nat.le_trans h.size hg.size, fun k hk => (hg.block k (Nat.lt_of_lt_of_le hk hB) (fun e => by have := hr k e.symm; omega)).trans (h.block k hk)⟩

theorem own_ne_row {w : World} {base : Nat} {e t : TypeId} {v : Value} {n : Nat} {xs : List Value} {b N : Nat} {f : Nat → Value} (h : w.ownsRow base e 1 v n xs) (hr : w.rowIs b t N f) (ht : e ≠ t) : v.ownBlock ≠ some b := by
  intro e0
  rcases h.2 with ⟨rfl, _⟩ | ⟨g, cap, cur, rfl, _, hg, _⟩
  · cases e0
  · cases e0
    obtain ⟨c, hc, _⟩ := hr
    rw [hg] at hc
    simp at hc
    exact ht hc.2

theorem own_base {w : World} {base base' : Nat} {e : TypeId} {size : Nat} {v : Value} {n : Nat} {xs : List Value} (h : w.ownsRow base e size v n xs) (hb : base' ≤ base) : w.ownsRow base' e size v n xs :=
  ⟨h.1, h.2.imp id fun ⟨g, cap, cur, h1, h2, h3⟩ => ⟨g, cap, cur, h1, Nat.le_trans hb h2, h3⟩⟩

def nats (l : List Nat) : List Value := l.map fun x : Nat => Value.int .i64 (x : Int)

/-- The three chains, up to node k. -/
structure Chs (w : World) (c : Nat → Nat) (k : Nat) (V : Nat → Value) (wr : World) : Prop where
  bel : Below w.heap.size w wr
  row : wr.rowIs (w.heap.size + 1) 32 3 V
  own : ∀ j, j < 3 → wr.ownsRow w.heap.size 3 1 (V j) (chn c j k).length (nats (chn c j k))
  apart : ∀ i j, i < 3 → j < 3 → i ≠ j → (V i).ownBlock = none ∨ (V i).ownBlock ≠ (V j).ownBlock

theorem Chs.grown {w wr w' : World} {c : Nat → Nat} {k : Nat} {V : Nat → Value} {row : Option Nat} (h : Chs w c k V wr) (hg : wr.grownBy w' row) (h1 : some (w.heap.size + 1) ≠ row) (h2 : ∀ j, j < 3 → (V j).ownBlock = none ∨ (V j).ownBlock ≠ row) (h3 : ∀ b, row = some b → w.heap.size ≤ b) : Chs w c k V w' :=
  ⟨below_of_grown h.bel hg h3 h.bel.size, h.row.of_block (hg.block _ h.row.lt h1), fun j hj => (h.own j hj).kept hg (h2 j hj), h.apart⟩

theorem Chs.start (w : World) (c : Nat → Nat) (o : Obj) : Chs w c 0 (fun _ => .slice none 0 0) ((w.alloc o).alloc (.cells (madeCells #[.slice none 0 0] 3) 32)) := by
  refine ⟨((Below.refl _ w).alloc (Nat.le_refl _) o).alloc (by simp) _, ?_, fun j hj => ?_, fun i j _ _ _ => .inl rfl⟩
  · have := World.rowIs_made (w.alloc o) (.slice none 0 0) 3 32
    simpa using this
  · exact World.ownsRow_nil _ _ _ _

theorem Chs.step {w wr w1 : World} {c : Nat → Nat} {k : Nat} {V : Nat → Value} {v' : Value} {o : Obj} (h : Chs w c k V wr) (hc : c k < 3)
    (hown : w1.ownsRow w.heap.size 3 1 v' ((chn c (c k) k).length + 1) (nats (chn c (c k) k) ++ [.int .i64 (k : Int)])) (hg : (wr.alloc o).grownBy w1 (V (c k)).ownBlock) (hat : v'.ownBlock = (V (c k)).ownBlock ∨ v'.ownBlock = some (wr.alloc o).heap.size) :
    (w1.cell? ⟨w.heap.size + 1, c k, none⟩ = some (V (c k)) ∧ w1.frozen? ⟨w.heap.size + 1, c k, none⟩ = false) ∧
    Chs w c (k + 1) (fun i => if i = c k then v' else V i) (w1.setCell ⟨w.heap.size + 1, c k, none⟩ v') := by
  have ha : Chs w c k V (wr.alloc o) := h.grown (World.grownBy_alloc wr o none) (by simp) (fun j _ => by cases hh : (V j).ownBlock <;> simp) (fun b e => by cases e)
  have hrow1 : w1.rowIs (w.heap.size + 1) 32 3 V := ha.row.of_block (hg.block _ ha.row.lt (fun e => own_ne_row (ha.own (c k) hc) ha.row (by decide) e.symm))
  have hbel1 : Below w.heap.size w w1 := below_of_grown ha.bel hg (fun b e => ((ha.own (c k) hc).lt b e).1) ha.bel.size
  have hg2 := grownBy_setCell w1 (w.heap.size + 1) (c k) v'
  refine ⟨⟨hrow1.cell hc, hrow1.frozen _⟩, below_of_grown hbel1 hg2 (fun b e => by cases e; omega) hbel1.size, hrow1.set (c k) v', fun j hj => ?_, fun i j hi hj hij => ?_⟩
  · by_cases e : j = c k
    · subst e
      simp only [if_true]
      rw [chn_yes c (c k) k rfl]
      have := hown.kept hg2 (.inr (own_ne_row hown hrow1 (by decide)))
      simpa [nats] using this
    · simp only [e, if_false]
      rw [chn_no c j k (fun e' => e e'.symm)]
      have h1 := (ha.own j hj).kept hg (ha.apart j (c k) hj hc e)
      exact h1.kept hg2 (.inr (own_ne_row h1 hrow1 (by decide)))
  · have hlt : ∀ i, i < 3 → ∀ b, (V i).ownBlock = some b → b < (wr.alloc o).heap.size := fun i hi b e => ((ha.own i hi).lt b e).2
    by_cases e1 : i = c k
    · subst e1
      simp only [if_true, show j ≠ c k from fun e => hij e.symm, if_false]
      rcases hat with h1 | h1
      · rw [h1]; exact ha.apart _ _ hi hj hij
      · right; rw [h1]; intro e; have := hlt j hj _ e.symm; omega
    · simp only [e1, if_false]
      by_cases e2 : j = c k
      · subst e2
        simp only [if_true]
        rcases hat with h1 | h1
        · rw [h1]; exact ha.apart _ _ hi hj hij
        · cases hh : (V i).ownBlock with
          | none => exact .inl rfl
          | some b => right; rw [h1]; intro e; have := hlt i hi b hh; cases e; omega
      · simp only [e2, if_false]; exact ha.apart _ _ hi hj hij

/-- The arcs, up to node k. -/
structure Arx (w : World) (c : Nat → Nat) (n : Nat) (V : Nat → Value) (D : Nat) (A : Nat → List Int) (k : Nat) (R : Nat → Value) (wr : World) : Prop where
  chs : Chs w c n V wr
  row : wr.rowIs D 32 n R
  ge : w.heap.size + 1 < D
  past : ∀ u, u < k → ∃ a cc, R u = .slice a (A u).length cc ∧ wr.ownsRow w.heap.size 3 1 (.slice a (A u).length cc) (A u).length (i64s (A u))
  todo : ∀ u, k ≤ u → R u = .slice none 0 0

theorem Arx.start {w wr : World} {c : Nat → Nat} {n : Nat} {V : Nat → Value} {A : Nat → List Int} (h : Chs w c n V wr) : Arx w c n V wr.heap.size A 0 (fun _ => .slice none 0 0) (wr.alloc (.cells (madeCells #[.slice none 0 0] n) 32)) :=
  ⟨h.grown (World.grownBy_alloc wr _ none) (by simp) (fun j _ => by cases hh : (V j).ownBlock <;> simp) (fun b e => by cases e), World.rowIs_made wr _ n 32, h.row.lt, fun u hu => by omega, fun _ _ => rfl⟩

theorem Arx.step {w wr w1 : World} {c : Nat → Nat} {n : Nat} {V : Nat → Value} {D : Nat} {A : Nat → List Int} {k : Nat} {R : Nat → Value} {a : Option Addr} {cc : Nat} (h : Arx w c n V D A k R wr) (hk : k < n)
    (hown : w1.ownsRow wr.heap.size 3 1 (.slice a (A k).length cc) (A k).length (i64s (A k))) (hb : Below wr.heap.size wr w1) :
    (w1.cell? ⟨D, k, none⟩ = some (.slice none 0 0) ∧ w1.frozen? ⟨D, k, none⟩ = false) ∧
    Arx w c n V D A (k + 1) (fun i => if i = k then .slice a (A k).length cc else R i) (w1.setCell ⟨D, k, none⟩ (.slice a (A k).length cc)) := by
  have hg := grownBy_below hb
  have hc1 : Chs w c n V w1 := h.chs.grown hg (by simp) (fun j _ => by cases hh : (V j).ownBlock <;> simp) (fun b e => by cases e)
  have hr1 : w1.rowIs D 32 n R := h.row.of_block (hg.block _ h.row.lt (by simp))
  have hg2 := grownBy_setCell w1 D k (.slice a (A k).length cc)
  have hge := h.ge
  refine ⟨⟨by rw [hr1.cell hk, h.todo k (Nat.le_refl _)], hr1.frozen _⟩, ?_, hr1.set k _, h.ge, fun u hu => ?_, fun u hu => ?_⟩
  · exact hc1.grown hg2 (by simp; omega) (fun j hj => .inr (own_ne_row (hc1.own j hj) hr1 (by decide))) (fun b e => by cases e; omega)
  · by_cases e : u = k
    · subst e
      refine ⟨a, cc, by simp, ?_⟩
      exact (own_base hown h.chs.bel.size).kept hg2 (.inr (own_ne_row hown hr1 (by decide)))
    · obtain ⟨a', cc', h1, h2⟩ := h.past u (by omega)
      refine ⟨a', cc', by simp only [e, if_false]; exact h1, ?_⟩
      have h3 := h2.kept hg (by cases hh : (Value.slice a' (A u).length cc').ownBlock <;> simp)
      exact h3.kept hg2 (.inr (own_ne_row h3 hr1 (by decide)))
  · simp only [show u ≠ k by omega, if_false]; exact h.todo u (by omega)

theorem Arx.later {w wr w1 : World} {c : Nat → Nat} {n : Nat} {V : Nat → Value} {D : Nat} {A : Nat → List Int} {k : Nat} {R : Nat → Value} (h : Arx w c n V D A k R wr) (hg : wr.grownBy w1 none) : Arx w c n V D A k R w1 :=
  ⟨h.chs.grown hg (by simp) (fun j _ => by cases hh : (V j).ownBlock <;> simp) (fun b e => by cases e), h.row.of_block (hg.block _ h.row.lt (by simp)), h.ge, fun u hu => by
    obtain ⟨a', cc', h1, h2⟩ := h.past u hu
    exact ⟨a', cc', h1, h2.kept hg (by cases hh : (Value.slice a' (A u).length cc').ownBlock <;> simp)⟩, h.todo⟩

/-- What build leaves. -/
def BdAns (w : World) (rt : Option Addr) (n : Nat) (c : Nat → Nat) (A : Nat → List Int) (e : Ending) (w' : World) : Prop :=
  ∃ rfb kb cb ab, e = .returned (.pointer (some ⟨rfb, 0, none⟩)) ∧ Below w.heap.size w w' ∧ rfb < w'.heap.size ∧
    ∀ (S : Nat → List Int) (rd : Addr → Value → Prop), (∀ a v, w'.cell? a = some v → w.heap.size ≤ a.block → rd a v) → SpanOk rd rt n S → Env rd rfb kb cb ab rt n c A S

theorem Arx.fin {w wr : World} {c : Nat → Nat} {n : Nat} {V : Nat → Value} {D : Nat} {A : Nat → List Int} {k : Nat} {R : Nat → Value} (rt : Option Addr) (h : Arx w c n V D A k R wr) (hA : ∀ u, k ≤ u → u < n → A u = []) (ra : Option Addr) (rc : Nat) (X Y : Array Value)
    (hX : X[0]? = some (.slice (some ⟨D, 0, none⟩) n n)) (hY0 : Y[0]? = some (.slice (some ⟨w.heap.size + 1, 0, none⟩) 3 3)) (hY3 : Y[3]? = some (.slice ra n rc)) (hY6 : Y[6]? = some (.pointer rt)) (hY7 : Y[7]? = some (.pointer (some ⟨wr.heap.size, 0, none⟩))) :
    BdAns w rt n c A (.returned (.pointer (some ⟨wr.heap.size + 1, 0, none⟩))) ((wr.alloc (.cells X 70)).alloc (.cells Y 72)) := by
  have hf := (h.later (World.grownBy_alloc wr (.cells X 70) none)).later (World.grownBy_alloc _ (.cells Y 72) none)
  have hs := h.chs.bel.size
  have hs1 : (wr.alloc (.cells X 70)).heap.size = wr.heap.size + 1 := by simp
  have hYb : ((wr.alloc (.cells X 70)).alloc (.cells Y 72)).heap[wr.heap.size + 1]? = some (.cells Y 72) := by
    have := heap_alloc_new (wr.alloc (.cells X 70)) (.cells Y 72)
    rw [hs1] at this
    exact this
  have hXb : ((wr.alloc (.cells X 70)).alloc (.cells Y 72)).heap[wr.heap.size]? = some (.cells X 70) := by
    have h1 := (World.grownBy_alloc (wr.alloc (.cells X 70)) (.cells Y 72) none).block wr.heap.size (by rw [hs1]; omega) (by simp)
    rw [h1]
    exact heap_alloc_new wr (.cells X 70)
  have hYc : ∀ j v, Y[j]? = some v → ((wr.alloc (.cells X 70)).alloc (.cells Y 72)).cell? ⟨wr.heap.size + 1, j, none⟩ = some v := fun j v hj => by
    rw [cell_of_row _ _ _ Y 72 (0, 0) hYb]; exact hj
  have hXc : ∀ j v, X[j]? = some v → ((wr.alloc (.cells X 70)).alloc (.cells Y 72)).cell? ⟨wr.heap.size, j, none⟩ = some v := fun j v hj => by
    rw [cell_of_row _ _ _ X 70 (0, 0) hXb]; exact hj
  refine ⟨wr.heap.size + 1, wr.heap.size, w.heap.size + 1, D, rfl, hf.chs.bel, by simp, fun S rd hrd hsp => ?_⟩
  have hge := h.ge
  refine ⟨hrd _ _ (hYc 0 _ hY0) (by simp; omega), ⟨ra, rc, hrd _ _ (hYc 3 _ hY3) (by simp; omega)⟩, hrd _ _ (hYc 6 _ hY6) (by simp; omega), hrd _ _ (hYc 7 _ hY7) (by simp; omega), hrd _ _ (hXc 0 _ hX) hs, fun j hj => ?_, fun u hu => ?_, hsp⟩
  · have ho := hf.chs.own j hj
    obtain ⟨a, cc, hv⟩ := own_shape ho
    refine ⟨a, cc, hrd _ _ (by rw [hf.chs.row.cell hj, hv]) (by simp), fun hp => ?_⟩
    obtain ⟨g, cap, hv2, hg, _⟩ := ho.form hp
    rw [hv] at hv2
    cases hv2
    refine ⟨g, rfl, fun i hi => hrd _ _ ?_ hg⟩
    rw [hv] at ho
    rw [ho.cellAt i (by omega)]
    simp [nats, List.getD, List.getElem?_eq_getElem hi]
  · by_cases hk : u < k
    · obtain ⟨a, cc, h1, h2⟩ := hf.past u hk
      refine ⟨a, cc, hrd _ _ (by rw [hf.row.cell hu, h1]) (by simp; omega), fun ha => ?_, fun x hx i v hi => ?_⟩
      · subst ha
        rcases h2.2 with ⟨_, h3⟩ | ⟨g, cap, cur, h3, _⟩
        · exact List.eq_nil_of_length_eq_zero h3
        · cases h3
      · rcases h2.2 with ⟨h3, _⟩ | ⟨g, cap, cur, h3, hg, _⟩
        · rw [hx] at h3; cases h3
        · rw [hx] at h3
          cases h3
          have := h2.cells (g := g) (by rw [hx]; rfl) i v hi
          exact hrd _ _ this (by rw [Addr.add_lit]; exact hg)
    · refine ⟨none, 0, hrd _ _ (by rw [hf.row.cell hu, hf.todo u (by omega), hA u (by omega) hu]; rfl) (by simp; omega), fun _ => hA u (by omega) hu, fun x hx => by cases hx⟩

end Go.Proofs.Ybulkazoe
