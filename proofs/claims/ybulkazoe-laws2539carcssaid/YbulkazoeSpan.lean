import Derived.Test.YbulkazoeTwo
import Derived.Test.YbulkazoeBuildW
import Derived.Test.YbulkazoeCheckS
namespace Go.Proofs.Ybulkazoe
open Go.RowKit
set_option linter.unusedVariables false

/-- A row of ints, laid as far as i. -/
def pre (v : Nat → Int) (i : Nat) : Nat → Value := fun j => if j < i then .int .i64 (v j) else .int .i64 0

theorem pre_at (v : Nat → Int) (i : Nat) : pre v i i = .int .i64 0 := by simp [pre]

theorem rowIs_pre {w : World} {b n : Nat} {v : Nat → Int} {i : Nat} (h : w.rowIs b 3 n (pre v i)) : (w.setCell ⟨b, i, none⟩ (.int .i64 (v i))).rowIs b 3 n (pre v (i + 1)) := by
  refine (h.set i _).congr (fun j _ => ?_)
  by_cases e : j = i
  · subst e; simp [pre]
  · by_cases h1 : j < i
    · simp [pre, e, h1, show j < i + 1 by omega]
    · simp [pre, e, h1, show ¬ j < i + 1 by omega]

structure Sp1 (w : World) (n : Nat) (BY LT : Nat → Int) (i : Nat) (wr : World) : Prop where
  bel : Below w.heap.size w wr
  r1 : wr.rowIs w.heap.size 3 n (pre BY i)
  r2 : wr.rowIs (w.heap.size + 1) 3 n (pre LT i)

theorem Sp1.start (w : World) (n : Nat) (BY LT : Nat → Int) : Sp1 w n BY LT 0 ((w.alloc (.cells (madeCells #[.int .i64 0] n) 3)).alloc (.cells (madeCells #[.int .i64 0] n) 3)) := by
  have h0 : ∀ v, pre v 0 = fun _ => Value.int .i64 0 := fun v => by funext j; simp [pre]
  refine ⟨((Below.refl _ w).alloc (Nat.le_refl _) _).alloc (by simp) _, ?_, ?_⟩
  · rw [h0]
    have h1 := World.rowIs_made w (.int .i64 0) n 3
    exact h1.of_block ((World.grownBy_alloc _ (.cells (madeCells #[.int .i64 0] n) 3) none).block w.heap.size h1.lt (by simp))
  · rw [h0]
    have := World.rowIs_made (w.alloc (.cells (madeCells #[.int .i64 0] n) 3)) (.int .i64 0) n 3
    simpa using this

theorem Sp1.step {w wr : World} {n : Nat} {BY LT : Nat → Int} {i : Nat} (h : Sp1 w n BY LT i wr) (hi : i < n) :
    (wr.cell? ⟨w.heap.size, i, none⟩ = some (.int .i64 0) ∧ wr.frozen? ⟨w.heap.size, i, none⟩ = false) ∧
    ((wr.setCell ⟨w.heap.size, i, none⟩ (.int .i64 (BY i))).cell? ⟨w.heap.size + 1, i, none⟩ = some (.int .i64 0) ∧ (wr.setCell ⟨w.heap.size, i, none⟩ (.int .i64 (BY i))).frozen? ⟨w.heap.size + 1, i, none⟩ = false) ∧
    Sp1 w n BY LT (i + 1) ((wr.setCell ⟨w.heap.size, i, none⟩ (.int .i64 (BY i))).setCell ⟨w.heap.size + 1, i, none⟩ (.int .i64 (LT i))) := by
  have h2 := h.r2.setOther (b := w.heap.size + 1) (a := ⟨w.heap.size, i, none⟩) (by simp) (.int .i64 (BY i))
  refine ⟨⟨by rw [h.r1.cell hi, pre_at], h.r1.frozen i⟩, ⟨by rw [h2.cell hi, pre_at], h2.frozen i⟩, ?_, ?_, rowIs_pre h2⟩
  · exact (h.bel.setCell (Nat.le_refl _) _).setCell (Nat.le_succ _) _
  · exact (rowIs_pre h.r1).setOther (by simp) _

structure Sp2 (w : World) (n : Nat) (BY LT : Nat → Int) (D : Nat) (FR : Nat → Int) (k : Nat) (wr : World) : Prop where
  s1 : Sp1 w n BY LT n wr
  r3 : wr.rowIs D 3 (n + 1) (pre FR k)
  ge : w.heap.size + 1 < D

theorem Sp2.start {w wr : World} {n : Nat} {BY LT : Nat → Int} (FR : Nat → Int) (h : Sp1 w n BY LT n wr) : Sp2 w n BY LT wr.heap.size FR 0 (wr.alloc (.cells (madeCells #[.int .i64 0] (n + 1)) 3)) := by
  have h0 : ∀ v, pre v 0 = fun _ => Value.int .i64 0 := fun v => by funext j; simp [pre]
  have hg := World.grownBy_alloc wr (.cells (madeCells #[.int .i64 0] (n + 1)) 3) none
  refine ⟨⟨h.bel.alloc h.bel.size _, h.r1.of_block (hg.block _ h.r1.lt (by simp)), h.r2.of_block (hg.block _ h.r2.lt (by simp))⟩, ?_, h.r2.lt⟩
  rw [h0]
  exact World.rowIs_made wr (.int .i64 0) (n + 1) 3

theorem Sp2.step {w wr : World} {n : Nat} {BY LT : Nat → Int} {D : Nat} {FR : Nat → Int} {k : Nat} (h : Sp2 w n BY LT D FR k wr) (hk : k < n + 1) :
    (wr.cell? ⟨D, k, none⟩ = some (.int .i64 0) ∧ wr.frozen? ⟨D, k, none⟩ = false) ∧ Sp2 w n BY LT D FR (k + 1) (wr.setCell ⟨D, k, none⟩ (.int .i64 (FR k))) := by
  have hge := h.ge
  refine ⟨⟨by rw [h.r3.cell hk, pre_at], h.r3.frozen k⟩, ⟨h.s1.bel.setCell (show w.heap.size ≤ D by omega) _, h.s1.r1.setOther (show w.heap.size ≠ D by omega) _, h.s1.r2.setOther (show w.heap.size + 1 ≠ D by omega) _⟩, rowIs_pre h.r3, h.ge⟩

theorem Sp2.fin {w wr : World} {n : Nat} {BY : Nat → Int} {LT FR : Nat → Nat} {D : Nat} (h : Sp2 w n BY (fun i => (LT i : Int)) D (fun k => (FR k : Int)) (n + 1) wr) (hLT : ∀ u, u < n → LT u ≤ n) (hFR : ∀ k, k ≤ n → k ≤ FR k ∧ FR k ≤ n) (X : Array Value)
    (h1 : X[1]? = some (.slice (some ⟨w.heap.size, 0, none⟩) n n)) (h3 : X[3]? = some (.slice (some ⟨w.heap.size + 1, 0, none⟩) n n)) (h5 : X[5]? = some (.slice (some ⟨D, 0, none⟩) (n + 1) (n + 1))) :
    Below w.heap.size w (wr.alloc (.cells X 47)) ∧ SpanAt (at' (wr.alloc (.cells X 47))) wr.heap.size w.heap.size (w.heap.size + 1) D n LT FR BY := by
  have hg := World.grownBy_alloc wr (.cells X 47) none
  have hX : ∀ j v, X[j]? = some v → (wr.alloc (.cells X 47)).cell? ⟨wr.heap.size, j, none⟩ = some v := fun j v hj => by
    rw [cell_of_row _ _ _ X 47 (0, 0) (heap_alloc_new wr (.cells X 47))]; exact hj
  have q1 := h.s1.r1.of_block (hg.block _ h.s1.r1.lt (by simp))
  have q2 := h.s1.r2.of_block (hg.block _ h.s1.r2.lt (by simp))
  have q3 := h.r3.of_block (hg.block _ h.r3.lt (by simp))
  refine ⟨h.s1.bel.alloc h.s1.bel.size _, hX 1 _ h1, hX 3 _ h3, hX 5 _ h5, fun u hu => ⟨?_, hLT u hu⟩, fun k hk => ⟨?_, hFR k hk⟩, fun k hk => ?_⟩
  · show (wr.alloc (.cells X 47)).cell? _ = _
    rw [q2.cell hu]; simp [pre, hu]
  · show (wr.alloc (.cells X 47)).cell? _ = _
    rw [q3.cell (by omega)]; simp [pre, show k < n + 1 by omega]
  · show (wr.alloc (.cells X 47)).cell? _ = _
    rw [q1.cell hk]; simp [pre, hk]

end Go.Proofs.Ybulkazoe
