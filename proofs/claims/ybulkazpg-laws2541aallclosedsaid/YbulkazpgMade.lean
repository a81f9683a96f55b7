import Derived.Test.YbulkazpgClose
import Derived.Deep.OwnRows
namespace Go.Proofs.Ybulkazpg
open Go.RowKit
set_option linter.unusedVariables false

theorem Yba.info25 : (Yba.prog.info? 25).map (fun i => (i.zero, i.size, i.bytes)) = some (some (.pointer none), 1, 8) := by kernel_rfl

/-- What the first loop has made behind k rounds. -/
structure Made (B n k : Nat) (C : Nat → Bool) (u : Nat → Int) (w wr : World) : Prop where
  below : Below B w wr
  size : wr.heap.size = B + 1 + k
  row : ∀ j, j < k → wr.cell? ⟨B, j, none⟩ = some (.pointer (some ⟨B + 1 + j, 0, none⟩))
  rest : ∀ j, k ≤ j → j < n → wr.cell? ⟨B, j, none⟩ = some (.pointer none)
  fzr : ∀ j, wr.frozen? ⟨B, j, none⟩ = false
  peer : ∀ j, j < k → wr.cell? ⟨B + 1 + j, 1, none⟩ = some (.pointer none)
  closed : ∀ j, j < k → wr.cell? ⟨B + 1 + j, 3, none⟩ = some (.bool (C j))
  unack : ∀ j, j < k → wr.cell? ⟨B + 1 + j, 5, none⟩ = some (.int .i64 (u j))
  age : ∀ j, j < k → wr.cell? ⟨B + 1 + j, 16, none⟩ = some (.int .u64 (j : Int))
  fz : ∀ j o, j < k → wr.frozen? ⟨B + 1 + j, o, none⟩ = false

theorem made_start (w : World) (n : Nat) (C : Nat → Bool) (u : Nat → Int) : Made w.heap.size n 0 C u w (w.alloc (.cells (madeCells #[.pointer none] n) 25)) := by
  have h := World.rowIs_made w (.pointer none) n 25
  refine ⟨(Below.refl _ _).alloc (Nat.le_refl _) _, by simp, fun j hj => by omega, fun j _ hj => h.cell hj, fun j => h.frozen j, fun j hj => by omega, fun j hj => by omega, fun j hj => by omega, fun j hj => by omega, fun j o hj => by omega⟩

theorem Made.step {B n k : Nat} {C : Nat → Bool} {u : Nat → Int} {w wr : World} (h : Made B n k C u w wr) (hkn : k < n) (cs : Array Value) (h1 : cs[1]? = some (.pointer none)) (h3 : cs[3]? = some (.bool (C k)))
    (h5 : cs[5]? = some (.int .i64 (u k))) (h16 : cs[16]? = some (.int .u64 (k : Int))) :
    Made B n (k + 1) C u w ((wr.setCell ⟨B, k, none⟩ (.pointer (some ⟨wr.heap.size, 0, none⟩))).alloc (.cells cs 38)) := by
  have hs := h.size
  have hsz : (wr.setCell ⟨B, k, none⟩ (.pointer (some ⟨wr.heap.size, 0, none⟩))).heap.size = B + 1 + k := by simp [hs]
  have old : ∀ j o, j < k → ((wr.setCell ⟨B, k, none⟩ (.pointer (some ⟨wr.heap.size, 0, none⟩))).alloc (.cells cs 38)).cell? ⟨B + 1 + j, o, none⟩ = wr.cell? ⟨B + 1 + j, o, none⟩ := by
    intro j o hj
    rw [World.cell?_alloc_lt _ _ _ (by rw [hsz]; show B + 1 + j < _; omega), World.cell?_setCell_other _ _ _ _ (fun e => by injection e; omega)]
  have new : ∀ o, ((wr.setCell ⟨B, k, none⟩ (.pointer (some ⟨wr.heap.size, 0, none⟩))).alloc (.cells cs 38)).cell? ⟨B + 1 + k, o, none⟩ = cs[o]? := fun o => World.cell?_alloc_at _ _ _ _ hsz.symm
  refine ⟨(h.below.setCell (Nat.le_refl _) _).alloc (by rw [hsz]; omega) _, by simp [hs]; omega, fun j hj => ?_, fun j hj hjn => ?_, fun j => ?_, fun j hj => ?_, fun j hj => ?_, fun j hj => ?_, fun j hj => ?_, fun j o hj => ?_⟩
  · rw [World.cell?_alloc_lt _ _ _ (by rw [hsz]; show B < _; omega)]
    rcases Nat.lt_or_ge j k with hlt | hge
    · rw [World.cell?_setCell_other _ _ _ _ (fun e => by injection e; omega)]
      exact h.row j hlt
    · have : j = k := by omega
      subst this
      rw [World.cell?_setCell_same _ _ _ (h.rest j (Nat.le_refl _) hkn), hs]
  · rw [World.cell?_alloc_lt _ _ _ (by rw [hsz]; show B < _; omega), World.cell?_setCell_other _ _ _ _ (fun e => by injection e; omega)]
    exact h.rest j (by omega) hjn
  · rw [World.frozen?_alloc_past _ _ _ (by rw [hsz]; omega), World.frozen?_setCell]
    exact h.fzr j
  · rcases Nat.lt_or_ge j k with hlt | hge
    · rw [old j _ hlt]; exact h.peer j hlt
    · have : j = k := by omega
      subst this
      rw [new]; exact h1
  · rcases Nat.lt_or_ge j k with hlt | hge
    · rw [old j _ hlt]; exact h.closed j hlt
    · have : j = k := by omega
      subst this
      rw [new]; exact h3
  · rcases Nat.lt_or_ge j k with hlt | hge
    · rw [old j _ hlt]; exact h.unack j hlt
    · have : j = k := by omega
      subst this
      rw [new]; exact h5
  · rcases Nat.lt_or_ge j k with hlt | hge
    · rw [old j _ hlt]; exact h.age j hlt
    · have : j = k := by omega
      subst this
      rw [new]; exact h16
  · rcases Nat.lt_or_ge j k with hlt | hge
    · rw [World.frozen?_alloc_past _ _ _ (by rw [hsz]; omega), World.frozen?_setCell]
      exact h.fz j o hlt
    · have : j = k := by omega
      subst this
      exact World.frozen?_alloc_at _ _ _ _ hsz.symm

/-- Behind the first loop and the two boxes: what the rest of the law reads; the first k links name their peer. -/
structure Laid (B n ob pb k : Nat) (C : Nat → Bool) (u : Nat → Int) (other : Bool) (w wr : World) : Prop where
  below : Below B w wr
  hob : ob = B + 1 + n
  hpb : pb = B + 1 + n + 1
  row : ∀ j, j < n → wr.cell? ⟨B, j, none⟩ = some (.pointer (some ⟨B + 1 + j, 0, none⟩))
  peer : ∀ j, j < n → wr.cell? ⟨B + 1 + j, 1, none⟩ = some (.pointer (if j < k then some ⟨pb, 0, none⟩ else none))
  closed : ∀ j, j < n → wr.cell? ⟨B + 1 + j, 3, none⟩ = some (.bool (C j))
  unack : ∀ j, j < n → wr.cell? ⟨B + 1 + j, 5, none⟩ = some (.int .i64 (u j))
  age : ∀ j, j < n → wr.cell? ⟨B + 1 + j, 16, none⟩ = some (.int .u64 (j : Int))
  fz : ∀ j o, j < n → wr.frozen? ⟨B + 1 + j, o, none⟩ = false
  out : wr.cell? ⟨ob, 3, none⟩ = some (.bool other)
  pid : wr.cell? ⟨pb, 0, none⟩ = some (.string ⟨#[112]⟩)
  pslot : wr.cell? ⟨pb, 9, none⟩ = some (.int .i64 (n : Int))
  plinks : wr.cell? ⟨pb, 10, none⟩ = some (.slice (some ⟨B, 0, none⟩) n n)

theorem Made.laid {B n : Nat} {C : Nat → Bool} {u : Nat → Int} {other : Bool} {w wr : World} (h : Made B n n C u w wr) (cs ps : Array Value) (hc : cs[3]? = some (.bool other)) (hp0 : ps[0]? = some (.string ⟨#[112]⟩))
    (hp9 : ps[9]? = some (.int .i64 (n : Int))) (hp10 : ps[10]? = some (.slice (some ⟨B, 0, none⟩) n n)) : Laid B n wr.heap.size (wr.heap.size + 1) 0 C u other w ((wr.alloc (.cells cs 38)).alloc (.cells ps 43)) := by
  have hs := h.size
  have old : ∀ b o, b < B + 1 + n → ((wr.alloc (.cells cs 38)).alloc (.cells ps 43)).cell? ⟨b, o, none⟩ = wr.cell? ⟨b, o, none⟩ := by
    intro b o hb
    rw [World.cell?_alloc_lt _ _ _ (by simp; omega), World.cell?_alloc_lt _ _ _ (by simp; omega)]
  refine ⟨(h.below.alloc (by omega) _).alloc (by simp; omega) _, hs, by omega, fun j hj => (old _ _ (by omega)).trans (h.row j hj), fun j hj => (old _ _ (by omega)).trans (h.peer j hj), fun j hj => (old _ _ (by omega)).trans (h.closed j hj),
    fun j hj => (old _ _ (by omega)).trans (h.unack j hj), fun j hj => (old _ _ (by omega)).trans (h.age j hj), fun j o hj => ?_, ?_, ?_, ?_, ?_⟩
  · rw [World.frozen?_alloc_past _ _ _ (by simp; omega), World.frozen?_alloc_past _ _ _ (by omega)]
    exact h.fz j o hj
  · rw [World.cell?_alloc_lt _ _ _ (by simp), World.cell?_alloc_at _ _ _ _ rfl]; exact hc
  · rw [World.cell?_alloc_at _ _ _ _ (by simp)]; exact hp0
  · rw [World.cell?_alloc_at _ _ _ _ (by simp)]; exact hp9
  · rw [World.cell?_alloc_at _ _ _ _ (by simp)]; exact hp10

theorem Laid.step {B n ob pb k : Nat} {C : Nat → Bool} {u : Nat → Int} {other : Bool} {w wr : World} (h : Laid B n ob pb k C u other w wr) (hk : k < n) :
    Laid B n ob pb (k + 1) C u other w (wr.setCell ⟨B + 1 + k, 1, none⟩ (.pointer (some ⟨pb, 0, none⟩))) := by
  have h1 := h.hob
  have h2 := h.hpb
  have oth : ∀ b o, (b ≠ B + 1 + k ∨ o ≠ 1) → (wr.setCell ⟨B + 1 + k, 1, none⟩ (.pointer (some ⟨pb, 0, none⟩))).cell? ⟨b, o, none⟩ = wr.cell? ⟨b, o, none⟩ := by
    intro b o hbo
    exact World.cell?_setCell_other _ _ _ _ (fun e => by injection e; omega)
  refine ⟨h.below.setCell (by show B ≤ B + 1 + k; omega) _, h1, h2, fun j hj => (oth _ _ (by omega)).trans (h.row j hj), fun j hj => ?_, fun j hj => (oth _ _ (by omega)).trans (h.closed j hj), fun j hj => (oth _ _ (by omega)).trans (h.unack j hj),
    fun j hj => (oth _ _ (by omega)).trans (h.age j hj), fun j o hj => by rw [World.frozen?_setCell]; exact h.fz j o hj, (oth _ _ (by omega)).trans h.out, (oth _ _ (by omega)).trans h.pid, (oth _ _ (by omega)).trans h.pslot, (oth _ _ (by omega)).trans h.plinks⟩
  rcases Nat.lt_trichotomy j k with hlt | heq | hgt
  · rw [oth _ _ (by omega), h.peer j hj, if_pos hlt, if_pos (by omega)]
  · subst heq
    rw [World.cell?_setCell_same _ _ _ (h.peer j hj), if_pos (by omega)]
  · rw [oth _ _ (by omega), h.peer j hj, if_neg (by omega), if_neg (by omega)]

theorem Laid.close {B n ob pb k : Nat} {C : Nat → Bool} {u : Nat → Int} {other : Bool} {w wr w' : World} (h : Laid B n ob pb k C u other w wr) (hs : Swept 3 (.bool true) B n wr w') :
    Laid B n ob pb k (fun _ => true) u other w w' := by
  have h1 := h.hob
  have h2 := h.hpb
  have oth : ∀ b o, (b ≤ B ∨ B + n < b ∨ o ≠ 3) → w'.cell? ⟨b, o, none⟩ = wr.cell? ⟨b, o, none⟩ := fun b o hbo => hs.other _ (fun e => by have := e.1; have := e.2.1; have := e.2.2; simp at *; omega)
  exact ⟨h.below.trans (hs.below.mono (by omega)), h1, h2, fun j hj => (oth _ _ (by omega)).trans (h.row j hj), fun j hj => (oth _ _ (by omega)).trans (h.peer j hj), fun j hj => hs.done j hj, fun j hj => (oth _ _ (by omega)).trans (h.unack j hj),
    fun j hj => (oth _ _ (by omega)).trans (h.age j hj), fun j o hj => (hs.frozen _).trans (h.fz j o hj), (oth _ _ (by omega)).trans h.out, (oth _ _ (by omega)).trans h.pid, (oth _ _ (by omega)).trans h.pslot, (oth _ _ (by omega)).trans h.plinks⟩

end Go.Proofs.Ybulkazpg
