import Derived.Test.YbulkazpgRows
import Derived.WalkKit
import Derived.WalkSpells
import Derived.WalkLawsBesides
namespace Go.Proofs.Ybulkazpg
open Go.RowKit
set_option linter.unusedVariables false

/-- Behind the first k rounds of a loop that writes x into cell o of each link: the first k links have it, all else is as it was. -/
structure Swept (o : Nat) (x : Value) (B k : Nat) (w w' : World) : Prop where
  size : w'.heap.size = w.heap.size
  below : Below (B + 1) w w'
  frozen : ∀ a : Addr, w'.frozen? a = w.frozen? a
  other : ∀ a : Addr, ¬ (a.off = o ∧ B < a.block ∧ a.block ≤ B + k) → w'.cell? a = w.cell? a
  done : ∀ j, j < k → w'.cell? ⟨B + 1 + j, o, none⟩ = some x

theorem Swept.start (o : Nat) (x : Value) (B : Nat) (w : World) : Swept o x B 0 w w :=
  ⟨rfl, Below.refl _ _, fun _ => rfl, fun _ _ => rfl, fun j hj => by omega⟩

theorem Swept.step {o : Nat} {x : Value} {B k : Nat} {w w' : World} (h : Swept o x B k w w') {v : Value} (hc : w'.cell? ⟨B + 1 + k, o, none⟩ = some v) : Swept o x B (k + 1) w (w'.setCell ⟨B + 1 + k, o, none⟩ x) := by
  refine ⟨by simp [h.size], h.below.setCell (by show B + 1 ≤ B + 1 + k; omega) _, fun a => by simp [h.frozen], fun a ha => ?_, fun j hj => ?_⟩
  · rw [World.cell?_setCell_other _ _ _ _ (fun e => ha (by subst e; exact ⟨rfl, by show B < B + 1 + k; omega, by show B + 1 + k ≤ B + (k + 1); omega⟩))]
    exact h.other a (fun e => ha ⟨e.1, e.2.1, by have := e.2.2; omega⟩)
  · rcases Nat.lt_or_ge j k with hlt | hge
    · rw [World.cell?_setCell_other _ _ _ _ (fun e => by injection e; omega)]
      exact h.done j hlt
    · have : j = k := by omega
      subst this
      exact World.cell?_setCell_same _ _ _ hc

set_option maxHeartbeats 400000 in
theorem close_any (B n pb : Nat) (w : World) (hn : n ≤ 1024) (hp : w.cell? ⟨pb, 10, none⟩ = some (.slice (some ⟨B, 0, none⟩) n n))
    (hr : ∀ j, j < n → w.cell? ⟨B, j, none⟩ = some (.pointer (some ⟨B + 1 + j, 0, none⟩))) (C : Nat → Bool) (hc : ∀ j, j < n → w.cell? ⟨B + 1 + j, 3, none⟩ = some (.bool (C j)))
    (hf : ∀ j, j < n → w.frozen? ⟨B + 1 + j, 3, none⟩ = false) :
    Calls Yba.prog 6 #[.pointer (some ⟨pb, 0, none⟩)] w fun e w' => e = .returned (.tuple #[]) ∧ Swept 3 (.bool true) B n w w' := by
  go_enter Yba.func6, Yba.ntmps6
  go_wp2
  go_loopw [9] (fun i wr => ∃ k : Nat, k ≤ n ∧ i = .int .i64 k ∧ Swept 3 (.bool true) B k w wr) (fun i _ => n - (intOf i).toNat)
  case atStart => exact ⟨0, Nat.zero_le _, rfl, Swept.start _ _ B w⟩
  case round =>
    obtain ⟨k, hk, rfl, hcl⟩ := hrel
    by_cases hlt : k < n
    · have q0 : wr.cell? ⟨B, k, none⟩ = some (.pointer (some ⟨B + 1 + k, 0, none⟩)) := (hcl.other _ (fun e => by have := e.2.1; simp at this)).trans (hr k hlt)
      have q1 : wr.cell? ⟨B + 1 + k, 3, none⟩ = some (.bool (C k)) := (hcl.other _ (fun e => by have := e.2.2; simp at this; omega)).trans (hc k hlt)
      have q2 : wr.frozen? ⟨B + 1 + k, 3, none⟩ = false := (hcl.frozen _).trans (hf k hlt)
      have hlt' : (k : Int) < (n : Int) := by omega
      have hst : Hid (Swept 3 (.bool true) B (k + 1) w (wr.setCell ⟨B + 1 + k, 3, none⟩ (.bool true))) := hcl.step q1
      clear hc hf hr hp hcl
      go_wp2
      go_roundw
      case rel => exact ⟨k + 1, by omega, by go_num, hst.out⟩
      case measure => simp [intOf]; omega
    · obtain rfl : k = n := by omega
      clear hc hf hr hp
      go_wp2
      go_end0
      exact ⟨rfl, hcl⟩

end Go.Proofs.Ybulkazpg
