import Derived.Test.YbulkazoeSmall
namespace Go.Proofs.Ybulkazoe
open Go.RowKit
set_option linter.unusedVariables false

def Grw (a : Option Addr) (N : Nat) (w : World) (r : Ending) (w' : World) : Prop :=
  ∃ a' c' f', r = .returned (.slice a' 0 c') ∧ N ≤ c' ∧ Row w' 3 a' 0 c' f' ∧ w.grownBy w' none ∧ ∀ b, blk a' = some b → blk a = some b ∨ w.heap.size ≤ b

theorem grow_run (a : Option Addr) (c k : Nat) (f : Nat → Value) (w : World) (h : Row w 3 a 0 c f) (hk : 0 < k) (hN : c + k ≤ 4000000) (ty : TypeId) :
    ∃ cs : Array Value, (Builtin.append_ #[32, 3] ty #[.slice a c c, .int .i64 (k : Int)]).run Yba.prog w = .ok (.slice (some ⟨w.heap.size, 0, none⟩) (c + k) (grownCap w (c + k) c 3)) (w.drew.alloc (.cells cs 3)) ∧ cs.size = grownCap w (c + k) c 3 := by
  obtain ⟨i3, hi, hz0, hz1, hz2⟩ := info_parts Yba.info3
  have hold : (Builtin.firstCells i3.size c (.slice a c c)).run Yba.prog w.drew = .ok ((List.range c).map f).toArray w.drew := by
    rw [hz1]
    cases a with
    | none =>
      have := h.isNone rfl
      subst this
      exact run_firstCells_none w.drew 1 0 0 0
    | some x =>
      obtain ⟨g, rfl, hr⟩ := h.isSome x rfl
      refine run_firstCells_some w.drew 1 c ⟨g, 0, none⟩ c c ((List.range c).map f) (by simp) (fun j u hj => ?_)
      have hjc : j < c := by
        have := (List.getElem?_eq_some_iff.1 hj).1
        simpa using this
      rw [Addr.add_lit, Nat.zero_add]
      have : w.drew.cell? ⟨g, j, none⟩ = some (f j) := hr.cell hjc
      rw [this]
      simpa [hjc] using hj
  refine ⟨_, Lib.run_append_grow_zeros w 32 3 ty 3 i3 (.int .i64 0) .i64 .i64 Yba.underlying32 Yba.underlying3 hi hz0 a c c ((List.range c).map f) hold k hk (by omega) (by omega) (by omega) (by rw [hz2]; omega) (by rw [hz2]; exact growslice_fits (by omega) (by omega)), ?_⟩
  have hge := grownCap_ge w (c + k) c 3
  simp [size_zeroCells]
  have e1 : (Value.int IntKind.i64 0).cells.size = 1 := rfl
  simp [e1]
  omega

set_option maxHeartbeats 400000 in
set_option maxRecDepth 100000 in
theorem grow_any (a : Option Addr) (c N : Nat) (f : Nat → Value) (w : World) (h : Row w 3 a 0 c f) (hN : N ≤ 4000000) :
    Calls Yba.prog 17 #[.slice a 0 c, .int .i64 (N : Int)] w fun r w' => Grw a N w r w' := by
  have hmax := h.max
  unfold maxLen at hmax
  have HR : Hid (Row w 3 a 0 c f) := h
  clear h
  by_cases hc : N ≤ c
  · go_enter Yba.func17, Yba.ntmps17
    go_wp2
    go_ret
    exact ⟨a, c, f, rfl, hc, HR.out, World.grownBy.refl _ _, fun b hb => .inl hb⟩
  · obtain ⟨k, hk⟩ : ∃ k, N = c + k := ⟨N - c, by omega⟩
    subst hk
    have hrun := fun ty => grow_run a c k f w HR.out (by omega) hN ty
    rw [show ((k : Nat) : Int) = (c : Int) + (k : Int) - (c : Int) by omega] at hrun
    obtain ⟨cs, hr, hcs⟩ := hrun 32
    have HC : Hid (cs.size = grownCap w (c + k) c 3) := hcs
    have HG := grownCap_ge w (c + k) c 3
    have HX := grownCap_le_maxLen w (c + k) c 3 (by unfold maxLen; omega)
    clear hrun hcs
    generalize grownCap w (c + k) c 3 = cap at *
    have HX' := HX
    unfold maxLen at HX'
    go_enter Yba.func17, Yba.ntmps17
    go_wp2_with (at_builtin; refine Lib.wpList_append_run _ rfl (.tmp 20) (.tmp 21) 32 3 rfl _ _ rfl rfl _ _ hr ?_)
    clear hr
    go_wp2
    go_ret
    refine ⟨_, cap, fun i => cs[i]?.getD default, rfl, HG, ⟨Nat.zero_le _, HX, (fun h => by cases h), fun x hx => ?_⟩, ?_, fun b hb => by cases hb; exact .inr (Nat.le_refl _)⟩
    · cases hx
      have h1 := World.rowIs_alloc w.drew cs 3 (fun i => cs[i]?.getD default) (fun i hi => by simp [hi])
      rw [HC.out] at h1
      exact ⟨_, rfl, h1⟩
    · exact grownBy_trans (grownBy_drew w none) (World.grownBy_alloc w.drew _ none)

end Go.Proofs.Ybulkazoe
