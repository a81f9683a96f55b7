import Derived.Test.YbulkazpgRows
import Derived.Test.YbulkazpgLaw3
import Derived.WalkKit
import Derived.ProofKit
import Derived.OpenShut
import Derived.ShutString
import Derived.ChangeOld
import Derived.Below
import Derived.Deep.Grids
namespace Go.Proofs.Ybulkazpg
open Go.ChangeShapes Go.WideShapes Go.ChangeAt Go.RowKit Go.Deep
set_option linter.unusedVariables false

theorem own : ownKnob Yba.prog.godebug = none := by kernel_rfl
theorem laidOut : laidOutB Yba.prog = true := by kernel_rfl
theorem cells4 : Yba.prog.cellsOf 4 = 1 := by kernel_rfl
theorem cells3 : Yba.prog.cellsOf 3 = 1 := by kernel_rfl

/-- A slice of bools among the arguments, as the walk wants it: nil or not. -/
theorem view_bools {H : Type} {enc : TypeId × Value → H} {W : World} {fuel : Nat} {a : Option Addr} {len cap : Nat} {x : DataW H × List MemPlace}
    (h : DataW.trod enc Yba.prog W 0 (fun _ => true) true fuel 22 (Value.slice a len cap).cells.toList = some x) :
    ∃ (b o : Nat) (C : Nat → Bool), len ≤ maxLen ∧ (0 < len → a = some ⟨b, o, none⟩) ∧ ∀ j, j < len → W.cell? ⟨b, o + j, none⟩ = some (.bool (C j)) := by
  rcases open_bools Yba.underlying22 Yba.underlying4 cells4 h with ⟨hcs, _⟩ | ⟨x, l, c, B, hcs, _, hl, hm, _, hcell⟩
  · simp [Value.cells] at hcs
    obtain ⟨rfl, rfl, rfl⟩ := hcs
    exact ⟨0, 0, fun _ => false, by unfold maxLen; omega, by omega, fun j hj => by omega⟩
  · simp [Value.cells] at hcs
    obtain ⟨rfl, rfl, rfl⟩ := hcs
    by_cases h0 : len = 0
    · exact ⟨0, 0, fun _ => false, by omega, by omega, fun j hj => by omega⟩
    · obtain ⟨b, o, y⟩ := x
      have hy : y = none := by simpa [Addr.add] using World.cell?_spot (hcell 0 (by omega))
      subst hy
      refine ⟨b, o, B, by omega, fun _ => rfl, fun j hj => ?_⟩
      have := hcell j (by omega)
      rwa [Addr.add_lit] at this

/-- A slice of ints among the arguments. -/
theorem view_ints {H : Type} {enc : TypeId × Value → H} {W : World} {fuel : Nat} {a : Option Addr} {len cap : Nat} {x : DataW H × List MemPlace}
    (h : DataW.trod enc Yba.prog W 0 (fun _ => true) true fuel 23 (Value.slice a len cap).cells.toList = some x) :
    ∃ (b o : Nat) (U : Nat → Int), len ≤ maxLen ∧ (0 < len → a = some ⟨b, o, none⟩) ∧ ∀ j, j < len → W.cell? ⟨b, o + j, none⟩ = some (.int .i64 (U j)) := by
  rcases open_ints Yba.underlying23 Yba.underlying3 cells3 h with ⟨hcs, _⟩ | ⟨x, l, c, zs, hcs, _, hl, hm, hz, _, hcell, _⟩
  · simp [Value.cells] at hcs
    obtain ⟨rfl, rfl, rfl⟩ := hcs
    exact ⟨0, 0, fun _ => 0, by unfold maxLen; omega, by omega, fun j hj => by omega⟩
  · simp [Value.cells] at hcs
    obtain ⟨rfl, rfl, rfl⟩ := hcs
    simp only [if_true] at hz
    by_cases h0 : len = 0
    · exact ⟨0, 0, fun _ => 0, by omega, by omega, fun j hj => by omega⟩
    · obtain ⟨b, o, y⟩ := x
      have hy : y = none := by simpa [Addr.add] using World.cell?_spot (hcell 0 (by omega))
      subst hy
      refine ⟨b, o, fun j => zs.getD j 0, by omega, fun _ => rfl, fun j hj => ?_⟩
      have := hcell j (by omega)
      rwa [Addr.add_lit] at this

set_option maxRecDepth 100000 in
theorem ac_lifted (os : Os) (started : os.Started) (H : Type) (enc : TypeId × Value → H) :
    ReturnsInHanded {} Yba.checked os 3 .any (Rows.lawS2541AAllClosedSpec.pre6 enc Yba.prog Yba.f3 Rows.lawS2541AAllClosedRow.domain false) (Rows.lawS2541AAllClosedSpec.post enc Yba.prog Yba.f3 false true false false) := by
  refine returnsInHanded_of_change (C := Yba.checked) own started (by kernel_rfl) Yba.func3
    (ChangeSpec.witness6 (enc := enc) (C := Yba.checked) false ⟨#[], #[.slice none 0 0, .slice none 0 0, .bool false], []⟩ 8 (by kernel_rfl) (by kernel_rfl) (by kernel_rfl) (by kernel_rfl)) ?_
  intro W base args ds gs before hval0 hW hcnd _
  have hval : ∀ (j : Nat) t v, Yba.f3.params[j]? = some t → args[j]? = some v → Value.okWide Yba.prog W .any base t v := hval0
  have hW' := hW
  obtain ⟨p, q, hA0, hV, rfl, hfz, hnd⟩ := hW
  have hA : DataW.TrodAll enc Yba.prog W 0 (fun _ => true) true Yba.f3.params.toList args.toList ds p := hA0
  rw [Yba.params3] at hA hval
  obtain ⟨v0, vs0, d0, ds0, p0, q0, hargs, rfl, rfl, h0, r0⟩ := trodAll_cons hA
  obtain ⟨v1, vs1, d1, ds1, p1, q1, rfl, rfl, rfl, h1, r1⟩ := trodAll_cons r0
  obtain ⟨v2, vs2, d2, ds2, p2, q2, rfl, rfl, rfl, h2, r2⟩ := trodAll_cons r1
  obtain ⟨rfl, rfl, rfl⟩ := trodAll_nil r2
  obtain rfl : args = #[v0, v1, v2] := by cases args; simp_all
  obtain ⟨rfl, rfl⟩ := trodVars_none hV
  obtain ⟨a0, len0, cap0, rfl⟩ := okWide_slice Yba.underlying22 (hval 0 22 v0 rfl rfl)
  have k0 := h0
  have lt0 : ∀ x ∈ p0, x.block < W.heap.size := by obtain ⟨m, hm⟩ := k0; exact DataW.trod_lt m _ _ _ hm
  obtain ⟨cb, co, C, s1, s2, s3⟩ : ∃ (b o : Nat) (C : Nat → Bool), len0 ≤ maxLen ∧ (0 < len0 → a0 = some ⟨b, o, none⟩) ∧ ∀ j, j < len0 → W.cell? ⟨b, o + j, none⟩ = some (.bool (C j)) := by
    obtain ⟨fuel, hf⟩ := h0
    exact view_bools hf
  obtain ⟨a1, len1, cap1, rfl⟩ := okWide_slice Yba.underlying23 (hval 1 23 v1 rfl rfl)
  have k1 := h1
  have lt1 : ∀ x ∈ p1, x.block < W.heap.size := by obtain ⟨m, hm⟩ := k1; exact DataW.trod_lt m _ _ _ hm
  obtain ⟨ub, uo, U, t1, t2, t3⟩ : ∃ (b o : Nat) (U : Nat → Int), len1 ≤ maxLen ∧ (0 < len1 → a1 = some ⟨b, o, none⟩) ∧ ∀ j, j < len1 → W.cell? ⟨b, o + j, none⟩ = some (.int .i64 (U j)) := by
    obtain ⟨fuel, hf⟩ := h1
    exact view_ints hf
  obtain ⟨a2, rfl, rfl, rfl⟩ := open_bool Yba.underlying4 (hval 2 4 v2 rfl rfl) h2
  clear hA0 hval0
  refine (law3 a0 cb co len0 cap0 C a1 ub uo len1 cap1 U a2 W s1 t1 s2 s3 t2 t3).mono fun e W' ⟨he, bel⟩ => ?_
  subst he
  exact ⟨_, rfl, _, _, _, [], _, [], hW', trodAll_mk1 (shut_bool Yba.underlying4 _), (trodAll_cons_mk (Below.trod laidOut (by kernel_rfl) (of_decide_eq_true (by kernel_rfl)) k0 bel lt0) (trodAll_cons_mk (Below.trod laidOut (by kernel_rfl) (of_decide_eq_true (by kernel_rfl)) k1 bel lt1) (trodAll_cons_mk (shut_bool Yba.underlying4 _) trodAll_mk0))), rfl, bel.frame _, fun h => by cases h⟩

theorem allClosed_proved : Rows.LawS2541AAllClosedSaid :=
  OpenClaim.holds_of_wide 3 Yba.f3 rfl rfl rfl rfl rfl rfl rfl ⟨rfl, rfl, rfl, rfl, rfl⟩ rfl rfl rfl rfl rfl (by kernel_rfl) Yba.func3 (by kernel_rfl)
    (of_decide_eq_true (by kernel_rfl)) (by unfold Func.isWrapper; first | (rw [if_pos (by decide +kernel)]; kernel_rfl) | (rw [if_neg (by decide +kernel)]; exact ⟨rfl, rfl⟩))
    (fun os started H enc _ => ac_lifted os started H enc)

end Go.Proofs.Ybulkazpg
