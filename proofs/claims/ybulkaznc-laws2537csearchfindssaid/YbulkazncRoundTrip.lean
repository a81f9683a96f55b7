import Derived.Test.YbulkazncRows
import Derived.Test.YbulkazncLaw3
import Derived.WalkKit
import Derived.ProofKit
import Derived.OpenShut
import Derived.ShutString
import Derived.ChangeOld
import Derived.Below
import Derived.SliceStrings
namespace Go.Proofs.Ybulkaznc
open Go.ChangeShapes Go.WideShapes Go.ChangeAt Go.RowKit
set_option linter.unusedVariables false

theorem own : ownKnob Yba.prog.godebug = none := by kernel_rfl
theorem laidOut : laidOutB Yba.prog = true := by kernel_rfl
theorem cells9 : Yba.prog.cellsOf 9 = 1 := by kernel_rfl

/-- An argument of strings, as the walks want it: nil or not. -/
theorem open_terms {H : Type} {enc : TypeId × Value → H} {W : World} {fuel : Nat} {a : Option Addr} {len cap : Nat} {x : DataW H × List MemPlace}
    (h : DataW.trod enc Yba.prog W 0 (fun _ => true) true fuel 22 (Value.slice a len cap).cells.toList = some x) :
    ∃ (xb xo : Nat) (S : Nat → ByteArray), (0 < len → a = some ⟨xb, xo, none⟩) ∧ len ≤ maxLen ∧ (∀ j, j < len → (S j).size ≤ maxLen) ∧ ∀ j, j < len → W.cell? ⟨xb, xo + j, none⟩ = some (.string (S j)) := by
  rcases open_strings Yba.underlying22 Yba.underlying9 cells9 h with ⟨hcs, _⟩ | ⟨x, l, c, ss, hcs, _, hl, hm, hz, _, hcell, hws⟩
  · simp [Value.cells] at hcs
    obtain ⟨rfl, rfl, rfl⟩ := hcs
    exact ⟨0, 0, fun _ => ByteArray.empty, by omega, by unfold maxLen; omega, fun j hj => by omega, fun j hj => by omega⟩
  · simp [Value.cells] at hcs
    obtain ⟨rfl, rfl, rfl⟩ := hcs
    simp at hz
    by_cases h0 : len = 0
    · exact ⟨0, 0, fun _ => ByteArray.empty, by omega, by omega, fun j hj => by omega, fun j hj => by omega⟩
    · obtain ⟨b, o, y⟩ := x
      have hy : y = none := by
        have h1 := hcell 0 (by omega)
        cases y with
        | none => rfl
        | some p => simp [World.cell?, Addr.add] at h1; split at h1 <;> cases h1
      subst hy
      refine ⟨b, o, fun j => ss.getD j ByteArray.empty, fun _ => rfl, by omega, fun j hj => ?_, fun j hj => ?_⟩
      · refine hws _ ?_
        simp [List.getD, List.getElem?_eq_getElem (show j < ss.length by omega)]
      · have := hcell j (by omega)
        rwa [Addr.add_lit] at this

set_option maxRecDepth 100000 in
theorem rt_lifted (os : Os) (started : os.Started) (H : Type) (enc : TypeId × Value → H) :
    ReturnsInHanded {} Yba.checked os 3 .any (Rows.lawS2537CRoundTripSpec.pre6 enc Yba.prog Yba.f3 Rows.lawS2537CRoundTripRow.domain false) (Rows.lawS2537CRoundTripSpec.post enc Yba.prog Yba.f3 false true false false) := by
  refine returnsInHanded_of_change (C := Yba.checked) own started (by kernel_rfl) Yba.func3
    (ChangeSpec.witness6 (enc := enc) (C := Yba.checked) false ⟨#[], #[.slice none 0 0], []⟩ 8 (by kernel_rfl) (by kernel_rfl) (by kernel_rfl) (by kernel_rfl)) ?_
  intro W base args ds gs before hval0 hW hcnd _
  have hval : ∀ (j : Nat) t v, Yba.f3.params[j]? = some t → args[j]? = some v → Value.okWide Yba.prog W .any base t v := hval0
  have hW' := hW
  obtain ⟨p, q, hA0, hV, rfl, hfz, hnd⟩ := hW
  have hA : DataW.TrodAll enc Yba.prog W 0 (fun _ => true) true Yba.f3.params.toList args.toList ds p := hA0
  rw [Yba.params3] at hA hval
  obtain ⟨v0, vs0, d0, ds0, p0, q0, hargs, rfl, rfl, h0, r0⟩ := trodAll_cons hA
  obtain ⟨rfl, rfl, rfl⟩ := trodAll_nil r0
  obtain rfl : args = #[v0] := by cases args; simp_all
  obtain ⟨rfl, rfl⟩ := trodVars_none hV
  obtain ⟨a0, len0, cap0, rfl⟩ := okWide_slice Yba.underlying22 (hval 0 22 v0 rfl rfl)
  have k0 := h0
  have lt0 : ∀ x ∈ p0, x.block < W.heap.size := by obtain ⟨m, hm⟩ := k0; exact DataW.trod_lt m _ _ _ hm
  obtain ⟨xb, xo, S, s1, s2, s3, s4⟩ : ∃ (xb xo : Nat) (S : Nat → ByteArray), (0 < len0 → a0 = some ⟨xb, xo, none⟩) ∧ len0 ≤ maxLen ∧ (∀ j, j < len0 → (S j).size ≤ maxLen) ∧ ∀ j, j < len0 → W.cell? ⟨xb, xo + j, none⟩ = some (.string (S j)) := by
    obtain ⟨fuel, hf⟩ := h0
    exact open_terms hf
  clear hA0 hval0
  refine (round_walk a0 xb xo len0 cap0 S W s1 s2 s3 s4).mono fun e W' ⟨he, bel⟩ => ?_
  subst he
  exact ⟨_, rfl, _, _, _, [], _, [], hW', trodAll_mk1 (shut_bool Yba.underlying4 _), (trodAll_cons_mk (Below.trod laidOut (by kernel_rfl) (of_decide_eq_true (by kernel_rfl)) k0 bel lt0) trodAll_mk0), rfl, bel.frame _, fun h => by cases h⟩

theorem roundTrip_proved : Rows.LawS2537CRoundTripSaid :=
  OpenClaim.holds_of_wide 3 Yba.f3 rfl rfl rfl rfl rfl rfl rfl ⟨rfl, rfl, rfl, rfl, rfl⟩ rfl rfl rfl rfl rfl (by kernel_rfl) Yba.func3 (by kernel_rfl)
    (of_decide_eq_true (by kernel_rfl)) (by unfold Func.isWrapper; first | (rw [if_pos (by decide +kernel)]; kernel_rfl) | (rw [if_neg (by decide +kernel)]; exact ⟨rfl, rfl⟩))
    (fun os started H enc _ => rt_lifted os started H enc)

end Go.Proofs.Ybulkaznc
