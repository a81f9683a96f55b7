import Derived.Test.YbulkazpgRows
import Derived.Test.YbulkazpgLaw4
import Derived.WalkKit
import Derived.ProofKit
import Derived.OpenShut
import Derived.ShutString
import Derived.ChangeOld
import Derived.Below
import Derived.Deep.Matrix
namespace Go.Proofs.Ybulkazpg
open Go.ChangeShapes Go.WideShapes Go.ChangeAt Go.RowKit Go.Deep
set_option linter.unusedVariables false

theorem ownR : ownKnob Yba.prog.godebug = none := by kernel_rfl
theorem laidOutR : laidOutB Yba.prog = true := by kernel_rfl
theorem cells50 : Yba.prog.cellsOf 50 = 1 := by kernel_rfl
theorem cells5 : Yba.prog.cellsOf 5 = 1 := by kernel_rfl

/-- A slice of byte slices among the arguments, as the walk wants it. -/
theorem view_raw {H : Type} {enc : TypeId × Value → H} {W : World} {fuel : Nat} {a : Option Addr} {len cap : Nat} {x : DataW H × List MemPlace}
    (h : DataW.trod enc Yba.prog W 0 (fun _ => true) true fuel 45 (Value.slice a len cap).cells.toList = some x) :
    ∃ (rb ro : Nat) (A : Nat → Option Addr) (L C ab ao : Nat → Nat) (X : Nat → Nat → Nat), len ≤ maxLen ∧ (0 < len → a = some ⟨rb, ro, none⟩) ∧ Raw W rb ro len A L C ab ao X := by
  rcases open_int_rows Yba.underlying45 Yba.underlying50 Yba.underlying5 cells50 cells5 h with ⟨hcs, _⟩ | ⟨x, l, c, A, L, C, Z, hcs, _, hl, hm, _, hrow⟩
  · simp [Value.cells] at hcs
    obtain ⟨rfl, rfl, rfl⟩ := hcs
    exact ⟨0, 0, fun _ => none, fun _ => 0, fun _ => 0, fun _ => 0, fun _ => 0, fun _ _ => 0, by unfold maxLen; omega, by omega, ⟨fun r hr => by omega, fun r hr => by omega, fun r hr => by omega, fun r k hr => by omega, fun r k hr => by omega⟩⟩
  · simp [Value.cells] at hcs
    obtain ⟨rfl, rfl, rfl⟩ := hcs
    by_cases h0 : len = 0
    · exact ⟨0, 0, fun _ => none, fun _ => 0, fun _ => 0, fun _ => 0, fun _ => 0, fun _ _ => 0, by omega, by omega, ⟨fun r hr => by omega, fun r hr => by omega, fun r hr => by omega, fun r k hr => by omega, fun r k hr => by omega⟩⟩
    · obtain ⟨b, o, y⟩ := x
      have hy : y = none := by simpa [Addr.add] using World.cell?_spot (hrow 0 (by omega)).1
      subst hy
      refine ⟨b, o, A, L, C, fun r => ((A r).getD ⟨0, 0, none⟩).block, fun r => ((A r).getD ⟨0, 0, none⟩).off, fun r k => ((Z r).getD k 0).toNat, by omega, fun _ => rfl, ?_⟩
      have hat : ∀ r, r < len → 0 < L r → A r = some ⟨((A r).getD ⟨0, 0, none⟩).block, ((A r).getD ⟨0, 0, none⟩).off, none⟩ := by
        intro r hr hL
        obtain ⟨h1, h2, h3, h4, h5, h6, h7⟩ := hrow r (by omega)
        cases hA : A r with
        | none => have := h6 hA; omega
        | some q =>
          obtain ⟨qb, qo, qs⟩ := q
          have hq : qs = none := by simpa [Addr.add] using World.cell?_spot ((h7 _ hA).2 0 (by omega))
          subst hq
          rfl
      refine ⟨fun r hr => ?_, fun r hr => ?_, hat, fun r k hr hk => ?_, fun r k hr hk => ?_⟩
      · have := (hrow r (by omega)).1
        rwa [Addr.add_lit] at this
      · obtain ⟨h1, h2, h3, _⟩ := hrow r (by omega)
        omega
      · obtain ⟨h1, h2, h3, h4, h5, h6, h7⟩ := hrow r (by omega)
        have hA := hat r hr (by omega)
        have hc := (h7 _ hA).2 k (by omega)
        rw [Addr.add_lit] at hc
        rw [hc]
        have hmem : (Z r).getD k 0 ∈ Z r := by
          simp [List.getD, List.getElem?_eq_getElem (show k < (Z r).length by omega)]
        have hw := bounds_u8 (h5 _ hmem)
        congr 2
        omega
      · obtain ⟨h1, h2, h3, h4, h5, h6, h7⟩ := hrow r (by omega)
        have hmem : (Z r).getD k 0 ∈ Z r := by
          simp [List.getD, List.getElem?_eq_getElem (show k < (Z r).length by omega)]
        have hw := bounds_u8 (h5 _ hmem)
        omega

set_option maxRecDepth 100000 in
theorem re_lifted (os : Os) (started : os.Started) (H : Type) (enc : TypeId × Value → H) :
    ReturnsInHanded {} Yba.checked os 4 .any (Rows.lawS2541BReachSpec.pre6 enc Yba.prog Yba.f4 Rows.lawS2541BReachRow.domain false) (Rows.lawS2541BReachSpec.post enc Yba.prog Yba.f4 false true false false) := by
  refine returnsInHanded_of_change (C := Yba.checked) ownR started (by kernel_rfl) Yba.func4
    (ChangeSpec.witness6 (enc := enc) (C := Yba.checked) false ⟨#[], #[.slice none 0 0], []⟩ 8 (by kernel_rfl) (by kernel_rfl) (by kernel_rfl) (by kernel_rfl)) ?_
  intro W base args ds gs before hval0 hW hcnd _
  have hval : ∀ (j : Nat) t v, Yba.f4.params[j]? = some t → args[j]? = some v → Value.okWide Yba.prog W .any base t v := hval0
  have hW' := hW
  obtain ⟨p, q, hA0, hV, rfl, hfz, hnd⟩ := hW
  have hA : DataW.TrodAll enc Yba.prog W 0 (fun _ => true) true Yba.f4.params.toList args.toList ds p := hA0
  rw [Yba.params4] at hA hval
  obtain ⟨v0, vs0, d0, ds0, p0, q0, hargs, rfl, rfl, h0, r0⟩ := trodAll_cons hA
  obtain ⟨rfl, rfl, rfl⟩ := trodAll_nil r0
  obtain rfl : args = #[v0] := by cases args; simp_all
  obtain ⟨rfl, rfl⟩ := trodVars_none hV
  obtain ⟨a0, len0, cap0, rfl⟩ := okWide_slice Yba.underlying45 (hval 0 45 v0 rfl rfl)
  have k0 := h0
  have lt0 : ∀ x ∈ p0, x.block < W.heap.size := by obtain ⟨m, hm⟩ := k0; exact DataW.trod_lt m _ _ _ hm
  obtain ⟨rb, ro, A, L, C, ab, ao, X, s1, s2, s3⟩ : ∃ (rb ro : Nat) (A : Nat → Option Addr) (L C ab ao : Nat → Nat) (X : Nat → Nat → Nat), len0 ≤ maxLen ∧ (0 < len0 → a0 = some ⟨rb, ro, none⟩) ∧ Raw W rb ro len0 A L C ab ao X := by
    obtain ⟨fuel, hf⟩ := h0
    exact view_raw hf
  clear hA0 hval0
  refine (law4 a0 rb ro len0 cap0 A L C ab ao X W s1 s2 s3).mono fun e W' ⟨he, bel⟩ => ?_
  subst he
  exact ⟨_, rfl, _, _, _, [], _, [], hW', trodAll_mk1 (shut_bool Yba.underlying4 _), (trodAll_cons_mk (Below.trod laidOutR (by kernel_rfl) (of_decide_eq_true (by kernel_rfl)) k0 bel lt0) trodAll_mk0), rfl, bel.frame _, fun h => by cases h⟩

theorem reach_proved : Rows.LawS2541BReachSaid :=
  OpenClaim.holds_of_wide 4 Yba.f4 rfl rfl rfl rfl rfl rfl rfl ⟨rfl, rfl, rfl, rfl, rfl⟩ rfl rfl rfl rfl rfl (by kernel_rfl) Yba.func4 (by kernel_rfl)
    (of_decide_eq_true (by kernel_rfl)) (by unfold Func.isWrapper; first | (rw [if_pos (by decide +kernel)]; kernel_rfl) | (rw [if_neg (by decide +kernel)]; exact ⟨rfl, rfl⟩))
    (fun os started H enc _ => re_lifted os started H enc)

end Go.Proofs.Ybulkazpg
