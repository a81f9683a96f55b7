import Derived.Test.YbulkazoeBig
import Derived.WalkKit
import Derived.ProofKit
import Derived.OpenShut
import Derived.ShutString
import Derived.ChangeOld
import Derived.Below
import Derived.SizedLaws
import Derived.Deep.Matrix
namespace Go.Proofs.Ybulkazoe
open Go.ChangeShapes Go.WideShapes Go.ChangeAt Go.RowKit Go.Deep
set_option linter.unusedVariables false

theorem ownR : ownKnob Yba.prog.godebug = none := by kernel_rfl
theorem laidOutR : laidOutB Yba.prog = true := by kernel_rfl
theorem cells32 : Yba.prog.cellsOf 32 = 1 := by kernel_rfl
theorem cells3 : Yba.prog.cellsOf 3 = 1 := by kernel_rfl
theorem cells5 : Yba.prog.cellsOf 5 = 1 := by kernel_rfl
theorem bytes3 : Yba.prog.bytesOf 3 = 8 := by kernel_rfl
theorem reach_is : reachBytes = 140737488351232 := rfl

theorem weights_in {H : Type} {P : Program} {e : TypeId} : ∀ {l : List (DataW H)} {d : DataW H}, d ∈ l → ∀ n ∈ d.weights P e, n ∈ DataW.weightsAll P e l
  | d' :: r, d, hd, n, hn => by
    simp only [DataW.weightsAll, List.mem_append]
    rcases List.mem_cons.1 hd with rfl | h
    · exact Or.inl hn
    · exact Or.inr (weights_in h n hn)

/-- The row's own reach, of a list inside the forced lists. -/
theorem inner_size {H : Type} {ts : List TypeId} {ds : List (DataW H)} (h : (DataW.weightsEach Yba.prog ts ds).all (· ≤ reachBytes) = true) {j : Nat} {d : DataW H} (ht : ts[j]? = some 42) (hd : ds[j]? = some d) :
    ∀ elems spare e' sp', d = .slice elems spare → DataW.slice e' sp' ∈ elems → (e'.length + sp'.length) * 8 ≤ reachBytes := by
  intro elems spare e' sp' hd2 hx
  subst hd2
  have := of_decide_eq_true (List.all_eq_true.1 h ((e'.length + sp'.length) * Yba.prog.bytesOf 3) (DataW.weights_mem_each ht hd _ (by
    simp only [DataW.weights, Yba.underlying42, List.mem_cons, List.mem_append]
    exact Or.inr (Or.inl (weights_in hx _ (by simp [DataW.weights, Yba.underlying32]))))))
  rw [bytes3] at this
  exact this

/-- A slice of bytes among the arguments. -/
theorem view_tags {H : Type} {enc : TypeId × Value → H} {W : World} {fuel : Nat} {a : Option Addr} {len cap : Nat} {x : DataW H × List MemPlace}
    (h : DataW.trod enc Yba.prog W 0 (fun _ => true) true fuel 41 (Value.slice a len cap).cells.toList = some x) :
    ∃ (b o : Nat) (T : Nat → Nat), len ≤ maxLen ∧ Tags W a b o len T := by
  rcases open_ints Yba.underlying41 Yba.underlying5 cells5 h with ⟨hcs, _⟩ | ⟨x, l, c, zs, hcs, _, hl, hm, hz, _, hcell, hwf⟩
  · simp [Value.cells] at hcs
    obtain ⟨rfl, rfl, rfl⟩ := hcs
    exact ⟨0, 0, fun _ => 0, by unfold maxLen; omega, by omega, fun j hj => by omega, fun j hj => by omega⟩
  · simp [Value.cells] at hcs
    obtain ⟨rfl, rfl, rfl⟩ := hcs
    simp only [if_true] at hz
    by_cases h0 : len = 0
    · exact ⟨0, 0, fun _ => 0, by omega, by omega, fun j hj => by omega, fun j hj => by omega⟩
    · obtain ⟨b, o, y⟩ := x
      have hy : y = none := by simpa [Addr.add] using World.cell?_spot (hcell 0 (by omega))
      subst hy
      have hw : ∀ j, j < len → 0 ≤ zs.getD j 0 ∧ zs.getD j 0 ≤ 255 := fun j hj => by
        have hmem : zs.getD j 0 ∈ zs := by simp [List.getD, List.getElem?_eq_getElem (show j < zs.length by omega)]
        have := bounds_u8 (hwf _ hmem)
        omega
      refine ⟨b, o, fun j => (zs.getD j 0).toNat, by omega, fun _ => rfl, fun j hj => ?_, fun j hj => ?_⟩
      · have := hcell j (by omega)
        rw [Addr.add_lit] at this
        rw [this]
        have := hw j hj
        congr 2
        omega
      · have := hw j hj
        omega

/-- The forced lists among the arguments. -/
theorem view_frc {H : Type} {enc : TypeId × Value → H} {W : World} {fuel : Nat} {a : Option Addr} {len cap : Nat} {d : DataW H} {p : List MemPlace}
    (h : DataW.trod enc Yba.prog W 0 (fun _ => true) true fuel 42 (Value.slice a len cap).cells.toList = some (d, p))
    (hin : ∀ elems spare e' sp', d = .slice elems spare → DataW.slice e' sp' ∈ elems → (e'.length + sp'.length) * 8 ≤ reachBytes) :
    ∃ (b o : Nat) (A : Nat → Option Addr) (FL FC ab ao : Nat → Nat) (FX : Nat → Nat → Int), len ≤ maxLen ∧ Frc W a b o len A FL FC ab ao FX := by
  rcases open_int_rows Yba.underlying42 Yba.underlying32 Yba.underlying3 cells32 cells3 h with ⟨hcs, _⟩ | ⟨x, l, c, A, L, C, Z, hcs, _, hl, hm, hx, hrow⟩
  · simp [Value.cells] at hcs
    obtain ⟨rfl, rfl, rfl⟩ := hcs
    exact ⟨0, 0, fun _ => none, fun _ => 0, fun _ => 0, fun _ => 0, fun _ => 0, fun _ _ => 0, by unfold maxLen; omega, by omega, fun r hr => by omega, fun r hr => by omega, fun r hr => by omega, fun r k hr => by omega⟩
  · simp [Value.cells] at hcs
    obtain ⟨rfl, rfl, rfl⟩ := hcs
    simp only [Prod.mk.injEq] at hx
    by_cases h0 : len = 0
    · exact ⟨0, 0, fun _ => none, fun _ => 0, fun _ => 0, fun _ => 0, fun _ => 0, fun _ _ => 0, by omega, by omega, fun r hr => by omega, fun r hr => by omega, fun r hr => by omega, fun r k hr => by omega⟩
    · obtain ⟨b, o, y⟩ := x
      have hy : y = none := by simpa [Addr.add] using World.cell?_spot (hrow 0 (by omega)).1
      subst hy
      have hat : ∀ r, r < len → 0 < L r → A r = some ⟨((A r).getD ⟨0, 0, none⟩).block, ((A r).getD ⟨0, 0, none⟩).off, none⟩ := by
        intro r hr hL
        obtain ⟨h1, h2, h3, h4, h5, h6, h7⟩ := hrow r (by omega)
        cases hA : A r with
        | none => have := h6 hA; omega
        | some q =>
          obtain ⟨qb, qo, qs⟩ := q
          have hq : qs = none := by simpa [Addr.add] using World.cell?_spot ((h7 _ hA).2 0 (by omega))
          subst hq
          rfl
      refine ⟨b, o, A, L, C, fun r => ((A r).getD ⟨0, 0, none⟩).block, fun r => ((A r).getD ⟨0, 0, none⟩).off, fun r k => (Z r).getD k 0, by omega, fun _ => rfl, fun r hr => ?_, fun r hr => ?_, hat, fun r k hr hk => ?_⟩
      · have := (hrow r (by omega)).1
        rwa [Addr.add_lit] at this
      · obtain ⟨h1, h2, h3, h4, h5, h6, h7⟩ := hrow r (by omega)
        cases hA : A r with
        | none => have := h6 hA; omega
        | some q =>
          have := hin _ _ (lits .i64 ((Z r).take (L r))) (lits .i64 ((Z r).drop (L r))) hx.1 (List.mem_map.2 ⟨r, List.mem_range.2 hr, by simp [intRow, hA]⟩)
          rw [reach_is] at this
          simp only [lits, List.length_map, List.length_take, List.length_drop] at this
          omega
      · obtain ⟨h1, h2, h3, h4, h5, h6, h7⟩ := hrow r (by omega)
        have hA := hat r hr (by omega)
        have hc := (h7 _ hA).2 k (by omega)
        rw [Addr.add_lit] at hc
        exact hc

end Go.Proofs.Ybulkazoe
