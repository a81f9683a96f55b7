import Derived.Test.YbulkazwgRows
import Derived.Test.YbulkazwgLaw3
import Derived.WalkKit
import Derived.ProofKit
import Derived.OpenShut
import Derived.ShutString
import Derived.ChangeOld
import Derived.Below
namespace Go.Proofs.Ybulkazwg
open Go.ChangeShapes Go.WideShapes Go.ChangeAt Go.RowKit
set_option linter.unusedVariables false

theorem own : ownKnob Yba.prog.godebug = none := by kernel_rfl
theorem laidOut : laidOutB Yba.prog = true := by kernel_rfl
theorem cells24 : Yba.prog.cellsOf 24 = 1 := by kernel_rfl
theorem cells26 : Yba.prog.cellsOf 26 = 1 := by kernel_rfl

/-- A slice of numbers among the arguments, as the walk wants it: nil or not. -/
theorem view_nums {H : Type} {enc : TypeId × Value → H} {W : World} {fuel : Nat} {t e : TypeId} {k : IntKind} {a : Option Addr} {len cap : Nat} {x : DataW H × List MemPlace} (ht : Yba.prog.underlying t = some (.slice e)) (he : Yba.prog.underlying e = some (.int k)) (hc : Yba.prog.cellsOf e = 1)
    (h : DataW.trod enc Yba.prog W 0 (fun _ => true) true fuel t (Value.slice a len cap).cells.toList = some x) :
    ∃ (b o : Nat) (f : Nat → Int), len ≤ maxLen ∧ Arg W k a b o len f := by
  rcases open_ints ht he hc h with ⟨hcs, _⟩ | ⟨x, l, c, zs, hcs, _, hl, hm, hz, _, hcell, _⟩
  · simp [Value.cells] at hcs
    obtain ⟨rfl, rfl, rfl⟩ := hcs
    exact ⟨0, 0, fun _ => 0, by unfold maxLen; omega, by omega, fun j hj => by omega⟩
  · simp [Value.cells] at hcs
    obtain ⟨rfl, rfl, rfl⟩ := hcs
    simp only [if_true] at hz
    by_cases h0 : len = 0
    · exact ⟨0, 0, fun _ => 0, by omega, by omega, fun j hj => by omega⟩
    · obtain ⟨b, o, y⟩ := x
      have hy : y = none := by simpa [Addr.add] using World.cell?_spot (hcell 0 (by omega))
      subst hy
      refine ⟨b, o, fun j => zs.getD j 0, by omega, fun _ => rfl, fun j hj => ?_⟩
      have := hcell j (by omega)
      rwa [Addr.add_lit] at this

set_option maxHeartbeats 400000 in
set_option maxRecDepth 100000 in
theorem big (a0 : Option Addr) (l0 c0 : Nat) (a1 : Option Addr) (l1 c1 : Nat) (a2 : Option Addr) (l2 c2 : Nat) (a3 : Option Addr) (l3 c3 : Nat) (keep : Bool) (w : World) (m0 : l0 ≤ maxLen) (m1 : l1 ≤ maxLen) (m2 : l2 ≤ maxLen) (m3 : l3 ≤ maxLen)
    (h : 1024 < l0 ∨ (l0 ≤ 1024 ∧ 1024 < l1) ∨ (l0 ≤ 1024 ∧ l1 ≤ 1024 ∧ 1024 < l2) ∨ (l0 ≤ 1024 ∧ l1 ≤ 1024 ∧ l2 ≤ 1024 ∧ 1024 < l3)) :
    Calls Yba.prog 3 #[.slice a0 l0 c0, .slice a1 l1 c1, .slice a2 l2 c2, .slice a3 l3 c3, .bool keep] w fun e w' => e = .returned (.bool true) ∧ Below w.heap.size w w' := by
  unfold maxLen at m0 m1 m2 m3
  rcases h with h | ⟨g0, h⟩ | ⟨g0, g1, h⟩ | ⟨g0, g1, g2, h⟩
  all_goals
    go_enter Yba.func3, Yba.ntmps3
    go_wp2
    go_ret
    exact ⟨rfl, Below.refl _ _⟩

theorem walk (a0 : Option Addr) (b0 o0 l0 c0 : Nat) (R : Nat → Int) (a1 : Option Addr) (b1 o1 l1 c1 : Nat) (V : Nat → Int) (a2 : Option Addr) (b2 o2 l2 c2 : Nat) (I : Nat → Int) (a3 : Option Addr) (b3 o3 l3 c3 : Nat) (F : Nat → Int) (keep : Bool) (w : World)
    (m0 : l0 ≤ maxLen) (m1 : l1 ≤ maxLen) (m2 : l2 ≤ maxLen) (m3 : l3 ≤ maxLen) (A0 : Arg w .u64 a0 b0 o0 l0 R) (A1 : Arg w .u32 a1 b1 o1 l1 V) (A2 : Arg w .u64 a2 b2 o2 l2 I) (A3 : Arg w .u32 a3 b3 o3 l3 F) :
    Calls Yba.prog 3 #[.slice a0 l0 c0, .slice a1 l1 c1, .slice a2 l2 c2, .slice a3 l3 c3, .bool keep] w fun e w' => e = .returned (.bool true) ∧ Below w.heap.size w w' := by
  by_cases h : l0 ≤ 1024 ∧ l1 ≤ 1024 ∧ l2 ≤ 1024 ∧ l3 ≤ 1024
  · exact law3 a0 b0 o0 l0 c0 R a1 b1 o1 l1 c1 V a2 b2 o2 l2 c2 I a3 b3 o3 l3 c3 F keep w h.1 h.2.1 h.2.2.1 h.2.2.2 A0 A1 A2 A3
  · exact big a0 l0 c0 a1 l1 c1 a2 l2 c2 a3 l3 c3 keep w m0 m1 m2 m3 (by omega)

set_option maxRecDepth 100000 in
theorem lifted (os : Os) (started : os.Started) (H : Type) (enc : TypeId × Value → H) :
    ReturnsInHanded {} Yba.checked os 3 .any (Rows.lawS2554CAppendSpec.pre6 enc Yba.prog Yba.f3 Rows.lawS2554CAppendRow.domain false) (Rows.lawS2554CAppendSpec.post enc Yba.prog Yba.f3 false true false false) := by
  refine returnsInHanded_of_change (C := Yba.checked) own started (by kernel_rfl) Yba.func3
    (ChangeSpec.witness6 (enc := enc) (C := Yba.checked) false ⟨#[], #[.slice none 0 0, .slice none 0 0, .slice none 0 0, .slice none 0 0, .bool false], []⟩ 8 (by kernel_rfl) (by kernel_rfl) (by kernel_rfl) (by kernel_rfl)) ?_
  intro W base args ds gs before hval0 hW hcnd _
  have hval : ∀ (j : Nat) t v, Yba.f3.params[j]? = some t → args[j]? = some v → Value.okWide Yba.prog W .any base t v := hval0
  have hW' := hW
  obtain ⟨p, q, hA0, hV, rfl, hfz, hnd⟩ := hW
  have hA : DataW.TrodAll enc Yba.prog W 0 (fun _ => true) true Yba.f3.params.toList args.toList ds p := hA0
  rw [Yba.params3] at hA hval
  obtain ⟨v0, vs0, d0, ds0, p0, q0, hargs, rfl, rfl, h0, r0⟩ := trodAll_cons hA
  obtain ⟨v1, vs1, d1, ds1, p1, q1, rfl, rfl, rfl, h1, r1⟩ := trodAll_cons r0
  obtain ⟨v2, vs2, d2, ds2, p2, q2, rfl, rfl, rfl, h2, r2⟩ := trodAll_cons r1
  obtain ⟨v3, vs3, d3, ds3, p3, q3, rfl, rfl, rfl, h3, r3⟩ := trodAll_cons r2
  obtain ⟨v4, vs4, d4, ds4, p4, q4, rfl, rfl, rfl, h4, r4⟩ := trodAll_cons r3
  obtain ⟨rfl, rfl, rfl⟩ := trodAll_nil r4
  obtain rfl : args = #[v0, v1, v2, v3, v4] := by cases args; simp_all
  obtain ⟨rfl, rfl⟩ := trodVars_none hV
  obtain ⟨a0, len0, cap0, rfl⟩ := okWide_slice Yba.underlying22 (hval 0 22 v0 rfl rfl)
  have k0 := h0
  have lt0 : ∀ x ∈ p0, x.block < W.heap.size := by obtain ⟨m, hm⟩ := k0; exact DataW.trod_lt m _ _ _ hm
  obtain ⟨b0, o0, f0, m0, w0⟩ : ∃ (b o : Nat) (f : Nat → Int), len0 ≤ maxLen ∧ Arg W .u64 a0 b o len0 f := by
    obtain ⟨fuel, hf⟩ := h0
    exact view_nums Yba.underlying22 Yba.underlying24 cells24 hf
  obtain ⟨a1, len1, cap1, rfl⟩ := okWide_slice Yba.underlying23 (hval 1 23 v1 rfl rfl)
  have k1 := h1
  have lt1 : ∀ x ∈ p1, x.block < W.heap.size := by obtain ⟨m, hm⟩ := k1; exact DataW.trod_lt m _ _ _ hm
  obtain ⟨b1, o1, f1, m1, w1⟩ : ∃ (b o : Nat) (f : Nat → Int), len1 ≤ maxLen ∧ Arg W .u32 a1 b o len1 f := by
    obtain ⟨fuel, hf⟩ := h1
    exact view_nums Yba.underlying23 Yba.underlying26 cells26 hf
  obtain ⟨a2, len2, cap2, rfl⟩ := okWide_slice Yba.underlying22 (hval 2 22 v2 rfl rfl)
  have k2 := h2
  have lt2 : ∀ x ∈ p2, x.block < W.heap.size := by obtain ⟨m, hm⟩ := k2; exact DataW.trod_lt m _ _ _ hm
  obtain ⟨b2, o2, f2, m2, w2⟩ : ∃ (b o : Nat) (f : Nat → Int), len2 ≤ maxLen ∧ Arg W .u64 a2 b o len2 f := by
    obtain ⟨fuel, hf⟩ := h2
    exact view_nums Yba.underlying22 Yba.underlying24 cells24 hf
  obtain ⟨a3, len3, cap3, rfl⟩ := okWide_slice Yba.underlying23 (hval 3 23 v3 rfl rfl)
  have k3 := h3
  have lt3 : ∀ x ∈ p3, x.block < W.heap.size := by obtain ⟨m, hm⟩ := k3; exact DataW.trod_lt m _ _ _ hm
  obtain ⟨b3, o3, f3, m3, w3⟩ : ∃ (b o : Nat) (f : Nat → Int), len3 ≤ maxLen ∧ Arg W .u32 a3 b o len3 f := by
    obtain ⟨fuel, hf⟩ := h3
    exact view_nums Yba.underlying23 Yba.underlying26 cells26 hf
  obtain ⟨a4, rfl, rfl, rfl⟩ := open_bool Yba.underlying4 (hval 4 4 v4 rfl rfl) h4
  clear hA0 hval0
  refine (walk a0 b0 o0 len0 cap0 f0 a1 b1 o1 len1 cap1 f1 a2 b2 o2 len2 cap2 f2 a3 b3 o3 len3 cap3 f3 a4 W m0 m1 m2 m3 w0 w1 w2 w3).mono fun e W' ⟨he, bel⟩ => ?_
  subst he
  exact ⟨_, rfl, _, _, _, [], _, [], hW', trodAll_mk1 (shut_bool Yba.underlying4 _), (trodAll_cons_mk (Below.trod laidOut (by kernel_rfl) (of_decide_eq_true (by kernel_rfl)) k0 bel lt0) (trodAll_cons_mk (Below.trod laidOut (by kernel_rfl) (of_decide_eq_true (by kernel_rfl)) k1 bel lt1) (trodAll_cons_mk (Below.trod laidOut (by kernel_rfl) (of_decide_eq_true (by kernel_rfl)) k2 bel lt2) (trodAll_cons_mk (Below.trod laidOut (by kernel_rfl) (of_decide_eq_true (by kernel_rfl)) k3 bel lt3) (trodAll_cons_mk (shut_bool Yba.underlying4 _) trodAll_mk0))))), rfl, bel.frame _, fun h => by cases h⟩

theorem over : Rows.lawS2554CAppendRow.holds Yba.pinned (OpenSpec.ofChange Rows.lawS2554CAppendSpec) :=
  OpenClaim.holds_of_wide 3 Yba.f3 rfl rfl rfl rfl rfl rfl rfl ⟨rfl, rfl, rfl, rfl, rfl⟩ rfl rfl rfl rfl rfl (by kernel_rfl) Yba.func3 (by kernel_rfl)
    (of_decide_eq_true (by kernel_rfl)) (by unfold Func.isWrapper; first | (rw [if_pos (by decide +kernel)]; kernel_rfl) | (rw [if_neg (by decide +kernel)]; exact ⟨rfl, rfl⟩))
    (fun os started H enc _ => lifted os started H enc)

theorem append_proved : Rows.LawS2554CAppendSaid := over

end Go.Proofs.Ybulkazwg
