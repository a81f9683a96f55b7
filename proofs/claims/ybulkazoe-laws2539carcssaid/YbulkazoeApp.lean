import Derived.Test.YbulkazoeEnv
import Derived.Deep.RegionHeld3
import Derived.Deep.RegionLaw
import Derived.Deep.AppendSrc
import Derived.Deep.DeepCutAuto
namespace Go.Proofs.Ybulkazoe
open Go.RowKit
set_option linter.unusedVariables false

/-- The row's cells hold the list. -/
def Mem (G : Nat → Value) (L : List Int) : Prop := ∀ i x, (i64s L)[i]? = some x → G i = x

section
variable {M : Nat → Prop} {w wr : World} {sb rfb : Nat} {fa : Option Addr} {fn fc : Nat} {F : Nat → Value} {mb mn mc : Nat} {G : Nat → Value} {ca : Option Addr} {cn cc : Nat} {C : Nat → Value}

theorem Ph.app (h : Ph M w sb rfb fa fn fc F (some ⟨mb, 0, none⟩) mn mc G ca cn cc C wr) (L0 L : List Int) (hM : Mem G L0) (hmn : mn = L0.length) (hroom : mn + L.length ≤ mc) :
    ((wr.setCells mb mn (i64s L)).cell? ⟨sb, 39, none⟩ = some (.slice (some ⟨mb, 0, none⟩) mn mc) ∧ (∀ o, (wr.setCells mb mn (i64s L)).frozen? ⟨sb, o, none⟩ = false) ∧ sb < (wr.setCells mb mn (i64s L)).heap.size) ∧
    ∃ G', Ph M w sb rfb fa fn fc F (some ⟨mb, 0, none⟩) (mn + L.length) mc G' ca cn cc C ((wr.setCells mb mn (i64s L)).setCell ⟨sb, 39, none⟩ (.slice (some ⟨mb, 0, none⟩) (mn + L.length) mc)) ∧ Mem G' (L0 ++ L) := by
  obtain ⟨g, he, hr⟩ := h.am.isSome _ rfl
  cases he
  have hrow := Go.rowIs_setCells (i64s L) mn wr G hr
  have hR : Row (wr.setCells mb mn (i64s L)) 3 (some ⟨mb, 0, none⟩) (mn + L.length) mc (fun j => if mn ≤ j ∧ j < mn + (i64s L).length then (i64s L)[j - mn]?.getD default else G j) :=
    ⟨hroom, h.am.max, (fun h => by cases h), fun x hx => by cases hx; exact ⟨mb, rfl, hrow⟩⟩
  obtain ⟨h1, h2⟩ := h.newM hR (grownBy_setCells mb (i64s L) mn wr) (fun b hb => .inl hb)
  refine ⟨h1, _, h2, fun i x hi => ?_⟩
  rw [i64s_app] at hi
  by_cases hlt : i < L0.length
  · rw [List.getElem?_append_left (by rw [i64s_len]; exact hlt)] at hi
    simp only [show ¬ (mn ≤ i ∧ i < mn + (i64s L).length) by omega, if_false]
    exact hM i x hi
  · rw [List.getElem?_append_right (by rw [i64s_len]; omega), i64s_len] at hi
    have hl := (List.getElem?_eq_some_iff.1 hi).1
    have hb : mn ≤ i ∧ i < mn + (i64s L).length := ⟨by omega, by omega⟩
    simp only [hb, and_self, if_true]
    rw [hmn, hi]
    rfl

theorem Ph.run (h : Ph M w sb rfb fa fn fc F (some ⟨mb, 0, none⟩) mn mc G ca cn cc C wr) (sa : Option Addr) (sc : Nat) (L : List Int) (hs : SrcL wr sa L) (hroom : mn + L.length ≤ mc) (ty : TypeId) :
    (Builtin.append_ #[32, 32] ty #[.slice (some ⟨mb, 0, none⟩) mn mc, .slice sa L.length sc]).run Yba.prog wr = .ok (.slice (some ⟨mb, 0, none⟩) (mn + L.length) mc) (wr.setCells mb mn (i64s L)) := by
  obtain ⟨i3, hi, hz0, hz1, hz2⟩ := info_parts Yba.info3
  obtain ⟨g, he, hr⟩ := h.am.isSome _ rfl
  cases he
  have hsrc : Src Yba.prog i3.size 32 (.slice sa L.length sc) L.length (i64s L) wr := by
    rw [hz1]
    cases sa with
    | none =>
      have := hs.isNone rfl
      subst this
      exact Src.ofNil wr Yba.underlying32 sc
    | some x => exact Src.ofSlice wr Yba.underlying32 x L.length sc (i64s L) (by rw [i64s_len, Nat.mul_one]) (hs.isSome x rfl) (i64s_one L)
  have := run_append_room_src wr 32 32 ty 3 i3 Yba.underlying32 hi mb 0 mn mc (.slice sa L.length sc) L.length (i64s L) hsrc hroom
    (fun j hj => by rw [hz1, hr.cell (by rw [i64s_len] at hj; omega)]; rfl) (fun j hj => hr.frozen _)
  rw [hz1, Nat.mul_one, Nat.zero_add] at this
  exact this

/-- What follows the append. -/
def AppK (M : Nat → Prop) (w : World) (sb rfb : Nat) (fa : Option Addr) (fn fc : Nat) (F : Nat → Value) (mb mn mc : Nat) (ca : Option Addr) (cn cc : Nat) (C : Nat → Value) (L0 L : List Int) (k : World → Prop) : Prop :=
  ∀ w1 G', w1.cell? ⟨sb, 39, none⟩ = some (.slice (some ⟨mb, 0, none⟩) mn mc) → (∀ o, w1.frozen? ⟨sb, o, none⟩ = false) → sb < w1.heap.size →
    Hid (Ph M w sb rfb fa fn fc F (some ⟨mb, 0, none⟩) (mn + L.length) mc G' ca cn cc C (w1.setCell ⟨sb, 39, none⟩ (.slice (some ⟨mb, 0, none⟩) (mn + L.length) mc))) → Hid (Mem G' (L0 ++ L)) → k w1

theorem wp_app {o : Oper} {a : Act} {K : Act → World → Prop} {Q : Exit → Act → World → Prop} (s x : Operand) (hop : o.op = Op.call { callee := Callee.builtin Builtin.append, args := #[s, x], argTypes := #[32, 32] })
    (L0 L : List Int) (sa : Option Addr) (sc : Nat) (hs : a.eval s = .slice (some ⟨mb, 0, none⟩) mn mc) (hx : a.eval x = .slice sa L.length sc)
    (h : Ph M w sb rfb fa fn fc F (some ⟨mb, 0, none⟩) mn mc G ca cn cc C wr) (hsrc : SrcL wr sa L) (hM : Mem G L0) (hmn : mn = L0.length) (hroom : mn + L.length ≤ mc)
    (hK : AppK M w sb rfb fa fn fc F mb mn mc ca cn cc C L0 L fun w1 => K (a.put o.dst (.slice (some ⟨mb, 0, none⟩) (mn + L.length) mc)) w1) : o.wp Yba.prog a wr K Q := by
  have hr := h.run sa sc L hsrc hroom o.type
  obtain ⟨⟨h1, h2, h3⟩, G', h4, h5⟩ := h.app L0 L hM hmn hroom
  unfold Oper.wp execOp
  simp only [hop, resolve, invoke, builtin, Sem.run_bind, Sem.run_pure, Result.andThen_ok, List.map_toArray, List.map_cons, List.map_nil, hs, hx, hr]
  exact hK _ G' h1 h2 h3 h4 h5

theorem wpList_app {ops : Array Oper} {rest : List Oper} {o : Oper} {a : Act} {Q : Exit → Act → World → Prop} (hg : o.guard = none) (s x : Operand) (hop : o.op = Op.call { callee := Callee.builtin Builtin.append, args := #[s, x], argTypes := #[32, 32] })
    (L0 L : List Int) (sa : Option Addr) (sc : Nat) (hs : a.eval s = .slice (some ⟨mb, 0, none⟩) mn mc) (hx : a.eval x = .slice sa L.length sc)
    (h : Ph M w sb rfb fa fn fc F (some ⟨mb, 0, none⟩) mn mc G ca cn cc C wr) (hsrc : SrcL wr sa L) (hM : Mem G L0) (hmn : mn = L0.length) (hroom : mn + L.length ≤ mc)
    (hK : AppK M w sb rfb fa fn fc F mb mn mc ca cn cc C L0 L fun w1 => wpList Yba.prog ops Q rest (a.put o.dst (.slice (some ⟨mb, 0, none⟩) (mn + L.length) mc)) w1) : wpList Yba.prog ops Q (o :: rest) a wr :=
  wpList_plain hg fun _ hk => wp_app s x hop L0 L sa sc hs hx h hsrc hM hmn hroom (fun w1 G' a1 a2 a3 a4 a5 => hk _ _ (hK w1 G' a1 a2 a3 a4 a5))

theorem step_app {ops : Array Oper} {o : Oper} {a : Act} {K : Act → World → Prop} {Q : Exit → Act → World → Prop} {E : Prop} (hg : o.guard = none) (s x : Operand) (hop : o.op = Op.call { callee := Callee.builtin Builtin.append, args := #[s, x], argTypes := #[32, 32] })
    (L0 L : List Int) (sa : Option Addr) (sc : Nat) (hs : a.eval s = .slice (some ⟨mb, 0, none⟩) mn mc) (hx : a.eval x = .slice sa L.length sc)
    (h : Ph M w sb rfb fa fn fc F (some ⟨mb, 0, none⟩) mn mc G ca cn cc C wr) (hsrc : SrcL wr sa L) (hM : Mem G L0) (hmn : mn = L0.length) (hroom : mn + L.length ≤ mc)
    (hK : AppK M w sb rfb fa fn fc F mb mn mc ca cn cc C L0 L fun w1 => K (a.put o.dst (.slice (some ⟨mb, 0, none⟩) (mn + L.length) mc)) w1) :
    if Region.wanted o (yielded ops a.tmps) = true then Oper.wp Yba.prog o a wr K Q else E := by
  have hw : Region.wanted o (yielded ops a.tmps) = true := by simp [Region.wanted, hg]
  rw [if_pos hw]
  exact wp_app s x hop L0 L sa sc hs hx h hsrc hM hmn hroom hK
end

end Go.Proofs.Ybulkazoe
