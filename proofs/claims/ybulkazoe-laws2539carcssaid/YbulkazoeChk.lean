import Derived.Test.YbulkazoeBuild
import Derived.Deep.RegionLaw
import Derived.Deep.AppendSrc
import Derived.Deep.Upon
import Derived.Deep.DeepCutAuto
namespace Go.Proofs.Ybulkazoe
open Go.RowKit
set_option linter.unusedVariables false

/-- append onto a row of one's own, from whatever slice of ints. -/
theorem run_appo (w : World) (base : Nat) (v : Value) (n : Nat) (xs : List Value) (sa : Option Addr) (sc : Nat) (L : List Int) (ty : TypeId) (hown : w.ownsRow base 3 1 v n xs) (hs : SrcL w sa L) (hlen : n + L.length ≤ 100000) (hbase : base ≤ w.heap.size) :
    ∃ a1 c1 w', (Builtin.append_ #[32, 32] ty #[v, .slice sa L.length sc]).run Yba.prog w = .ok (.slice a1 (n + L.length) c1) w' ∧ w'.ownsRow base 3 1 (.slice a1 (n + L.length) c1) (n + L.length) (xs ++ i64s L) ∧ w.grownBy w' v.ownBlock := by
  obtain ⟨i3, hi, hz0, hz1, hz2⟩ := info_parts Yba.info3
  cases sa with
  | none =>
    have := hs.isNone rfl
    subst this
    obtain ⟨a, c, rfl⟩ := own_shape hown
    have hle : n ≤ c := by
      rcases hown.2 with ⟨h, rfl⟩ | ⟨g, cap, cur, h, _, _, h1, _⟩
      · exact Nat.zero_le _
      · cases h; exact h1
    refine ⟨a, c, w, run_append_nothing w 32 32 ty 3 i3 Yba.underlying32 hi a n c hle (.slice none 0 sc) (by rw [hz1]; exact Src.ofNil w Yba.underlying32 sc), ?_, World.grownBy.refl _ _⟩
    simpa [i64s] using hown
  | some ad =>
    obtain ⟨v', w', h1, h2, h3, _⟩ := run_append_own_at (P := Yba.prog) w base 32 ty 3 i3 (.int .i64 0) 1 8 Yba.underlying32 hi hz0 hz1 hz2 rfl (by decide) v n xs hown ad L.length sc (i64s L) (by rw [i64s_len, Nat.mul_one]) (hs.isSome ad rfl) (i64s_one L) (by unfold maxLen; omega) (by omega) hbase
    obtain ⟨a1, c1, rfl⟩ := own_shape h2
    exact ⟨a1, c1, w', h1, h2, h3⟩

section
variable {w0 wx : World} {B : Nat}

theorem wp_appo {o : Oper} {a : Act} {K : Act → World → Prop} {Q : Exit → Act → World → Prop} (s x : Operand) (hop : o.op = Op.call { callee := Callee.builtin Builtin.append, args := #[s, x], argTypes := #[32, 32] })
    (v : Value) (n : Nat) (xs : List Value) (L : List Int) (sa : Option Addr) (sc : Nat) (hs : a.eval s = v) (hx : a.eval x = .slice sa L.length sc)
    (hb : Below B w0 wx) (hB : B ≤ wx.heap.size) (hown : wx.ownsRow B 3 1 v n xs) (hsrc : SrcL wx sa L) (hlen : n + L.length ≤ 100000)
    (hK : ∀ a1 c1 w1, Hid (w1.ownsRow B 3 1 (.slice a1 (n + L.length) c1) (n + L.length) (xs ++ i64s L)) → Hid (Below B w0 w1) → B ≤ w1.heap.size → K (a.put o.dst (.slice a1 (n + L.length) c1)) w1) : o.wp Yba.prog a wx K Q := by
  obtain ⟨a1, c1, w1, hr, h1, h2⟩ := run_appo wx B v n xs sa sc L o.type hown hsrc hlen hB
  unfold Oper.wp execOp
  simp only [hop, resolve, invoke, builtin, Sem.run_bind, Sem.run_pure, Result.andThen_ok, List.map_toArray, List.map_cons, List.map_nil, hs, hx, hr]
  exact hK a1 c1 w1 h1 (below_of_grown hb h2 (fun b e => (hown.lt b e).1) hB) (Nat.le_trans hB h2.size)

theorem wpList_appo {ops : Array Oper} {rest : List Oper} {o : Oper} {a : Act} {Q : Exit → Act → World → Prop} (hg : o.guard = none) (s x : Operand) (hop : o.op = Op.call { callee := Callee.builtin Builtin.append, args := #[s, x], argTypes := #[32, 32] })
    (v : Value) (n : Nat) (xs : List Value) (L : List Int) (sa : Option Addr) (sc : Nat) (hs : a.eval s = v) (hx : a.eval x = .slice sa L.length sc)
    (hb : Below B w0 wx) (hB : B ≤ wx.heap.size) (hown : wx.ownsRow B 3 1 v n xs) (hsrc : SrcL wx sa L) (hlen : n + L.length ≤ 100000)
    (hK : ∀ a1 c1 w1, Hid (w1.ownsRow B 3 1 (.slice a1 (n + L.length) c1) (n + L.length) (xs ++ i64s L)) → Hid (Below B w0 w1) → B ≤ w1.heap.size → wpList Yba.prog ops Q rest (a.put o.dst (.slice a1 (n + L.length) c1)) w1) : wpList Yba.prog ops Q (o :: rest) a wx :=
  wpList_plain hg fun _ hk => wp_appo s x hop v n xs L sa sc hs hx hb hB hown hsrc hlen (fun a1 c1 w1 h1 h2 h3 => hk _ _ (hK a1 c1 w1 h1 h2 h3))

theorem step_appo {ops : Array Oper} {o : Oper} {a : Act} {K : Act → World → Prop} {Q : Exit → Act → World → Prop} {E : Prop} (hg : o.guard = none) (s x : Operand) (hop : o.op = Op.call { callee := Callee.builtin Builtin.append, args := #[s, x], argTypes := #[32, 32] })
    (v : Value) (n : Nat) (xs : List Value) (L : List Int) (sa : Option Addr) (sc : Nat) (hs : a.eval s = v) (hx : a.eval x = .slice sa L.length sc)
    (hb : Below B w0 wx) (hB : B ≤ wx.heap.size) (hown : wx.ownsRow B 3 1 v n xs) (hsrc : SrcL wx sa L) (hlen : n + L.length ≤ 100000)
    (hK : ∀ a1 c1 w1, Hid (w1.ownsRow B 3 1 (.slice a1 (n + L.length) c1) (n + L.length) (xs ++ i64s L)) → Hid (Below B w0 w1) → B ≤ w1.heap.size → K (a.put o.dst (.slice a1 (n + L.length) c1)) w1) :
    if Region.wanted o (yielded ops a.tmps) = true then Oper.wp Yba.prog o a wx K Q else E := by
  have hw : Region.wanted o (yielded ops a.tmps) = true := by simp [Region.wanted, hg]
  rw [if_pos hw]
  exact wp_appo s x hop v n xs L sa sc hs hx hb hB hown hsrc hlen hK
end

theorem SrcL.below {w w' : World} {a : Option Addr} {L : List Int} (h : SrcL w a L) (hb : Below w.heap.size w w') : SrcL w' a L :=
  ⟨h.isNone, fun x hx j v hj => (hb.cell (World.block_lt_of_cell? _ _ (h.isSome x hx j v hj))).trans (h.isSome x hx j v hj)⟩

theorem equal_any (ra : Option Addr) (rc : Nat) (a1 : Option Addr) (c1 : Nat) (L : List Int) (base : Nat) (w : World) (hlen : L.length ≤ 100000) (h1 : SrcL w ra L) (hl : ∀ x, ra = some x → 0 < L.length → ∃ b o, x = ⟨b, o, none⟩)
    (h2 : w.ownsRow base 3 1 (.slice a1 L.length c1) L.length (i64s L)) :
    Calls Yba.prog 20 #[.slice ra L.length rc, .slice a1 L.length c1] w fun e w' => e = .returned (.bool true) ∧ ∃ q, w' = w.drewN q := by
  by_cases h0 : L = []
  · subst h0
    refine (Yba.slices_Equal_int_empty ra a1 rc 0 c1 w (by omega)).mono ?_
    rintro e w' ⟨rfl, rfl⟩
    exact ⟨rfl, 0, rfl⟩
  · have hpos : 0 < L.length := List.length_pos_iff.2 h0
    obtain ⟨g, cap, hv, hg, _⟩ := h2.form hpos
    cases hv
    cases ra with
    | none => exact absurd (h1.isNone rfl) h0
    | some x =>
      obtain ⟨b, o, rfl⟩ := hl x rfl hpos
      refine (Yba.slices_Equal_int b o L.length rc g 0 L.length c1 L L w (Nat.le_refl _) (Nat.le_refl _) (by omega) (by omega) (fun j hj => ?_) (fun j hj => ?_)).mono ?_
      · have := h1.isSome _ rfl j _ (i64s_at L j hj)
        rw [Addr.add_lit] at this
        exact this
      · rw [Nat.zero_add, h2.cellAt j (by omega)]
        exact i64s_at L j hj
      · rintro e w' ⟨rfl, q, rfl⟩
        exact ⟨by simp, q, rfl⟩

/-- The result: list u lies where row u says. -/
structure ResL (w : World) (fa : Option Addr) (n : Nat) (E : Nat → List Int) : Prop where
  at_ : 0 < n → ∃ fb, fa = some ⟨fb, 0, none⟩ ∧ ∀ u, u < n → ∃ ra rc, w.cell? ⟨fb, u, none⟩ = some (.slice ra (E u).length rc) ∧ SrcL w ra (E u) ∧ ∀ x, ra = some x → 0 < (E u).length → ∃ b o, x = ⟨b, o, none⟩

theorem frc_src {w : World} {a : Option Addr} {b o m : Nat} {A : Nat → Option Addr} {FL FC ab ao : Nat → Nat} {FX : Nat → Nat → Int} (h : Frc w a b o m A FL FC ab ao FX) (r : Nat) (hr : r < m) : SrcL w (A r) (arcL m FL FX r) := by
  have he : arcL m FL FX r = (List.range (FL r)).map (FX r) := if_pos hr
  rw [he]
  refine ⟨fun h0 => ?_, fun x hx j v hj => ?_⟩
  · apply List.eq_nil_of_length_eq_zero
    rcases Nat.eq_zero_or_pos (FL r) with h1 | h1
    · simp [h1]
    · have := h.rat r hr h1; rw [h0] at this; cases this
  · have hj' : j < FL r := by
      have := (List.getElem?_eq_some_iff.1 hj).1
      simpa [i64s] using this
    have := h.rat r hr (by omega)
    rw [hx] at this
    cases this
    rw [Addr.add_lit, h.cells r j hr hj']
    simpa [i64s, hj'] using hj

end Go.Proofs.Ybulkazoe
