import Derived.Test.YbulkazoeGrow
namespace Go.Proofs.Ybulkazoe
open Go.RowKit
set_option linter.unusedVariables false

/-- The tags: a slice of n bytes T j. -/
structure Tags (w : World) (a : Option Addr) (b o n : Nat) (T : Nat → Nat) : Prop where
  at_ : 0 < n → a = some ⟨b, o, none⟩
  cells : ∀ j, j < n → w.cell? ⟨b, o + j, none⟩ = some (.int .u8 (T j : Int))
  byte : ∀ j, j < n → T j ≤ 255

theorem Tags.later {w w' : World} {a : Option Addr} {b o n : Nat} {T : Nat → Nat} (h : Tags w a b o n T) (hb : Below w.heap.size w w') : Tags w' a b o n T :=
  ⟨h.at_, fun j hj => (hb.cell (World.block_lt_of_cell? _ _ (h.cells j hj))).trans (h.cells j hj), h.byte⟩

def cl (T : Nat → Nat) : Nat → Nat := fun u => T u % 3
theorem cl_lt (T : Nat → Nat) (u : Nat) : cl T u < 3 := Nat.mod_lt _ (by omega)

def NxAns (T : Nat → Nat) (n u : Nat) (w : World) (e : Ending) (w' : World) : Prop := e = .returned (.int .i64 (nx (cl T) n u)) ∧ w.grownBy w' none

theorem below_grown {w w' : World} (h : w.grownBy w' none) : Below w.heap.size w w' := ⟨h.os, h.tape, h.output, h.size, fun k hk => h.block k hk (by simp)⟩

set_option maxHeartbeats 400000 in
set_option maxRecDepth 100000 in
theorem next_any (a : Option Addr) (b o n c : Nat) (T : Nat → Nat) (u : Nat) (w : World) (hu : u < n) (hn : n ≤ 1024) (hT : Tags w a b o n T) :
    Calls Yba.prog 19 #[.slice a n c, .int .i64 (u : Int)] w fun e w' => NxAns T n u w e w' := by
  have HT : Hid (Tags w a b o n T) := hT
  clear hT
  obtain rfl := HT.out.at_ (by omega)
  go_enter Yba.func19, Yba.ntmps19
  go_wp2
  go_loopw [5] (fun ii wr => ∃ v : Nat, ii = .int .i64 (v : Int) ∧ u < v ∧ v ≤ n ∧ Hid (∀ x, u < x → x < v → cl T x ≠ cl T u) ∧ Hid (w.grownBy wr none)) (fun ii _ => n - (intOf ii).toNat)
  case atStart => exact ⟨u + 1, by go_num, by omega, by omega, (fun x h1 h2 => by omega), World.grownBy.refl _ _⟩
  case round =>
    obtain ⟨v, rfl, huv, hvn, HA, HG⟩ := hrel
    by_cases hlt : v < n
    · have hlt' : (v : Int) < (n : Int) := by omega
      have hu' : (u : Int) < (n : Int) := by omega
      have HT2 := HT.out.later (below_grown HG.out)
      have q0 := HT2.cells v hlt
      have q1 := HT2.cells u hu
      have b0 := HT2.byte v hlt
      have b1 := HT2.byte u hu
      clear HT2
      by_cases hc : T v % 3 = T u % 3
      · have hc' : ((T v : Int) % 3 == (T u : Int) % 3) = true := by rw [beq_iff_eq]; omega
        have HN : Hid (nx (cl T) n u = (v : Int)) := nx_some (cl T) n u v huv hlt hc (fun x h1 h2 => HA.out x h1 h2)
        clear hc
        go_wp2
        go_quiet (fail)
        go_wp2
        go_ret
        exact ⟨by rw [HN.out]; rfl, grownBy_trans HG.out (grownBy_drewN _ _ _)⟩
      · have hc' : ((T v : Int) % 3 == (T u : Int) % 3) = false := by rw [beq_eq_false_iff_ne]; omega
        have HB : Hid (∀ x, u < x → x < v + 1 → cl T x ≠ cl T u) := fun x h1 h2 => by
          rcases Nat.lt_or_ge x v with h3 | h3
          · exact HA.out x h1 h3
          · have : x = v := by omega
            subst this; exact hc
        clear hc
        go_wp2
        go_quiet (fail)
        go_wp2
        go_roundw
        case rel => exact ⟨v + 1, by go_num, by omega, by omega, HB, grownBy_trans HG.out (grownBy_drewN _ _ _)⟩
        case measure => simp [intOf]; omega
    · obtain rfl : v = n := by omega
      have HN : Hid (nx (cl T) v u = -1) := nx_none (cl T) v u (fun x h1 h2 => HA.out x h1 h2)
      go_wp2
      go_ret
      exact ⟨by rw [HN.out]; rfl, HG.out⟩

/-! ### The span order behind its pointer -/
structure SpanAt (rd : Addr → Value → Prop) (pb bb lb fb n : Nat) (LT FR : Nat → Nat) (BY : Nat → Int) : Prop where
  p1 : rd ⟨pb, 1, none⟩ (.slice (some ⟨bb, 0, none⟩) n n)
  p3 : rd ⟨pb, 3, none⟩ (.slice (some ⟨lb, 0, none⟩) n n)
  p5 : rd ⟨pb, 5, none⟩ (.slice (some ⟨fb, 0, none⟩) (n + 1) (n + 1))
  lt : ∀ u, u < n → rd ⟨lb, u, none⟩ (.int .i64 (LT u : Int)) ∧ LT u ≤ n
  fr : ∀ k, k ≤ n → rd ⟨fb, k, none⟩ (.int .i64 (FR k : Int)) ∧ k ≤ FR k ∧ FR k ≤ n
  by_ : ∀ k, k < n → rd ⟨bb, k, none⟩ (.int .i64 (BY k))

/-- Read in the world w. -/
def at' (w : World) (a : Addr) (v : Value) : Prop := w.cell? a = some v

theorem SpanAt.mono {rd rd' : Addr → Value → Prop} {pb bb lb fb n : Nat} {LT FR : Nat → Nat} {BY : Nat → Int} (h : SpanAt rd pb bb lb fb n LT FR BY) (hm : ∀ a v, rd a v → rd' a v) : SpanAt rd' pb bb lb fb n LT FR BY :=
  ⟨hm _ _ h.p1, hm _ _ h.p3, hm _ _ h.p5, fun u hu => ⟨hm _ _ (h.lt u hu).1, (h.lt u hu).2⟩, fun k hk => ⟨hm _ _ (h.fr k hk).1, (h.fr k hk).2⟩, fun k hk => hm _ _ (h.by_ k hk)⟩

def succs (LT FR : Nat → Nat) (BY : Nat → Int) (u : Nat) : List Int := (List.range (FR (LT u) - LT u)).map fun k => BY (LT u + k)

/-- Where a list of ints lies, for an append. -/
structure SrcL (w : World) (a : Option Addr) (L : List Int) : Prop where
  isNone : a = none → L = []
  isSome : ∀ x, a = some x → ∀ j v, (i64s L)[j]? = some v → w.cell? (x.add j) = some v

def FsAns (S : List Int) (w : World) (e : Ending) (w' : World) : Prop := ∃ a c, e = .returned (.slice a S.length c) ∧ SrcL w a S ∧ ∃ q, w' = w.drewN q

set_option maxHeartbeats 400000 in
theorem succ_nil (u : Nat) (w : World) : Calls Yba.prog 16 #[.pointer none, .int .i64 (u : Int)] w fun e w' => FsAns [] w e w' := by
  go_enter Yba.func16, Yba.ntmps16
  go_wp2
  go_ret
  exact ⟨none, 0, rfl, ⟨fun _ => rfl, fun x h => by cases h⟩, 0, rfl⟩

set_option maxHeartbeats 400000 in
set_option maxRecDepth 100000 in
theorem succ_at (pb bb lb fb n : Nat) (LT FR : Nat → Nat) (BY : Nat → Int) (u : Nat) (w : World) (hn : n ≤ 1024) (hu : u < n) (h : SpanAt (at' w) pb bb lb fb n LT FR BY) :
    Calls Yba.prog 16 #[.pointer (some ⟨pb, 0, none⟩), .int .i64 (u : Int)] w fun e w' => FsAns (succs LT FR BY u) w e w' := by
  have HS : Hid (SpanAt (at' w) pb bb lb fb n LT FR BY) := h
  have q1 : w.cell? ⟨pb, 1, none⟩ = some (.slice (some ⟨bb, 0, none⟩) n n) := h.p1
  have q3 : w.cell? ⟨pb, 3, none⟩ = some (.slice (some ⟨lb, 0, none⟩) n n) := h.p3
  have q5 : w.cell? ⟨pb, 5, none⟩ = some (.slice (some ⟨fb, 0, none⟩) (n + 1) (n + 1)) := h.p5
  have l1 : w.cell? ⟨lb, u, none⟩ = some (.int .i64 (LT u : Int)) := (h.lt u hu).1
  have l2 := (h.lt u hu).2
  have f1 : w.cell? ⟨fb, LT u, none⟩ = some (.int .i64 (FR (LT u) : Int)) := (h.fr (LT u) l2).1
  have f2 := (h.fr (LT u) l2).2.1
  have f3 := (h.fr (LT u) l2).2.2
  clear h
  have hu' : (u : Int) < (n : Int) := by omega
  have i1 : (LT u : Int) < (n : Int) + 1 := by omega
  have i2 : (LT u : Int) ≤ (FR (LT u) : Int) := by omega
  have i3 : (FR (LT u) : Int) ≤ (n : Int) := by omega
  have HF : Hid (∀ (a : Option Addr) (m c : Nat) (w' : World), m = FR (LT u) - LT u → (∃ q, w' = w.drewN q) → (0 < m → a = some ⟨bb, LT u, none⟩) → (a = none → m = 0) → FsAns (succs LT FR BY u) w (.returned (.slice a m c)) w') := by
    intro a m c w' hm hq ha hno
    have hlen : (succs LT FR BY u).length = m := by rw [hm]; simp [succs]
    refine ⟨a, c, by rw [hlen], ⟨fun h => List.eq_nil_of_length_eq_zero (by rw [hlen]; exact hno h), fun x hx j v hj => ?_⟩, hq⟩
    have hjm : j < m := by
      have := (List.getElem?_eq_some_iff.1 hj).1
      rw [i64s_len, hlen] at this
      exact this
    have := ha (by omega)
    rw [hx] at this
    cases this
    rw [Addr.add_lit, show w.cell? ⟨bb, LT u + j, none⟩ = some (.int .i64 (BY (LT u + j))) from HS.out.by_ (LT u + j) (by omega)]
    rw [i64s_at _ _ (by rw [hlen]; exact hjm)] at hj
    rw [← hj]
    simp [succs, List.getD, hm ▸ hjm]
  go_enter Yba.func16, Yba.ntmps16
  go_wp2
  go_quiet (fail)
  go_wp2
  all_goals
    go_ret
    exact HF.out _ _ _ _ rfl ⟨_, rfl⟩ (fun h => by first | (exfalso; omega) | rfl) (fun h => by cases h)

/-- No span order, or one; S u: the first successors of u. -/
def SpanOk (rd : Addr → Value → Prop) (rt : Option Addr) (n : Nat) (S : Nat → List Int) : Prop :=
  (rt = none ∧ ∀ u, u < n → S u = []) ∨ ∃ pb bb lb fb LT FR BY, rt = some ⟨pb, 0, none⟩ ∧ SpanAt rd pb bb lb fb n LT FR BY ∧ ∀ u, u < n → S u = succs LT FR BY u

theorem SpanOk.mono {rd rd' : Addr → Value → Prop} {rt : Option Addr} {n : Nat} {S : Nat → List Int} (h : SpanOk rd rt n S) (hm : ∀ a v, rd a v → rd' a v) : SpanOk rd' rt n S := by
  rcases h with h | ⟨pb, bb, lb, fb, LT, FR, BY, h1, h2, h3⟩
  · exact .inl h
  · exact .inr ⟨pb, bb, lb, fb, LT, FR, BY, h1, h2.mono hm, h3⟩

theorem SpanOk.len {rd : Addr → Value → Prop} {rt : Option Addr} {n : Nat} {S : Nat → List Int} (h : SpanOk rd rt n S) (u : Nat) (hu : u < n) : (S u).length ≤ n := by
  rcases h with ⟨_, h⟩ | ⟨pb, bb, lb, fb, LT, FR, BY, _, h2, h3⟩
  · rw [h u hu]; simp
  · rw [h3 u hu]
    have := (h2.lt u hu).2
    have := (h2.fr (LT u) this).2.2
    simp [succs]; omega

theorem succ_any (rt : Option Addr) (n : Nat) (S : Nat → List Int) (u : Nat) (w : World) (hn : n ≤ 1024) (hu : u < n) (h : SpanOk (at' w) rt n S) :
    Calls Yba.prog 16 #[.pointer rt, .int .i64 (u : Int)] w fun e w' => FsAns (S u) w e w' := by
  rcases h with ⟨rfl, h⟩ | ⟨pb, bb, lb, fb, LT, FR, BY, rfl, h2, h3⟩
  · rw [h u hu]; exact succ_nil u w
  · rw [h3 u hu]; exact succ_at pb bb lb fb n LT FR BY u w hn hu h2

set_option maxHeartbeats 400000 in
theorem succ_nil' (u : Nat) (w : World) : Calls Yba.prog 16 #[.pointer none, .int .i64 (u : Int)] w fun e w' => e = .returned (.slice none 0 0) ∧ ∃ q, w' = w.drewN q := by
  go_enter Yba.func16, Yba.ntmps16
  go_wp2
  go_ret
  exact ⟨rfl, 0, rfl⟩

set_option maxHeartbeats 400000 in
set_option maxRecDepth 100000 in
theorem succ_at' (pb bb lb fb n : Nat) (LT FR : Nat → Nat) (BY : Nat → Int) (u : Nat) (w : World) (hn : n ≤ 1024) (hu : u < n) (h : SpanAt (at' w) pb bb lb fb n LT FR BY) :
    Calls Yba.prog 16 #[.pointer (some ⟨pb, 0, none⟩), .int .i64 (u : Int)] w fun e w' => e = .returned (.slice (if n = LT u then some ⟨bb, 0, none⟩ else some ⟨bb, LT u, none⟩) (FR (LT u) - LT u) (n - LT u)) ∧ ∃ q, w' = w.drewN q := by
  have q1 : w.cell? ⟨pb, 1, none⟩ = some (.slice (some ⟨bb, 0, none⟩) n n) := h.p1
  have q3 : w.cell? ⟨pb, 3, none⟩ = some (.slice (some ⟨lb, 0, none⟩) n n) := h.p3
  have q5 : w.cell? ⟨pb, 5, none⟩ = some (.slice (some ⟨fb, 0, none⟩) (n + 1) (n + 1)) := h.p5
  have l1 : w.cell? ⟨lb, u, none⟩ = some (.int .i64 (LT u : Int)) := (h.lt u hu).1
  have l2 := (h.lt u hu).2
  have f1 : w.cell? ⟨fb, LT u, none⟩ = some (.int .i64 (FR (LT u) : Int)) := (h.fr (LT u) l2).1
  have f2 := (h.fr (LT u) l2).2.1
  have f3 := (h.fr (LT u) l2).2.2
  clear h
  have hu' : (u : Int) < (n : Int) := by omega
  have i1 : (LT u : Int) < (n : Int) + 1 := by omega
  have i2 : (LT u : Int) ≤ (FR (LT u) : Int) := by omega
  have i3 : (FR (LT u) : Int) ≤ (n : Int) := by omega
  go_enter Yba.func16, Yba.ntmps16
  go_wp2
  go_quiet (fail)
  go_wp2
  all_goals
    go_ret
    exact ⟨rfl, _, rfl⟩

/-- firstSucc, its value fixed ahead of the call. -/
theorem succ_det (rt : Option Addr) (n : Nat) (S : Nat → List Int) (u : Nat) (w : World) (hn : n ≤ 1024) (hu : u < n) (h : SpanOk (at' w) rt n S) :
    ∃ a c, SrcL w a (S u) ∧ ∀ w', (∀ x v, w.cell? x = some v → w'.cell? x = some v) → Calls Yba.prog 16 #[.pointer rt, .int .i64 (u : Int)] w' fun e w'' => e = .returned (.slice a (S u).length c) ∧ ∃ q, w'' = w'.drewN q := by
  rcases h with ⟨rfl, h⟩ | ⟨pb, bb, lb, fb, LT, FR, BY, rfl, h2, h3⟩
  · rw [h u hu]
    exact ⟨none, 0, ⟨fun _ => rfl, fun x h => by cases h⟩, fun w' _ => succ_nil' u w'⟩
  · rw [h3 u hu]
    have l2 := (h2.lt u hu).2
    have f2 := (h2.fr (LT u) l2).2.1
    have f3 := (h2.fr (LT u) l2).2.2
    have hlen : (succs LT FR BY u).length = FR (LT u) - LT u := by simp [succs]
    refine ⟨if n = LT u then some ⟨bb, 0, none⟩ else some ⟨bb, LT u, none⟩, n - LT u, ⟨(fun h => by split at h <;> cases h), fun x hx j v hj => ?_⟩, fun w' hw' => ?_⟩
    · have hjm : j < FR (LT u) - LT u := by
        have := (List.getElem?_eq_some_iff.1 hj).1
        rw [i64s_len, hlen] at this
        exact this
      rw [if_neg (by omega)] at hx
      cases hx
      rw [Addr.add_lit, show w.cell? ⟨bb, LT u + j, none⟩ = some (.int .i64 (BY (LT u + j))) from h2.by_ (LT u + j) (by omega)]
      rw [i64s_at _ _ (by rw [hlen]; exact hjm)] at hj
      rw [← hj]
      simp [succs, List.getD, hjm]
    · rw [hlen]
      exact succ_at' pb bb lb fb n LT FR BY u w' hn hu (h2.mono (fun a v h => hw' a v h))

end Go.Proofs.Ybulkazoe
