import Derived.Test.YbulkazoeBig
import Derived.Test.YbulkazoeShelf
import Derived.Maps.AppendAt
namespace Go.Proofs.Ybulkazoe
open Go.RowKit
set_option linter.unusedVariables false

/-- What fixedArcs reads: the readsFrom at rfb. A: the forced arcs; S: the first successors; c: the classes. -/
structure Env (rd : Addr → Value → Prop) (rfb kb cb ab : Nat) (rt : Option Addr) (n : Nat) (c : Nat → Nat) (A S : Nat → List Int) : Prop where
  chains : rd ⟨rfb, 0, none⟩ (.slice (some ⟨cb, 0, none⟩) 3 3)
  reads : ∃ ra rc, rd ⟨rfb, 3, none⟩ (.slice ra n rc)
  rtp : rd ⟨rfb, 6, none⟩ (.pointer rt)
  forced : rd ⟨rfb, 7, none⟩ (.pointer (some ⟨kb, 0, none⟩))
  arcs : rd ⟨kb, 0, none⟩ (.slice (some ⟨ab, 0, none⟩) n n)
  chain : ∀ j, j < 3 → ∃ ca cc, rd ⟨cb, j, none⟩ (.slice ca (chn c j n).length cc) ∧ (0 < (chn c j n).length → ∃ g, ca = some ⟨g, 0, none⟩ ∧ ∀ k, k < (chn c j n).length → rd ⟨g, k, none⟩ (.int .i64 ((chn c j n).getD k 0 : Nat)))
  arc : ∀ u, u < n → ∃ aa ac, rd ⟨ab, u, none⟩ (.slice aa (A u).length ac) ∧ (aa = none → A u = []) ∧ ∀ x, aa = some x → ∀ k v, (i64s (A u))[k]? = some v → rd (x.add k) v
  span : SpanOk rd rt n S

theorem Env.mono {rd rd' : Addr → Value → Prop} {rfb kb cb ab : Nat} {rt : Option Addr} {n : Nat} {c : Nat → Nat} {A S : Nat → List Int} (h : Env rd rfb kb cb ab rt n c A S) (hm : ∀ a v, rd a v → rd' a v) : Env rd' rfb kb cb ab rt n c A S := by
  refine ⟨hm _ _ h.chains, ?_, hm _ _ h.rtp, hm _ _ h.forced, hm _ _ h.arcs, fun j hj => ?_, fun u hu => ?_, h.span.mono hm⟩
  · obtain ⟨ra, rc, h1⟩ := h.reads; exact ⟨ra, rc, hm _ _ h1⟩
  · obtain ⟨ca, cc, h1, h2⟩ := h.chain j hj
    refine ⟨ca, cc, hm _ _ h1, fun hp => ?_⟩
    obtain ⟨g, h3, h4⟩ := h2 hp
    exact ⟨g, h3, fun k hk => hm _ _ (h4 k hk)⟩
  · obtain ⟨aa, ac, h1, h2, h3⟩ := h.arc u hu
    exact ⟨aa, ac, hm _ _ h1, h2, fun x hx k v hk => hm _ _ (h3 x hx k v hk)⟩

/-- Read in w, outside of M. -/
def Rd (M : Nat → Prop) (w : World) (a : Addr) (v : Value) : Prop := w.cell? a = some v ∧ ¬ M a.block

theorem Rd.later {M : Nat → Prop} {w wr : World} {a : Addr} {v : Value} (h : Rd M w a v) (hk : Kp M w wr) : at' wr a v :=
  (World.cell?_of_block (hk.block a.block (World.block_lt_of_cell? _ _ h.1) h.2)).trans h.1

theorem Env.later {M : Nat → Prop} {w wr : World} {rfb kb cb ab : Nat} {rt : Option Addr} {n : Nat} {c : Nat → Nat} {A S : Nat → List Int} (h : Env (Rd M w) rfb kb cb ab rt n c A S) (hk : Kp M w wr) : Env (at' wr) rfb kb cb ab rt n c A S :=
  h.mono (fun a v h1 => h1.later hk)

/-! ### slices.Clone, at every slice -/
theorem own_shape {w : World} {base : Nat} {e : TypeId} {size : Nat} {v : Value} {n : Nat} {xs : List Value} (h : w.ownsRow base e size v n xs) : ∃ a c, v = .slice a n c := by
  rcases h.2 with ⟨rfl, rfl⟩ | ⟨g, cap, cur, rfl, _⟩
  · exact ⟨none, 0, rfl⟩
  · exact ⟨some ⟨g, 0, none⟩, cap, rfl⟩

def ClAns (L : List Int) (w : World) (e : Ending) (w' : World) : Prop := ∃ a c, e = .returned (.slice a L.length c) ∧ w'.ownsRow w.heap.size 3 1 (.slice a L.length c) L.length (i64s L) ∧ Below w.heap.size w w'

theorem clone_any (a : Option Addr) (b o n c : Nat) (f : Nat → Int) (w : World) (hn : n ≤ 4096) (ha : 0 < n → a = some ⟨b, o, none⟩) (hc : ∀ j, j < n → w.cell? ⟨b, o + j, none⟩ = some (.int .i64 (f j))) :
    Calls Yba.prog 14 #[.slice a n c] w fun e w' => ClAns ((List.range n).map f) w e w' := by
  have hlen : ((List.range n).map f).length = n := by simp
  by_cases h0 : n = 0
  · subst h0
    cases a with
    | none =>
      refine (Yba.slices_Clone_int_nil 0 c w).mono ?_
      rintro e w' ⟨rfl, rfl⟩
      exact ⟨none, 0, rfl, World.ownsRow_nil _ _ _ _, Below.refl _ _⟩
    | some x =>
      refine (Yba.slices_Clone_int_zero x c w).mono ?_
      rintro e w' ⟨v', rfl, hown, hnn, hbel⟩
      obtain ⟨a1, c1, hv⟩ := own_shape hown
      subst hv
      exact ⟨a1, c1, rfl, hown, hbel⟩
  · obtain rfl := ha (by omega)
    refine (Yba.slices_Clone_int b o n c ((List.range n).map f) w (by simp) (by omega) (fun j hj => ?_)).mono ?_
    · have hj' : j < n := by simpa using hj
      rw [hc j hj']
      simp [List.getD, hj']
    · rintro e w' ⟨v', rfl, hown, hnn, hbel⟩
      have hl : ((List.range n).map f).take n = (List.range n).map f := List.take_of_length_le (by simp)
      rw [hl] at hown
      obtain ⟨a1, c1, hv⟩ := own_shape hown
      subst hv
      exact ⟨a1, c1, by rw [hlen], by rw [hlen]; exact hown, hbel⟩

/-- The forced list of u. -/
def arcL (m : Nat) (FL : Nat → Nat) (FX : Nat → Nat → Int) (u : Nat) : List Int := if u < m then (List.range (FL u)).map (FX u) else []

end Go.Proofs.Ybulkazoe
