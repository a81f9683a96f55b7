import Derived.Test.YbulkazoeFixed
import Derived.Test.YbulkazoeChk
import Derived.Test.YbulkazoeBig2
namespace Go.Proofs.Ybulkazoe
open Go.RowKit
set_option linter.unusedVariables false

theorem below_kp {B : Nat} {M : Nat → Prop} {w w1 w2 : World} (h : Below B w w1) (hk : Kp M w1 w2) (hM : ∀ b, M b → B ≤ b) (hB : B ≤ w1.heap.size) : Below B w w2 :=
  ⟨hk.os.trans h.os, hk.tape.trans h.tape, hk.output.trans h.output, Nat.le_trans h.size hk.size, fun b hb => (hk.block b (Nat.lt_of_lt_of_le hb hB) (fun hm => by have := hM b hm; omega)).trans (h.block b hb)⟩

theorem arc_tot (n m : Nat) (FL : Nat → Nat) (FX : Nat → Nat → Int) (S : Nat → List Int) (hn : n ≤ 1024) (hs : sumTo FL m ≤ 4096) (hS : ∀ u, u < n → (S u).length ≤ n) : totTo (arcL m FL FX) S n ≤ 2000000 := by
  have h1 := tot_sum m FL FX S 1024 n (fun u hu => Nat.le_trans (hS u hu) hn)
  have h2 := sumTo_mono FL (Nat.min_le_right n m)
  have h3 : n * (1024 + 1) ≤ 1024 * 1025 := Nat.mul_le_mul_right 1025 hn
  show totTo (fun u => if u < m then (List.range (FL u)).map (FX u) else []) S n ≤ 2000000
  omega

/-- A search whose memory is used again. -/
def Again (B sb : Nat) (w : World) : Prop :=
  ∃ M W1 rfb fa fn fc F ma mn mc G ca cn cc C, Ph M W1 sb rfb fa fn fc F ma mn mc G ca cn cc C w ∧ (∀ b, M b → B ≤ b) ∧ B ≤ W1.heap.size

theorem Again.later {B sb : Nat} {w w' : World} (h : Again B sb w) (hb : Below w.heap.size w w') : Again B sb w' := by
  obtain ⟨M, W1, rfb, fa, fn, fc, F, ma, mn, mc, G, ca, cn, cc, C, hP, h1, h2⟩ := h
  exact ⟨M, W1, rfb, fa, fn, fc, F, ma, mn, mc, G, ca, cn, cc, C, hP.later (grownBy_below hb), h1, h2⟩

theorem Again.box {B sb : Nat} {w : World} (h : Again B sb w) : (∃ r, w.cell? ⟨sb, 0, none⟩ = some (.pointer r)) ∧ (∀ o, w.frozen? ⟨sb, o, none⟩ = false) ∧ sb < w.heap.size := by
  obtain ⟨M, W1, rfb, fa, fn, fc, F, ma, mn, mc, G, ca, cn, cc, C, hP, h1, h2⟩ := h
  obtain ⟨h0, _, _, _, h3, h4⟩ := hP.cells
  exact ⟨⟨_, h0⟩, h3, h4⟩

def FsRes (B sb : Nat) (w : World) (n : Nat) (E : Nat → List Int) (e : Ending) (w2 : World) : Prop :=
  ∃ fa fc, e = .returned (.slice fa n fc) ∧ ResL w2 fa n E ∧ Below B w w2 ∧ Again B sb w2

theorem res_of {M : Nat → Prop} {w w2 : World} {sb rfb n : Nat} {E : Nat → List Int} {e : Ending} (B : Nat) (w0 : World) (h : FxAns M w sb rfb n E e w2) (hb : Below B w0 w) (hM : ∀ b, M b → B ≤ b) (hB : B ≤ w.heap.size) : FsRes B sb w0 n E e w2 := by
  obtain ⟨fa, fc, F, ma, mn, mc, G, ca, cc, C, rfl, hP, hF⟩ := h
  refine ⟨fa, fc, rfl, ⟨fun hn => ?_⟩, below_kp hb hP.kp hM hB, ⟨M, w, rfb, fa, n, fc, F, ma, mn, mc, G, ca, n, cc, C, hP, hM, hB⟩⟩
  have hle := hP.fx.le
  obtain ⟨fb, hfa, hr⟩ := hP.fx.pos (by omega)
  refine ⟨fb, hfa, fun u hu => ?_⟩
  obtain ⟨ra, rc, h1, h2, h3⟩ := hF u hu
  exact ⟨ra, rc, by rw [hr.cell (by omega), h1], h2, h3⟩

/-- What build says of its result, in the world behind it. -/
def EnvOf (w w1 : World) (rfb kb cb ab : Nat) (rt : Option Addr) (n : Nat) (c : Nat → Nat) (A : Nat → List Int) : Prop :=
  ∀ (S : Nat → List Int) (rd : Addr → Value → Prop), (∀ a v, w1.cell? a = some v → w.heap.size ≤ a.block → rd a v) → SpanOk rd rt n S → Env rd rfb kb cb ab rt n c A S

theorem fix_first (w0 w w1 : World) (rfb kb cb ab : Nat) (rt : Option Addr) (n : Nat) (c : Nat → Nat) (A S : Nat → List Int) (X : Array Value) (hn : n ≤ 1024) (hc : ∀ u, c u < 3) (hT : totTo A S n ≤ 2000000)
    (hb0 : Below w0.heap.size w0 w) (hb : Below w.heap.size w w1) (hE : EnvOf w w1 rfb kb cb ab rt n c A) (hsp : SpanOk (at' w) rt n S)
    (hX : X.size = 49) (h0 : X[0]? = some (.pointer (some ⟨rfb, 0, none⟩))) (h38 : X[38]? = some (.slice none 0 0)) (h39 : X[39]? = some (.slice none 0 0)) (h40 : X[40]? = some (.slice none 0 0)) :
    Calls Yba.prog 12 #[.pointer (some ⟨w1.heap.size, 0, none⟩)] (w1.alloc (.cells X 58)) fun e w2 => FsRes w0.heap.size w1.heap.size w0 n (ex A S (nx c n)) e w2 := by
  have hs0 := hb0.size
  have hs1 := hb.size
  have hrow : (w1.alloc (.cells X 58)).rowIs w1.heap.size 58 49 (fun i => X[i]?.getD default) := by
    have := World.rowIs_alloc w1 X 58 (fun i => X[i]?.getD default) (fun i hi => by simp [Array.getElem?_eq_getElem hi])
    rw [hX] at this
    exact this
  have hP : Ph (fun x => x = w1.heap.size) (w1.alloc (.cells X 58)) w1.heap.size rfb none 0 0 (fun _ => default) none 0 0 (fun _ => default) none 0 0 (fun _ => default) (w1.alloc (.cells X 58)) :=
    ⟨Kp.refl _ _, ⟨_, hrow, by simp [h0], by simp [h38], by simp [h39], by simp [h40]⟩, Row.nil _ _ _, Row.nil _ _ _, Row.nil _ _ _, .inl rfl, (fun b e => by cases e), (fun b e => by cases e), (fun b e => by cases e), (fun b e => by cases e)⟩
  have hcell : ∀ a v, w1.cell? a = some v → Rd (fun x => x = w1.heap.size) (w1.alloc (.cells X 58)) a v := fun a v h => by
    have hlt := World.block_lt_of_cell? _ _ h
    refine ⟨?_, fun e => by rw [e] at hlt; exact Nat.lt_irrefl _ hlt⟩
    rw [World.cell?_of_block ((World.grownBy_alloc w1 (.cells X 58) none).block a.block hlt (by simp))]
    exact h
  have hE' : Env (Rd (fun x => x = w1.heap.size) (w1.alloc (.cells X 58))) rfb kb cb ab rt n c A S :=
    hE S _ (fun a v h _ => hcell a v h) (hsp.mono (fun a v h => hcell a v ((hb.cell (World.block_lt_of_cell? _ _ h)).trans h)))
  have hball : Below w0.heap.size w0 (w1.alloc (.cells X 58)) := (hb0.trans (hb.mono hs0)).alloc (by omega) _
  refine (fixed_any (fun x => x = w1.heap.size) w1.heap.size rfb kb cb ab rt n c A S none 0 0 (fun _ => default) none 0 0 (fun _ => default) none 0 0 (fun _ => default) (w1.alloc (.cells X 58)) hn hc hT hE' hP).mono ?_
  intro e w2 h
  exact res_of w0.heap.size w0 h hball (fun b hb => by subst hb; omega) hball.size

theorem fix_again (w0 w3 w4 : World) (sb rfb kb cb ab : Nat) (n : Nat) (c : Nat → Nat) (A : Nat → List Int) (hn : n ≤ 1024) (hc : ∀ u, c u < 3) (hT : totTo A (fun _ => []) n ≤ 2000000)
    (hb0 : Below w0.heap.size w0 w3) (hA : Again w0.heap.size sb w3) (hb : Below w3.heap.size w3 w4) (hE : EnvOf w3 w4 rfb kb cb ab none n c A) :
    Calls Yba.prog 12 #[.pointer (some ⟨sb, 0, none⟩)] (w4.setCell ⟨sb, 0, none⟩ (.pointer (some ⟨rfb, 0, none⟩))) fun e w2 => FsRes w0.heap.size sb w0 n (ex A (fun _ => []) (nx c n)) e w2 := by
  obtain ⟨M, W1, rfb0, fa, fn, fc, F, ma, mn, mc, G, ca, cn, cc, C, hP, hM, hW⟩ := hA
  have hs0 := hb0.size
  have hs1 := hb.size
  have hP4 := hP.later (grownBy_below hb)
  obtain ⟨S0, hbox, _, e38, e39, e40⟩ := hP4.box
  have hsb : sb < w3.heap.size := by obtain ⟨S3, hb3, _⟩ := hP.box; exact hb3.lt
  have hfree : ∀ b, Free M W1 b → w0.heap.size ≤ b := fun b h => by
    rcases h with h | h
    · exact hM b h
    · omega
  have hg := grownBy_setCell w4 sb 0 (.pointer (some ⟨rfb, 0, none⟩))
  obtain ⟨W5, hW5⟩ : ∃ W5, W5 = w4.setCell ⟨sb, 0, none⟩ (.pointer (some ⟨rfb, 0, none⟩)) := ⟨_, rfl⟩
  rw [← hW5] at hg ⊢
  have hbox5 : W5.rowIs sb 58 49 (fun j => if j = 0 then .pointer (some ⟨rfb, 0, none⟩) else S0 j) := by rw [hW5]; exact hbox.set 0 _
  obtain ⟨M2, hM2⟩ : ∃ M2 : Nat → Prop, M2 = fun x => x = sb ∨ blk fa = some x ∨ blk ma = some x ∨ blk ca = some x := ⟨_, rfl⟩
  have hlt3 : ∀ x, M2 x → x < w3.heap.size := fun x hx => by
    rw [hM2] at hx
    rcases hx with rfl | h | h | h
    · exact hsb
    · exact hP.fx.lt x h
    · exact hP.am.lt x h
    · exact hP.cr.lt x h
  have hge : ∀ x, M2 x → w0.heap.size ≤ x := fun x hx => by
    rw [hM2] at hx
    rcases hx with rfl | h | h | h
    · exact hfree _ hP.fs
    · exact hfree x (hP.ff x h)
    · exact hfree x (hP.fm x h)
    · exact hfree x (hP.fcn x h)
  have hPh : Ph M2 W5 sb rfb fa fn fc F ma mn mc G ca cn cc C W5 := by
    refine ⟨Kp.refl _ _, ⟨_, hbox5, by simp, by simpa using e38, by simpa using e39, by simpa using e40⟩, hP4.fx.grown hg (fun b h e => hP4.fx.ne_box hbox (by decide) b h (by simpa using e)), hP4.am.grown hg (fun b h e => hP4.am.ne_box hbox (by decide) b h (by simpa using e)), hP4.cr.grown hg (fun b h e => hP4.cr.ne_box hbox (by decide) b h (by simpa using e)), .inl ?_, fun b h => .inl ?_, fun b h => .inl ?_, fun b h => .inl ?_, hP.ne⟩
    · rw [hM2]; exact .inl rfl
    · rw [hM2]; exact .inr (.inl h)
    · rw [hM2]; exact .inr (.inr (.inl h))
    · rw [hM2]; exact .inr (.inr (.inr h))
  have hE' : Env (Rd M2 W5) rfb kb cb ab none n c A (fun _ => []) := hE (fun _ => []) _ (fun a v h h3 => by
    have hlt := World.block_lt_of_cell? _ _ h
    refine ⟨?_, fun hm => by have := hlt3 _ hm; omega⟩
    rw [World.cell?_of_block (hg.block a.block hlt (fun e => by injection e with e; omega))]
    exact h) (.inl ⟨rfl, fun _ _ => rfl⟩)
  have hball : Below w0.heap.size w0 W5 := below_of_grown (hb0.trans (hb.mono hs0)) hg (fun b e => by cases e; exact hfree _ hP.fs) (by omega)
  refine (fixed_any M2 sb rfb kb cb ab none n c A (fun _ => []) fa fn fc F ma mn mc G ca cn cc C W5 hn hc hT hE' hPh).mono ?_
  intro e w2 h
  exact res_of w0.heap.size w0 h hball hge hball.size

end Go.Proofs.Ybulkazoe
