import Derived.Test.YbulkazpgBuild
namespace Go.Proofs.Ybulkazpg
open Go.RowKit
set_option linter.unusedVariables false

theorem Raw.keep {w w' : World} {rb ro n : Nat} {A : Nat → Option Addr} {L C ab ao : Nat → Nat} {X : Nat → Nat → Nat} (h : Raw w rb ro n A L C ab ao X) (hb : Below w.heap.size w w') : Raw w' rb ro n A L C ab ao X :=
  ⟨fun r hr => (hb.cell (World.block_lt_of_cell? _ _ (h.rows r hr))).trans (h.rows r hr), h.len, h.at_, fun r k hr hk => (hb.cell (World.block_lt_of_cell? _ _ (h.cells r k hr hk))).trans (h.cells r k hr hk), h.byte⟩

theorem ans_eq {n : Nat} {L : Nat → Nat} {E : Nat → Nat → Nat} {b1 b2 : Bool} (h1 : b1 = true ↔ ∀ i, i < n → Rch n L E i) (h2 : b2 = true ↔ ∀ i, i < n → Rch n L E i) : (b1 == b2) = true := by
  have : b1 = true ↔ b2 = true := h1.trans h2.symm
  cases b1 <;> cases b2 <;> simp_all

set_option maxHeartbeats 400000 in
theorem law4 (a : Option Addr) (rb ro n c : Nat) (A : Nat → Option Addr) (L C ab ao : Nat → Nat) (X : Nat → Nat → Nat) (w : World) (hn : n ≤ maxLen) (ha : 0 < n → a = some ⟨rb, ro, none⟩) (hR : Raw w rb ro n A L C ab ao X) :
    Calls Yba.prog 4 #[.slice a n c] w fun e w' => e = .returned (.bool true) ∧ Below w.heap.size w w' := by
  have HR : Hid (Raw w rb ro n A L C ab ao X) := hR
  clear hR
  go_enter Yba.func4, Yba.ntmps4
  go_wp2_with fail
  refine (ok_any a rb ro n c A L C ab ao X w hn ha HR.out).mono ?_
  rintro e w0 ⟨b, rfl, hw0, hb⟩
  subst hw0
  cases b with
  | false =>
    go_wp2
    go_ret
    exact ⟨rfl, Below.refl _ _⟩
  | true =>
    obtain ⟨hn0, hn1, hL⟩ := hb rfl
    obtain rfl := ha hn0
    have HE : Hid (∀ i k, i < n → k < L i → X i k % n < n) := fun i k _ _ => Nat.mod_lt _ hn0
    go_wp2_with fail
    refine (build_any rb ro n c A L C ab ao X _ hn0 hn1 hL HR.out).mono ?_
    rintro e w1 ⟨pb, Rb, rfl, hM1, hb1⟩
    go_wp2_with fail
    refine (conn_any pb n Rb L (fun r k => X r k % n) w1 hn0 hn1 hL HE.out hM1).mono ?_
    rintro e w2 ⟨b2, rfl, hc2, hb2⟩
    have hb12 := hb1.trans (hb2.mono hb1.size)
    clear hb1 hb2 hM1
    have HC2 : Hid (b2 = true ↔ ∀ i, i < n → Rch n L (fun r k => X r k % n) i) := hc2
    clear hc2
    go_wp2_with fail
    refine (build_any rb ro n c A L C ab ao X _ hn0 hn1 hL (HR.out.keep hb12)).mono ?_
    rintro e w3 ⟨pb3, Rb3, rfl, hM3, hb3⟩
    have hb13 := hb12.trans (hb3.mono hb12.size)
    clear hb12 hb3
    go_wp2_with fail
    refine (relax_any pb3 n Rb3 L (fun r k => X r k % n) w3 hn0 hn1 hL HE.out hM3).mono ?_
    rintro e w4 ⟨b4, rfl, hc4, hb4⟩
    have hb14 := hb13.trans (hb4.mono hb13.size)
    have HA : Hid ((b2 == b4) = true) := ans_eq HC2.out hc4
    clear hb13 hb4 hM3 hc4 HC2
    go_wp2
    go_ret
    have he := HA.out
    exact ⟨by rw [← he]; rfl, hb14⟩

end Go.Proofs.Ybulkazpg
