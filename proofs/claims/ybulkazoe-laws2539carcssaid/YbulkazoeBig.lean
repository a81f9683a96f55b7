import Derived.Test.YbulkazoeNext
namespace Go.Proofs.Ybulkazoe
open Go.RowKit
set_option linter.unusedVariables false

/-- The forced lists: row r is a slice of FL r ints FX r k. -/
structure Frc (w : World) (a : Option Addr) (b o m : Nat) (A : Nat → Option Addr) (FL FC ab ao : Nat → Nat) (FX : Nat → Nat → Int) : Prop where
  at_ : 0 < m → a = some ⟨b, o, none⟩
  rows : ∀ r, r < m → w.cell? ⟨b, o + r, none⟩ = some (.slice (A r) (FL r) (FC r))
  len : ∀ r, r < m → FL r ≤ 17592186044416
  rat : ∀ r, r < m → 0 < FL r → A r = some ⟨ab r, ao r, none⟩
  cells : ∀ r k, r < m → k < FL r → w.cell? ⟨ab r, ao r + k, none⟩ = some (.int .i64 (FX r k))

theorem Frc.later {w w' : World} {a : Option Addr} {b o m : Nat} {A : Nat → Option Addr} {FL FC ab ao : Nat → Nat} {FX : Nat → Nat → Int} (h : Frc w a b o m A FL FC ab ao FX) (hb : Below w.heap.size w w') : Frc w' a b o m A FL FC ab ao FX :=
  ⟨h.at_, fun r hr => (hb.cell (World.block_lt_of_cell? _ _ (h.rows r hr))).trans (h.rows r hr), h.len, h.rat, fun r k hr hk => (hb.cell (World.block_lt_of_cell? _ _ (h.cells r k hr hk))).trans (h.cells r k hr hk)⟩

def sumTo (f : Nat → Nat) : Nat → Nat
  | 0 => 0
  | k + 1 => sumTo f k + f k
theorem sumTo_mono (f : Nat → Nat) {a b : Nat} (h : a ≤ b) : sumTo f a ≤ sumTo f b := by
  induction b with
  | zero => have : a = 0 := by omega
            subst this; exact Nat.le_refl _
  | succ b ih =>
    rcases Nat.lt_or_ge a (b + 1) with h' | h'
    · have := ih (by omega); simp only [sumTo]; omega
    · have : a = b + 1 := by omega
      subst this; exact Nat.le_refl _
theorem le_sumTo (f : Nat → Nat) {a b : Nat} (h : a < b) : f a ≤ sumTo f b := by
  have := sumTo_mono f (show a + 1 ≤ b by omega)
  simp only [sumTo] at this; omega

def BigAns (n m : Nat) (FL : Nat → Nat) (w : World) (e : Ending) (w' : World) : Prop :=
  ∃ r, e = .returned (.bool r) ∧ w' = w ∧ (r = false → n ≤ 1024 ∧ m ≤ 1024 ∧ sumTo FL m ≤ 4096)

set_option maxHeartbeats 400000 in
set_option maxRecDepth 100000 in
theorem big_any (ta : Option Addr) (n tc : Nat) (a : Option Addr) (b o m c : Nat) (A : Nat → Option Addr) (FL FC ab ao : Nat → Nat) (FX : Nat → Nat → Int) (w : World) (hn : n ≤ maxLen) (hm : m ≤ maxLen) (hF : Frc w a b o m A FL FC ab ao FX) :
    Calls Yba.prog 10 #[.slice ta n tc, .slice a m c] w fun e w' => BigAns n m FL w e w' := by
  unfold maxLen at hn hm
  have HF : Hid (Frc w a b o m A FL FC ab ao FX) := hF
  clear hF
  by_cases h1 : n ≤ 1024
  · by_cases h2 : m ≤ 1024
    · go_enter Yba.func10, Yba.ntmps10
      go_wp2
      go_loop [5, 6] (fun tt ii => ∃ i : Nat, ii = .int .i64 (i : Int) ∧ i ≤ m ∧ tt = .int .i64 (sumTo FL i : Int) ∧ sumTo FL i ≤ 4096) (fun _ ii => m - (intOf ii).toNat)
      case atStart => exact ⟨0, rfl, Nat.zero_le _, rfl, by simp [sumTo]⟩
      case round =>
        obtain ⟨i, rfl, hi, rfl, hs⟩ := hrel
        by_cases hlt : i < m
        · obtain rfl := HF.out.at_ (by omega)
          have hlt' : (i : Int) < (m : Int) := by omega
          have q0 := HF.out.rows i hlt
          have hl := HF.out.len i hlt
          have HS : Hid (sumTo FL (i + 1) = sumTo FL i + FL i) := rfl
          by_cases hb : sumTo FL i + FL i ≤ 4096
          · go_wp2
            go_round
            case rel => exact ⟨i + 1, by go_num, by omega, by rw [HS.out]; go_num, by rw [HS.out]; exact hb⟩
            case measure => simp [intOf]; omega
          · go_wp2
            go_ret
            exact ⟨true, rfl, rfl, fun h => by cases h⟩
        · obtain rfl : i = m := by omega
          go_wp2
          go_ret
          exact ⟨false, rfl, rfl, fun _ => ⟨h1, h2, hs⟩⟩
    · go_enter Yba.func10, Yba.ntmps10
      go_wp2
      go_ret
      exact ⟨true, rfl, rfl, fun h => by cases h⟩
  · go_enter Yba.func10, Yba.ntmps10
    go_wp2
    go_ret
    exact ⟨true, rfl, rfl, fun h => by cases h⟩

end Go.Proofs.Ybulkazoe
