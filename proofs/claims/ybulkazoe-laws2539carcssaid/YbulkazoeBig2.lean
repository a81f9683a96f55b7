import Derived.Test.YbulkazoeBig
namespace Go.Proofs.Ybulkazoe
open Go.RowKit
set_option linter.unusedVariables false

def bigB (n m : Nat) (FL : Nat → Nat) : Bool := decide (¬ (n ≤ 1024 ∧ m ≤ 1024 ∧ sumTo FL m ≤ 4096))
theorem bigB_yes {n m : Nat} {FL : Nat → Nat} (h : ¬ (n ≤ 1024 ∧ m ≤ 1024 ∧ sumTo FL m ≤ 4096)) : true = bigB n m FL := by simp only [bigB, h, not_false_eq_true, decide_true]
theorem bigB_no {n m : Nat} {FL : Nat → Nat} (h : n ≤ 1024 ∧ m ≤ 1024 ∧ sumTo FL m ≤ 4096) : false = bigB n m FL := by simp [bigB, h]
theorem bigB_out {n m : Nat} {FL : Nat → Nat} (h : bigB n m FL = false) : n ≤ 1024 ∧ m ≤ 1024 ∧ sumTo FL m ≤ 4096 := by
  unfold bigB at h
  exact Decidable.not_not.1 (of_decide_eq_false h)

set_option maxHeartbeats 400000 in
set_option maxRecDepth 100000 in
theorem big_det (ta : Option Addr) (n tc : Nat) (a : Option Addr) (b o m c : Nat) (A : Nat → Option Addr) (FL FC ab ao : Nat → Nat) (FX : Nat → Nat → Int) (w : World) (hn : n ≤ maxLen) (hm : m ≤ maxLen) (hF : Frc w a b o m A FL FC ab ao FX) :
    Calls Yba.prog 10 #[.slice ta n tc, .slice a m c] w fun e w' => e = .returned (.bool (bigB n m FL)) ∧ w' = w := by
  unfold maxLen at hn hm
  have HF : Hid (Frc w a b o m A FL FC ab ao FX) := hF
  clear hF
  by_cases h1 : n ≤ 1024
  · by_cases h2 : m ≤ 1024
    · go_enter Yba.func10, Yba.ntmps10
      go_wp2
      go_loop [5, 6] (fun tt ii => ∃ i : Nat, ii = .int .i64 (i : Int) ∧ i ≤ m ∧ tt = .int .i64 (sumTo FL i : Int) ∧ sumTo FL i ≤ 4096) (fun _ ii => m - (intOf ii).toNat)
      case atStart => exact ⟨0, rfl, Nat.zero_le _, rfl, by simp [sumTo]⟩
      case round =>
        obtain ⟨i, rfl, hi, rfl, hs⟩ := hrel
        by_cases hlt : i < m
        · obtain rfl := HF.out.at_ (by omega)
          have hlt' : (i : Int) < (m : Int) := by omega
          have q0 := HF.out.rows i hlt
          have hl := HF.out.len i hlt
          have HS : Hid (sumTo FL (i + 1) = sumTo FL i + FL i) := rfl
          by_cases hb : sumTo FL i + FL i ≤ 4096
          · go_wp2
            go_round
            case rel => exact ⟨i + 1, by go_num, by omega, by rw [HS.out]; go_num, by rw [HS.out]; exact hb⟩
            case measure => simp [intOf]; omega
          · have hbig : Hid (true = bigB n m FL) := bigB_yes (fun h => by have := sumTo_mono FL hlt; have := HS.out; have := h.2.2; simp only [Nat.succ_eq_add_one] at *; omega)
            go_wp2
            go_ret
            exact ⟨congrArg (fun r => Ending.returned (.bool r)) hbig.out, rfl⟩
        · obtain rfl : i = m := by omega
          have hbig : Hid (false = bigB n i FL) := bigB_no ⟨h1, h2, hs⟩
          go_wp2
          go_ret
          exact ⟨congrArg (fun r => Ending.returned (.bool r)) hbig.out, rfl⟩
    · have hbig : Hid (true = bigB n m FL) := bigB_yes (fun h => h2 h.2.1)
      go_enter Yba.func10, Yba.ntmps10
      go_wp2
      go_ret
      exact ⟨congrArg (fun r => Ending.returned (.bool r)) hbig.out, rfl⟩
  · have hbig : Hid (true = bigB n m FL) := bigB_yes (fun h => h1 h.1)
    go_enter Yba.func10, Yba.ntmps10
    go_wp2
    go_ret
    exact ⟨congrArg (fun r => Ending.returned (.bool r)) hbig.out, rfl⟩

/-- The total of all arcs. -/
theorem tot_sum (m : Nat) (FL : Nat → Nat) (FX : Nat → Nat → Int) (S : Nat → List Int) (K : Nat) : ∀ k, (∀ u, u < k → (S u).length ≤ K) → totTo (fun u => if u < m then (List.range (FL u)).map (FX u) else []) S k ≤ sumTo FL (min k m) + k * (K + 1)
  | 0, _ => by simp [totTo]
  | k + 1, h => by
    have ih := tot_sum m FL FX S K k (fun u hu => h u (by omega))
    have hk := h k (by omega)
    simp only [totTo, Nat.add_mul]
    by_cases hkm : k < m
    · simp only [hkm, if_true, List.length_map, List.length_range]
      rw [show min (k + 1) m = k + 1 by omega]
      rw [show min k m = k by omega] at ih
      simp only [sumTo]
      rw [Nat.mul_add] at *
      omega
    · simp only [hkm, if_false, List.length_nil]
      rw [show min (k + 1) m = m by omega]
      rw [show min k m = m by omega] at ih
      rw [Nat.mul_add] at *
      omega

end Go.Proofs.Ybulkazoe
