import Derived.Test.YbulkazncBuild
import Derived.Deep.RegionWith
import Derived.Deep.CutRange
import Derived.Deep.DeepCutAuto
import Derived.Deep.DeepMust
namespace Go.Proofs.Ybulkaznc
open Go.RowKit
set_option linter.unusedVariables false

theorem own_below {w w' : World} {base : Nat} {e : TypeId} {size : Nat} {v : Value} {n : Nat} {xs : List Value} (h : w.ownsRow base e size v n xs) (hb : Below w.heap.size w w') : w'.ownsRow base e size v n xs :=
  h.kept (row := none) ⟨hb.os, hb.tape, hb.output, hb.size, fun k hk _ => hb.block k hk⟩ (by cases hv : v.ownBlock <;> simp)

theorem round_keep {w wr w3 : World} {n0 g k c b : Nat} {t : ByteArray} {xs : List Value} (q0 : wr.cell? ⟨b, 0, none⟩ = some (.string t)) (q1 : wr.cell? ⟨b, 1, none⟩ = some (.slice (some ⟨g, 0, none⟩) k c))
    (ho : wr.ownsRow w.heap.size 3 1 (.slice (some ⟨g, 0, none⟩) k c) k xs) (hb : Below w.heap.size w wr) (hz : n0 + 1 ≤ wr.heap.size) (h3' : Below wr.drew.heap.size wr.drew w3) :
    w3.cell? ⟨b, 0, none⟩ = some (.string t) ∧ w3.cell? ⟨b, 1, none⟩ = some (.slice (some ⟨g, 0, none⟩) k c) ∧ w3.ownsRow w.heap.size 3 1 (.slice (some ⟨g, 0, none⟩) k c) k xs ∧ Below w.heap.size w w3 ∧ n0 + 1 ≤ w3.heap.size := by
  have h3 : Below wr.heap.size wr w3 := ((Below.refl wr.heap.size wr).drew).trans h3'
  have hbs := World.block_lt_of_cell? _ _ q0
  have hbs1 := World.block_lt_of_cell? _ _ q1
  exact ⟨(h3.cell hbs).trans q0, (h3.cell hbs1).trans q1, own_below ho h3, hb.trans (h3.mono hb.size), Nat.le_trans hz h3.size⟩

/-- The contract of 'term' at an index in range, over what 'build' lays. -/
theorem term_built (S : Nat → ByteArray) (g n c i base : Nat) (w : World) (hin : i < n) (hn : n ≤ 1024) (hS : ∀ j, j < n → (S j).size ≤ 4096)
    (hown : w.ownsRow base 3 1 (.slice (some ⟨g, 0, none⟩) n c) n (endsTo S n)) :
    Calls Yba.prog 7 #[.agg #[.string (textOf S n), .slice (some ⟨g, 0, none⟩) n c], .int .i64 i] w fun e w' => e = .returned (.string (S i)) ∧ Below w.heap.size w w' := by
  have hg : g < w.heap.size := (hown.lt g rfl).2
  have hcell : ∀ j, j < n → w.cell? ⟨g, j, none⟩ = some (.int .i64 (lenTo S (j + 1))) := by
    intro j hj
    rw [hown.cellAt j (by omega)]
    simp [endsTo, hj]
  have hb := lenTo_bound S n hS n (Nat.le_refl _)
  have hts := textOf_size S n
  cases i with
  | zero =>
    refine (term_zero (textOf S n) g n c (lenTo S 1) w hin (by omega) (hcell 0 hin) hg (by rw [hts]; exact lenTo_mono S hin) (by omega)).mono ?_
    rintro e w' ⟨rfl, h⟩
    exact ⟨by rw [← text_extract S n 0 hin]; rfl, h⟩
  | succ i =>
    refine (term_succ (textOf S n) g n c i (lenTo S (i + 1)) (lenTo S (i + 2)) w hin (by omega) (hcell i (by omega)) (hcell (i + 1) hin) hg (lenTo_mono S (by omega)) (by rw [hts]; exact lenTo_mono S hin) (by omega)).mono ?_
    rintro e w' ⟨rfl, h⟩
    exact ⟨by rw [← text_extract S n (i + 1) hin], h⟩


set_option maxHeartbeats 1000000 in
theorem round_walk (xa : Option Addr) (xb xo xl xc : Nat) (S : Nat → ByteArray) (w : World) (hxa : 0 < xl → xa = some ⟨xb, xo, none⟩) (hm : xl ≤ maxLen) (hSm : ∀ j, j < xl → (S j).size ≤ maxLen) (hy : ∀ j, j < xl → w.cell? ⟨xb, xo + j, none⟩ = some (.string (S j))) :
    Calls Yba.prog 3 #[.slice xa xl xc] w fun e w' => e = .returned (.bool true) ∧ Below w.heap.size w w' := by
  unfold maxLen at hm
  by_cases hbig : xl ≤ 1024
  · go_enter Yba.func3, Yba.ntmps3
    go_wp2
    go_loop [12] (fun i => ∃ k : Nat, k ≤ xl ∧ i = .int .i64 k ∧ ∀ j, j < k → (S j).size ≤ 4096) (fun i => xl - (intOf i).toNat)
    case atStart => exact ⟨0, Nat.zero_le _, rfl, fun j hj => by omega⟩
    case round =>
      obtain ⟨k, hk, rfl, hS⟩ := hrel
      by_cases hlt : k < xl
      · obtain rfl := hxa (by omega)
        have hcx := hy k hlt
        have hSk := hSm k hlt
        unfold maxLen at hSk
        have hlt' : (k : Int) < (xl : Int) := by omega
        by_cases hs : (S k).size ≤ 4096
        · go_wp2
          go_round
          case rel => exact ⟨k + 1, by omega, by go_num, fun j hj => by
            rcases Nat.lt_or_ge j k with h | h
            · exact hS j h
            · obtain rfl : j = k := by omega
              exact hs⟩
          case measure => simp [intOf]; omega
        · go_wp2
          go_ret
          exact ⟨rfl, Below.refl _ _⟩
      · obtain rfl : k = xl := by omega
        go_wp2_with fail
        refine (build_any xa xb xo k xc S w hxa hbig hS hy).mono ?_
        rintro e w1 ⟨g, c, rfl, hown, hbel⟩
        have hsz := hbel.size
        go_wp2_with fail
        refine (len_any _ _ _ _ _).mono ?_
        rintro e w2 ⟨rfl, hbel2⟩
        have hz2 : (w1.alloc (.cells #[.string (textOf S k), .slice (some ⟨g, 0, none⟩) k c] 25)).heap.size ≤ w2.heap.size := hbel2.size
        have q0 : w2.cell? ⟨w1.heap.size, 0, none⟩ = some (.string (textOf S k)) := (hbel2.cell (by simp)).trans (by simp)
        have q1 : w2.cell? ⟨w1.heap.size, 1, none⟩ = some (.slice (some ⟨g, 0, none⟩) k c) := (hbel2.cell (by simp)).trans (by simp)
        have hown2 : w2.ownsRow w.heap.size 3 1 (.slice (some ⟨g, 0, none⟩) k c) k (endsTo S k) := own_below (hown.alloc _) hbel2
        have hbw : Below w.heap.size w w2 := (hbel.alloc hsz _).trans (hbel2.mono (by simp; omega))
        simp at hz2
        clear hbel2 hown hbel
        go_wp2_with fail
        go_loopw [6] (fun i wr => ∃ m : Nat, m ≤ k ∧ i = .int .i64 m ∧ wr.cell? ⟨w1.heap.size, 0, none⟩ = some (.string (textOf S k)) ∧ wr.cell? ⟨w1.heap.size, 1, none⟩ = some (.slice (some ⟨g, 0, none⟩) k c) ∧
            wr.ownsRow w.heap.size 3 1 (.slice (some ⟨g, 0, none⟩) k c) k (endsTo S k) ∧ Below w.heap.size w wr ∧ w1.heap.size + 1 ≤ wr.heap.size) (fun i _ => k - (intOf i).toNat)
        case atStart => exact ⟨0, Nat.zero_le _, rfl, q0, q1, hown2, hbw, hz2⟩
        case round =>
          clear q0 q1 hown2 hbw hz2
          obtain ⟨m, hmk, rfl, q0, q1, hown2, hbw, hz2⟩ := hrel
          by_cases hlt : m < k
          · obtain rfl := hxa (by omega)
            have hxb : xb < w.heap.size := World.block_lt_of_cell? _ _ (hy m hlt)
            have hcx : wr.cell? ⟨xb, xo + m, none⟩ = some (.string (S m)) := (hbw.cell (by exact hxb)).trans (hy m hlt)
            have hlt' : (m : Int) < (k : Int) := by omega
            go_wp2_with fail
            go_region_with (go_at_call 7; go_must (refine (term_built S g k c m w.heap.size _ hlt hbig hS (by first | exact hown2 | exact hown2.drew)).mono ?_; rintro e w3 ⟨rfl, hbel3⟩; have hcx3 : w3.cell? ⟨xb, xo + m, none⟩ = some (.string (S m)) := (hbel3.cell (by show xb < wr.heap.size; omega)).trans hcx))
            all_goals
              have R := round_keep q0 q1 hown2 hbw hz2 hbel3
              obtain ⟨r0, r1, r2, r3, r4⟩ := R
              clear hbel3 hcx3 q0 q1 hown2 hbw hz2 hcx
              go_wp2
              go_roundw
              case rel => exact ⟨m + 1, by omega, by go_num, r0, r1, r2, r3, r4⟩
              case measure => simp [intOf]; omega
          · go_wp2
            go_ret
            exact ⟨rfl, hbw⟩
  · have : 1024 < xl := by omega
    go_enter Yba.func3, Yba.ntmps3
    go_wp2
    go_ret
    exact ⟨rfl, Below.refl _ _⟩

end Go.Proofs.Ybulkaznc
