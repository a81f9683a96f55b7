import Derived.Test.YbulkazncLaw3
namespace Go.Proofs.Ybulkaznc
open Go.RowKit
set_option linter.unusedVariables false

theorem round_keep2 {w wr w3 : World} {n0 g k c b base : Nat} {t : ByteArray} {xs : List Value} (q0 : wr.cell? ⟨b, 0, none⟩ = some (.string t)) (q1 : wr.cell? ⟨b, 1, none⟩ = some (.slice (some ⟨g, 0, none⟩) k c))
    (ho : wr.ownsRow base 3 1 (.slice (some ⟨g, 0, none⟩) k c) k xs) (hb : Below w.heap.size w wr) (hz : n0 + 1 ≤ wr.heap.size) (h3 : Below wr.heap.size wr w3) :
    w3.cell? ⟨b, 0, none⟩ = some (.string t) ∧ w3.cell? ⟨b, 1, none⟩ = some (.slice (some ⟨g, 0, none⟩) k c) ∧ w3.ownsRow base 3 1 (.slice (some ⟨g, 0, none⟩) k c) k xs ∧ Below w.heap.size w w3 ∧ n0 + 1 ≤ w3.heap.size := by
  have hbs := World.block_lt_of_cell? _ _ q0
  have hbs1 := World.block_lt_of_cell? _ _ q1
  exact ⟨(h3.cell hbs).trans q0, (h3.cell hbs1).trans q1, own_below ho h3, hb.trans (h3.mono hb.size), Nat.le_trans hz h3.size⟩

theorem search_start {w w1 : World} {g n c base : Nat} {t : ByteArray} {xs : List Value} (hown : w.ownsRow base 3 1 (.slice (some ⟨g, 0, none⟩) n c) n xs)
    (h1 : Below (w.alloc (.cells #[.string t, .slice (some ⟨g, 0, none⟩) n c] 25)).heap.size (w.alloc (.cells #[.string t, .slice (some ⟨g, 0, none⟩) n c] 25)) w1) :
    w1.cell? ⟨w.heap.size, 0, none⟩ = some (.string t) ∧ w1.cell? ⟨w.heap.size, 1, none⟩ = some (.slice (some ⟨g, 0, none⟩) n c) ∧ w1.ownsRow base 3 1 (.slice (some ⟨g, 0, none⟩) n c) n xs ∧ Below w.heap.size w w1 ∧ w.heap.size + 1 ≤ w1.heap.size :=
  ⟨(h1.cell (by simp)).trans (by simp), (h1.cell (by simp)).trans (by simp), own_below (hown.alloc _) h1, ((Below.refl _ _).alloc (Nat.le_refl _) _).trans (h1.mono (by simp)), by have := h1.size; simpa using this⟩

set_option maxHeartbeats 1000000 in
theorem search_any (S : Nat → ByteArray) (g n c base i : Nat) (w : World) (hin : i < n) (hn : n ≤ 1024) (hS : ∀ j, j < n → (S j).size ≤ 4096)
    (hown : w.ownsRow base 3 1 (.slice (some ⟨g, 0, none⟩) n c) n (endsTo S n)) (hbase : base ≤ w.heap.size)
    (hB : ∀ j, j < n → Op.bytesLess (S j).toList (S i).toList = decide (j < i)) :
    Calls Yba.prog 11 #[.agg #[.string (textOf S n), .slice (some ⟨g, 0, none⟩) n c], .string (S i)] w fun e w' => e = .returned (.tuple #[.int .i64 i, .bool true]) ∧ Below w.heap.size w w' := by
  go_enter Yba.func11, Yba.ntmps11
  go_wp2_with fail
  refine (len_any _ _ _ _ _).mono ?_
  rintro e w1 ⟨rfl, hbel1⟩
  have R := search_start hown hbel1
  obtain ⟨r0, r1, r2, r3, r4⟩ := R
  clear hbel1
  go_wp2_with fail
  go_loopw [6, 7] (fun lo hi wr => ∃ l h : Nat, l ≤ i ∧ i ≤ h ∧ h ≤ n ∧ lo = .int .i64 l ∧ hi = .int .i64 h ∧ wr.cell? ⟨w.heap.size, 0, none⟩ = some (.string (textOf S n)) ∧ wr.cell? ⟨w.heap.size, 1, none⟩ = some (.slice (some ⟨g, 0, none⟩) n c) ∧
      wr.ownsRow base 3 1 (.slice (some ⟨g, 0, none⟩) n c) n (endsTo S n) ∧ Below w.heap.size w wr ∧ w.heap.size + 1 ≤ wr.heap.size) (fun lo hi _ => (intOf hi).toNat - (intOf lo).toNat)
  case atStart => exact ⟨0, n, by omega, by omega, Nat.le_refl _, rfl, rfl, r0, r1, r2, r3, r4⟩
  case round =>
    clear r0 r1 r2 r3 r4
    obtain ⟨l, h, hl, hh, hhn, rfl, rfl, q0, q1, q2, q3, q4⟩ := hrel
    by_cases hlt : l < h
    · obtain ⟨m, hm, hlm, hmh⟩ : ∃ m : Nat, (l : Int) + ((h : Int) - (l : Int)) / 2 = (m : Int) ∧ l ≤ m ∧ m < h := ⟨l + (h - l) / 2, by omega, by omega, by omega⟩
      have Hm : Hid ((l : Int) + ((h : Int) - (l : Int)) / 2 = (m : Int)) := hm
      clear hm
      go_wp2_with fail
      rw [Hm.out]
      clear Hm
      refine (term_built S g n c m base _ (by omega) hn hS q2).mono ?_
      rintro e w3 ⟨rfl, hbel3⟩
      have R := round_keep2 q0 q1 q2 q3 q4 hbel3
      obtain ⟨r0, r1, r2, r3, r4⟩ := R
      clear hbel3 q0 q1 q2 q3 q4
      have hBm := hB m (by omega)
      by_cases hmi : m < i
      · have hd : Op.bytesLess (S m).toList (S i).toList = true := by rw [hBm]; exact decide_eq_true hmi
        clear hBm
        go_wp2
        go_roundw
        case rel => exact ⟨m + 1, h, by omega, hh, hhn, by go_num, rfl, r0, r1, r2, r3, r4⟩
        case measure => simp [intOf]; omega
      · have hd : Op.bytesLess (S m).toList (S i).toList = false := by rw [hBm]; exact decide_eq_false hmi
        clear hBm
        go_wp2
        go_roundw
        case rel => exact ⟨l, m, hl, by omega, by omega, rfl, rfl, r0, r1, r2, r3, r4⟩
        case measure => simp [intOf]; omega
    · obtain rfl : l = i := by omega
      obtain rfl : h = l := by omega
      go_wp2_with fail
      refine (len_any _ _ _ _ _).mono ?_
      rintro e w3 ⟨rfl, hbel3⟩
      have R := round_keep2 q0 q1 q2 q3 q4 hbel3
      obtain ⟨r0, r1, r2, r3, r4⟩ := R
      clear hbel3 q0 q1 q2 q3 q4
      have hin' : (h : Int) < (n : Int) := by omega
      go_wp2_with fail
      refine (term_built S g n c h base _ (by omega) hn hS r2).mono ?_
      rintro e w4 ⟨rfl, hbel4⟩
      have hbel5 := r3.trans (hbel4.mono r3.size)
      clear hbel4 r0 r1 r2 r3 r4
      go_wp2
      go_ret2
      exact ⟨by simp, hbel5⟩

end Go.Proofs.Ybulkaznc
