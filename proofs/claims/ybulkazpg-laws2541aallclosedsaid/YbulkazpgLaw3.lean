import Derived.Test.YbulkazpgMade
import Derived.Lib.Builder
namespace Go.Proofs.Ybulkazpg
open Go.RowKit
set_option linter.unusedVariables false

theorem Yba.size38 : (Yba.prog.info? 38).map (fun i => i.size) = some 26 := by kernel_rfl
theorem Yba.size43 : (Yba.prog.info? 43).map (fun i => i.size) = some 15 := by kernel_rfl

theorem neq25 (a : Addr) (w : World) : (binOp .neq 25 (.pointer (some a)) (.pointer (some a))).run Yba.prog w = .ok (.bool false) w := by
  obtain ⟨i, hi, _⟩ := Option.map_eq_some_iff.1 Yba.size38
  exact Lib.run_neq_ptr_same w a Yba.underlying25 hi

theorem neq28 (a : Addr) (w : World) : (binOp .neq 28 (.pointer (some a)) (.pointer (some a))).run Yba.prog w = .ok (.bool false) w := by
  obtain ⟨i, hi, _⟩ := Option.map_eq_some_iff.1 Yba.size43
  exact Lib.run_neq_ptr_same w a Yba.underlying28 hi

set_option maxHeartbeats 1000000 in
set_option maxRecDepth 100000 in
theorem law3 (a0 : Option Addr) (cb co n c0 : Nat) (C : Nat → Bool) (a1 : Option Addr) (ub uo m c1 : Nat) (U : Nat → Int) (other : Bool) (w : World) (hn : n ≤ maxLen) (hm : m ≤ maxLen)
    (ha0 : 0 < n → a0 = some ⟨cb, co, none⟩) (hC : ∀ j, j < n → w.cell? ⟨cb, co + j, none⟩ = some (.bool (C j)))
    (ha1 : 0 < m → a1 = some ⟨ub, uo, none⟩) (hU : ∀ j, j < m → w.cell? ⟨ub, uo + j, none⟩ = some (.int .i64 (U j))) :
    Calls Yba.prog 3 #[.slice a0 n c0, .slice a1 m c1, .bool other] w fun e w' => e = .returned (.bool true) ∧ Below w.heap.size w w' := by
  unfold maxLen at hn hm
  by_cases hbig : n ≤ 1024
  · have hmk := run_make_row' (P := Yba.prog) 24 25 (.pointer none) 8 Yba.underlying24 Yba.info25 rfl .i64 .i64 n (by omega) (by omega)
    go_enter Yba.func3, Yba.ntmps3
    go_wp2
    clear hmk
    go_loopw [8] (fun i wr => ∃ k : Nat, k ≤ n ∧ i = .int .i64 k ∧ Made w.heap.size n k C (fun j => if j < m then U j else 0) w wr) (fun i _ => n - (intOf i).toNat)
    case atStart => exact ⟨0, Nat.zero_le _, rfl, made_start w n C _⟩
    case round =>
      obtain ⟨k, hk, rfl, hmd⟩ := hrel
      by_cases hlt : k < n
      · obtain rfl := ha0 (by omega)
        have hcb : cb < w.heap.size := World.block_lt_of_cell? _ _ (hC k hlt)
        have q0 : wr.cell? ⟨cb, co + k, none⟩ = some (.bool (C k)) := (hmd.below.cell (by exact hcb)).trans (hC k hlt)
        have q1 : wr.cell? ⟨w.heap.size, k, none⟩ = some (.pointer none) := hmd.rest k (Nat.le_refl _) hlt
        have q2 : wr.frozen? ⟨w.heap.size, k, none⟩ = false := hmd.fzr k
        have hsz : w.heap.size < wr.heap.size := by have := hmd.size; omega
        have hlt' : (k : Int) < (n : Int) := by omega
        have HM : Hid (Made w.heap.size n k C (fun j => if j < m then U j else 0) w wr) := hmd
        clear hmd
        by_cases hkm : k < m
        · obtain rfl := ha1 (by omega)
          have hub : ub < w.heap.size := World.block_lt_of_cell? _ _ (hU k hkm)
          have q3 : wr.cell? ⟨ub, uo + k, none⟩ = some (.int .i64 (U k)) := (HM.out.below.cell (by exact hub)).trans (hU k hkm)
          have hkm' : (k : Int) < (m : Int) := by omega
          clear hC hU
          go_wp2
          go_roundw
          case rel => exact ⟨k + 1, by omega, by go_num, HM.out.step hlt _ rfl rfl (by simp [hkm]) rfl⟩
          case measure => simp [intOf]; omega
        · have hkm' : (m : Int) ≤ (k : Int) := by omega
          clear hC hU
          go_wp2
          go_roundw
          case rel => exact ⟨k + 1, by omega, by go_num, HM.out.step hlt _ rfl rfl (by simp [hkm]) rfl⟩
          case measure => simp [intOf]; omega
      · obtain rfl : k = n := by omega
        obtain ⟨wo, hwo⟩ : ∃ wo : World, wo = wr := ⟨wr, rfl⟩
        subst hwo
        have HM : Hid (Made w.heap.size k k C (fun j => if j < m then U j else 0) w wo) := hmd
        clear hmd
        go_wp2
        go_loopw [12] (fun i wq => ∃ q : Nat, q ≤ k ∧ i = .int .i64 q ∧ Laid w.heap.size k wo.heap.size (wo.heap.size + 1) q C (fun j => if j < m then U j else 0) other w wq) (fun i _ => k - (intOf i).toNat)
        case atStart => exact ⟨0, Nat.zero_le _, rfl, HM.out.laid _ _ rfl rfl rfl rfl⟩
        case round =>
          clear HM
          obtain ⟨q, hq, rfl, hld⟩ := hrel
          have HL : Hid (Laid w.heap.size k wo.heap.size (wo.heap.size + 1) q C (fun j => if j < m then U j else 0) other w wr) := hld
          clear hld
          by_cases hlt : q < k
          · have q0 := HL.out.row q hlt
            have q1 : wr.cell? ⟨w.heap.size + 1 + q, 1, none⟩ = some (.pointer none) := by rw [HL.out.peer q hlt, if_neg (by omega)]
            have q2 := HL.out.fz q 1 hlt
            have hlt' : (q : Int) < (k : Int) := by omega
            clear hC hU
            go_wp2
            go_roundw
            case rel => exact ⟨q + 1, by omega, by go_num, HL.out.step hlt⟩
            case measure => simp [intOf]; omega
          · obtain rfl : q = k := by omega
            go_wp2_with fail
            refine (close_any w.heap.size q _ _ hbig (by exact HL.out.plinks) HL.out.row C HL.out.closed (fun j hj => HL.out.fz j 3 hj)).mono ?_
            rintro e w4 ⟨rfl, hsw⟩
            have HF : Hid (Laid w.heap.size q wo.heap.size (wo.heap.size + 1) q (fun _ => true) (fun j => if j < m then U j else 0) other w w4) := HL.out.close hsw
            clear HL hsw
            have p0 := HF.out.plinks
            go_wp2_with fail
            go_loop [13] (fun i => ∃ t : Nat, t ≤ q ∧ i = .int .i64 t) (fun i => q - (intOf i).toNat)
            case atStart => exact ⟨0, Nat.zero_le _, rfl⟩
            case round =>
              obtain ⟨t, ht, rfl⟩ := hrel
              by_cases hlt : t < q
              · have q0 := HF.out.row t hlt
                have q1 : w4.cell? ⟨w.heap.size + 1 + t, 1, none⟩ = some (.pointer (some ⟨wo.heap.size + 1, 0, none⟩)) := by rw [HF.out.peer t hlt, if_pos hlt]
                have q2 := HF.out.closed t hlt
                have q3 := HF.out.unack t hlt
                have q4 := HF.out.age t hlt
                have hlt' : (t : Int) < (q : Int) := by omega
                have n25 := neq25
                have n28 := neq28
                by_cases htm : t < m
                · obtain rfl := ha1 (by omega)
                  have hub : ub < w.heap.size := World.block_lt_of_cell? _ _ (hU t htm)
                  have q5 : w4.cell? ⟨ub, uo + t, none⟩ = some (.int .i64 (U t)) := (HF.out.below.cell (by exact hub)).trans (hU t htm)
                  have htm' : (t : Int) < (m : Int) := by omega
                  rw [if_pos htm] at q3
                  clear hC hU
                  go_wp2
                  go_round
                  case rel => exact ⟨t + 1, by omega, by go_num⟩
                  case measure => simp [intOf]; omega
                · have htm' : (m : Int) ≤ (t : Int) := by omega
                  rw [if_neg htm] at q3
                  clear hC hU
                  go_wp2
                  go_round
                  case rel => exact ⟨t + 1, by omega, by go_num⟩
                  case measure => simp [intOf]; omega
              · obtain rfl : t = q := by omega
                have q0 := HF.out.out
                have q1 := HF.out.pid
                have q2 := HF.out.pslot
                clear hC hU
                go_wp2
                go_ret
                exact ⟨by simp, HF.out.below⟩
  · have : 1024 < n := by omega
    go_enter Yba.func3, Yba.ntmps3
    go_wp2
    go_ret
    exact ⟨rfl, Below.refl _ _⟩

end Go.Proofs.Ybulkazpg
