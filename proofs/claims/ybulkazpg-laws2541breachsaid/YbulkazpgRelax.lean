import Derived.Test.YbulkazpgConn
namespace Go.Proofs.Ybulkazpg
open Go.RowKit
set_option linter.unusedVariables false

/-- The answer: whether every node is reached; nothing old has turned. -/
def Ans (n : Nat) (L : Nat → Nat) (E : Nat → Nat → Nat) (w : World) (e : Ending) (w' : World) : Prop :=
  ∃ b, e = .returned (.bool b) ∧ (b = true ↔ ∀ i, i < n → Rch n L E i) ∧ Below w.heap.size w w'

structure Rel (w : World) (n : Nat) (R : Nat → Bool) (wr : World) : Prop where
  row : wr.rowIs w.heap.size 4 n (bools R)
  below : Below w.heap.size w wr

theorem rel_start (w : World) (n : Nat) : Rel w n (mark (fun _ => false) 0) (w.alloc (.cells ((madeCells #[.bool false] n).setIfInBounds 0 (.bool true)) 4)) := by
  have h := (World.rowIs_made w (.bool false) n 4).set 0 (.bool true)
  rw [World.setCell_alloc_at _ _ _ _ _ rfl] at h
  refine ⟨h.congr (fun i hi => ?_), (Below.refl _ _).alloc (Nat.le_refl _) _⟩
  simp only [bools, mark]
  split <;> simp_all

theorem Rel.set {w wr : World} {n : Nat} {R : Nat → Bool} (h : Rel w n R wr) (j : Nat) : Rel w n (mark R j) (wr.setCell ⟨w.heap.size, j, none⟩ (.bool true)) := by
  refine ⟨(h.row.set j (.bool true)).congr (fun i hi => ?_), h.below.setCell (Nat.le_refl _) _⟩
  simp only [bools, mark]
  split <;> rfl

set_option maxHeartbeats 1000000 in
set_option maxRecDepth 100000 in
theorem relax_any (pb n : Nat) (Rb L : Nat → Nat) (E : Nat → Nat → Nat) (w : World) (hn0 : 0 < n) (hn : n ≤ 256) (hL : ∀ i, i < n → L i ≤ 256) (hE : ∀ i k, i < n → k < L i → E i k < n) (hM : Mesh w pb n Rb L E) :
    Calls Yba.prog 10 #[.slice (some ⟨pb, 0, none⟩) n n] w fun e w' => Ans n L E w e w' := by
  have hmk := run_make_row' (P := Yba.prog) 22 4 (.bool false) 1 Yba.underlying22 Yba.info4 rfl .i64 .i64 n (by omega) (by omega)
  have HE : Hid (∀ i k, i < n → k < L i → E i k < n) := hE
  have HM : Hid (Mesh w pb n Rb L E) := hM
  have hn0' : (0 : Int) < (n : Int) := by omega
  have hm0 : (madeCells #[Value.bool false] n)[0]? = some (.bool false) := by have := (World.rowIs_made w (.bool false) n 4).cell hn0; simpa using this
  clear hE hM
  go_enter Yba.func10, Yba.ntmps10
  go_wp2
  clear hmk hm0
  go_loopw [5] (fun tt wr => ∃ t R, tt = .int .i64 ((t : Nat) : Int) ∧ t ≤ n ∧ Hid (RInv n L E R t) ∧ Hid (Rel w n R wr)) (fun tt _ => n - (intOf tt).toNat)
  case atStart => exact ⟨0, _, rfl, Nat.zero_le _, RInv.start n L E hn0, rel_start w n⟩
  case round =>
    obtain ⟨t, R0, rfl, ht, HI, HR⟩ := hrel
    by_cases hlt : t < n
    · have hlt' : (t : Int) < (n : Int) := by omega
      go_wp2
      go_loopw [6] (fun ii wr => ∃ i R, ii = .int .i64 ((i : Nat) : Int) ∧ i ≤ n ∧ Hid (RMid n L E R0 R i 0) ∧ Hid (Rel w n R wr)) (fun ii _ => n - (intOf ii).toNat)
      case atStart => exact ⟨0, R0, rfl, Nat.zero_le _, RMid.start HI.out, HR⟩
      case round =>
        clear HR
        obtain ⟨i, R, rfl, hi, HD, HR⟩ := hrel
        by_cases hin : i < n
        · have hin' : (i : Int) < (n : Int) := by omega
          have q0 : wr.cell? ⟨w.heap.size, i, none⟩ = some (.bool (R i)) := HR.out.row.cell hin
          have q1 : wr.cell? ⟨pb, i, none⟩ = some (.slice (some ⟨Rb i, 0, none⟩) (L i) (L i)) := (HM.out.keep HR.out.below).rows i hin
          have hLi := hL i hin
          cases hr : R i with
          | false =>
            rw [hr] at q0
            have HN : Hid (RMid n L E R0 R (i + 1) 0) := HD.out.skip hin hr
            clear hr HD q1
            go_wp2
            go_roundw
            case rel => exact ⟨i + 1, R, by go_num, by omega, HN, HR⟩
            case measure => simp [intOf]; omega
          | true =>
            rw [hr] at q0
            have Hr : Hid (R i = true) := hr
            clear hr
            go_wp2
            go_loopw [35] (fun kk wr => ∃ k R, kk = .int .i64 ((k : Nat) : Int) ∧ k ≤ L i ∧ Hid (R i = true) ∧ Hid (RMid n L E R0 R i k) ∧ Hid (Rel w n R wr)) (fun kk _ => L i - (intOf kk).toNat)
            case atStart => exact ⟨0, R, rfl, Nat.zero_le _, Hr, HD, HR⟩
            case round =>
              clear HR HD Hr q0 q1
              obtain ⟨k, R1, rfl, hk, Hr, HD, HR⟩ := hrel
              by_cases hkl : k < L i
              · have hkl' : (k : Int) < (L i : Int) := by omega
                have hEn : E i k < n := HE.out i k hin hkl
                have q0 : wr.cell? ⟨Rb i, k, none⟩ = some (.int .i64 (E i k : Int)) := (HM.out.keep HR.out.below).cells i k hin hkl
                have q1 : wr.cell? ⟨w.heap.size, E i k, none⟩ = some (.bool (R1 (E i k))) := HR.out.row.cell hEn
                have q2 : wr.frozen? ⟨w.heap.size, E i k, none⟩ = false := HR.out.row.frozen _
                have hEn' : (E i k : Int) < (n : Int) := by omega
                have HN : Hid (RMid n L E R0 (mark R1 (E i k)) i (k + 1)) := HD.out.next hin Hr.out hkl hEn
                have Hr2 : Hid (mark R1 (E i k) i = true) := mark_old _ _ _ Hr.out
                have HS : Hid (Rel w n (mark R1 (E i k)) (wr.setCell ⟨w.heap.size, E i k, none⟩ (.bool true))) := HR.out.set _
                clear HR HD Hr
                go_wp2
                go_roundw
                case rel => exact ⟨k + 1, _, by go_num, by omega, Hr2, HN, HS⟩
                case measure => simp [intOf]; omega
              · obtain rfl : k = L i := by omega
                have HN : Hid (RMid n L E R0 R1 (i + 1) 0) := HD.out.over
                clear HD Hr
                go_wp2
                go_roundw
                case rel => exact ⟨i + 1, R1, by go_num, by omega, HN, HR⟩
                case measure => simp [intOf]; omega
        · obtain rfl : i = n := by omega
          have HN : Hid (RInv i L E R (t + 1)) := RMid.round HI.out HD.out HE.out
          clear HD
          go_wp2
          go_roundw
          case rel => exact ⟨t + 1, R, by go_num, by omega, HN, HR⟩
          case measure => simp [intOf]; omega
    · obtain rfl : t = n := by omega
      go_wp2
      go_loop [9] (fun ii => ∃ i : Nat, ii = .int .i64 (i : Int) ∧ i ≤ t ∧ Hid (∀ j, j < i → R0 j = true)) (fun ii => t - (intOf ii).toNat)
      case atStart => exact ⟨0, rfl, Nat.zero_le _, fun j hj => by omega⟩
      case round =>
        obtain ⟨i, rfl, hi, HA⟩ := hrel
        by_cases hin : i < t
        · have hin' : (i : Int) < (t : Int) := by omega
          have q0 : wr.cell? ⟨w.heap.size, i, none⟩ = some (.bool (R0 i)) := HR.out.row.cell hin
          cases hr : R0 i with
          | true =>
            rw [hr] at q0
            have HN : Hid (∀ j, j < i + 1 → R0 j = true) := by
              intro j hj
              rcases Nat.lt_or_ge j i with h | h
              · exact HA.out j h
              · have : j = i := by omega
                subst this; exact hr
            clear hr
            go_wp2
            go_round
            case rel => exact ⟨i + 1, by go_num, by omega, HN⟩
            case measure => simp [intOf]; omega
          | false =>
            rw [hr] at q0
            have Hr : Hid (R0 i = false) := hr
            clear hr
            go_wp2
            go_ret
            refine ⟨false, rfl, ?_, HR.out.below⟩
            rw [← HI.out.answer HE.out]
            constructor
            · intro h; cases h
            · intro h; have := h i hin; rw [Hr.out] at this; cases this
        · obtain rfl : i = t := by omega
          go_wp2
          go_ret
          refine ⟨true, rfl, ?_, HR.out.below⟩
          rw [← HI.out.answer HE.out]
          exact ⟨fun _ => HA.out, fun _ => rfl⟩

end Go.Proofs.Ybulkazpg
