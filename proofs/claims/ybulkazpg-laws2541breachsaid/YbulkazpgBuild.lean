import Derived.Test.YbulkazpgRelax
namespace Go.Proofs.Ybulkazpg
open Go.RowKit
set_option linter.unusedVariables false

theorem Yba.info23 : (Yba.prog.info? 23).map (fun i => (i.zero, i.size, i.bytes)) = some (some (.slice none 0 0), 1, 24) := by kernel_rfl

/-- The argument: row r is a slice of L r bytes X r k. -/
structure Raw (w : World) (rb ro n : Nat) (A : Nat → Option Addr) (L C ab ao : Nat → Nat) (X : Nat → Nat → Nat) : Prop where
  rows : ∀ r, r < n → w.cell? ⟨rb, ro + r, none⟩ = some (.slice (A r) (L r) (C r))
  len : ∀ r, r < n → L r ≤ maxLen
  at_ : ∀ r, r < n → 0 < L r → A r = some ⟨ab r, ao r, none⟩
  cells : ∀ r k, r < n → k < L r → w.cell? ⟨ab r, ao r + k, none⟩ = some (.int .u8 (X r k : Int))
  byte : ∀ r k, r < n → k < L r → X r k ≤ 255

def OkAns (n : Nat) (L : Nat → Nat) (w : World) (e : Ending) (w' : World) : Prop :=
  ∃ b, e = .returned (.bool b) ∧ w' = w ∧ (b = true → 0 < n ∧ n ≤ 256 ∧ ∀ r, r < n → L r ≤ 256)

set_option maxHeartbeats 400000 in
theorem ok_any (a : Option Addr) (rb ro n c : Nat) (A : Nat → Option Addr) (L C ab ao : Nat → Nat) (X : Nat → Nat → Nat) (w : World) (hn : n ≤ maxLen) (ha : 0 < n → a = some ⟨rb, ro, none⟩) (hR : Raw w rb ro n A L C ab ao X) :
    Calls Yba.prog 7 #[.slice a n c] w fun e w' => OkAns n L w e w' := by
  unfold maxLen at hn
  have HR : Hid (Raw w rb ro n A L C ab ao X) := hR
  clear hR
  by_cases h0 : n = 0
  · subst h0
    go_enter Yba.func7, Yba.ntmps7
    go_wp2
    go_ret
    exact ⟨false, rfl, rfl, fun h => by cases h⟩
  · obtain rfl := ha (by omega)
    have h0' : ((n : Int) == 0) = false := beq_eq_false_iff_ne.2 (by omega)
    by_cases hbig : n ≤ 256
    · go_enter Yba.func7, Yba.ntmps7
      go_wp2
      go_loop [15] (fun ii => ∃ i : Nat, ii = .int .i64 (i : Int) ∧ i ≤ n ∧ Hid (∀ j, j < i → L j ≤ 256)) (fun ii => n - (intOf ii).toNat)
      case atStart => exact ⟨0, rfl, Nat.zero_le _, fun j hj => by omega⟩
      case round =>
        obtain ⟨i, rfl, hi, HA⟩ := hrel
        by_cases hin : i < n
        · have hin' : (i : Int) < (n : Int) := by omega
          have q0 := HR.out.rows i hin
          have hLi := HR.out.len i hin
          unfold maxLen at hLi
          by_cases hl : L i ≤ 256
          · go_wp2
            go_round
            case rel => exact ⟨i + 1, by go_num, by omega, fun j hj => by
              rcases Nat.lt_or_ge j i with h | h
              · exact HA.out j h
              · obtain rfl : j = i := by omega
                exact hl⟩
            case measure => simp [intOf]; omega
          · go_wp2
            go_ret
            exact ⟨false, rfl, rfl, fun h => by cases h⟩
        · obtain rfl : i = n := by omega
          go_wp2
          go_ret
          exact ⟨true, rfl, rfl, fun _ => ⟨by omega, hbig, HA.out⟩⟩
    · go_enter Yba.func7, Yba.ntmps7
      go_wp2
      go_ret
      exact ⟨false, rfl, rfl, fun h => by cases h⟩

/-- The rows built so far: k of them. -/
structure Bld (w : World) (n k : Nat) (L : Nat → Nat) (E : Nat → Nat → Nat) (wr : World) : Prop where
  below : Below w.heap.size w wr
  size : wr.heap.size = w.heap.size + 1 + k
  prow : wr.rowIs w.heap.size 23 n (fun j => if j < k then .slice (some ⟨w.heap.size + 1 + j, 0, none⟩) (L j) (L j) else .slice none 0 0)
  rows : ∀ j, j < k → wr.rowIs (w.heap.size + 1 + j) 3 (L j) (fun t => .int .i64 (E j t : Int))

/-- Inside a round: the new row, at block N, is filled up to t. -/
structure Bin (w : World) (n k : Nat) (L : Nat → Nat) (E : Nat → Nat → Nat) (N t : Nat) (wr : World) : Prop where
  below : Below w.heap.size w wr
  hN : N = w.heap.size + 1 + k
  size : wr.heap.size = N + 1
  prow : wr.rowIs w.heap.size 23 n (fun j => if j < k then .slice (some ⟨w.heap.size + 1 + j, 0, none⟩) (L j) (L j) else .slice none 0 0)
  rows : ∀ j, j < k → wr.rowIs (w.heap.size + 1 + j) 3 (L j) (fun t => .int .i64 (E j t : Int))
  cur : wr.rowIs N 3 (L k) (fun j => if j < t then .int .i64 (E k j : Int) else .int .i64 0)

theorem bld_start (w : World) (n : Nat) (L : Nat → Nat) (E : Nat → Nat → Nat) : Bld w n 0 L E (w.alloc (.cells (madeCells #[.slice none 0 0] n) 23)) :=
  ⟨(Below.refl _ _).alloc (Nat.le_refl _) _, by simp, (World.rowIs_made w (.slice none 0 0) n 23).congr (fun i hi => by simp), fun j hj => by omega⟩

theorem Bld.enter {w wr : World} {n k : Nat} {L : Nat → Nat} {E : Nat → Nat → Nat} (h : Bld w n k L E wr) : Bin w n k L E wr.heap.size 0 (wr.alloc (.cells (madeCells #[.int .i64 0] (L k)) 3)) :=
  ⟨h.below.alloc (by rw [h.size]; omega) _, h.size, by simp, h.prow.alloc _, fun j hj => (h.rows j hj).alloc _, (World.rowIs_made wr (.int .i64 0) (L k) 3).congr (fun i hi => by simp)⟩

theorem Bin.next {w wr : World} {n k : Nat} {L : Nat → Nat} {E : Nat → Nat → Nat} {N t : Nat} (h : Bin w n k L E N t wr) : Bin w n k L E N (t + 1) (wr.setCell ⟨N, t, none⟩ (.int .i64 (E k t : Int))) := by
  have hN := h.hN
  refine ⟨h.below.setCell (by show w.heap.size ≤ N; omega) _, hN, by simp [h.size], h.prow.setOther (by show w.heap.size ≠ N; omega) _, fun j hj => (h.rows j hj).setOther (by show w.heap.size + 1 + j ≠ N; omega) _, (h.cur.set t _).congr (fun j hj => ?_)⟩
  by_cases h1 : j = t
  · subst h1; simp
  · by_cases h2 : j < t
    · simp [h1, h2, show j < t + 1 by omega]
    · simp [h1, h2, show ¬ j < t + 1 by omega]

theorem Bin.leave {w wr : World} {n k : Nat} {L : Nat → Nat} {E : Nat → Nat → Nat} {N : Nat} (h : Bin w n k L E N (L k) wr) : Bld w n (k + 1) L E (wr.setCell ⟨w.heap.size, k, none⟩ (.slice (some ⟨N, 0, none⟩) (L k) (L k))) := by
  have hN := h.hN
  refine ⟨h.below.setCell (Nat.le_refl _) _, by simp [h.size]; omega, (h.prow.set k _).congr (fun j hj => ?_), fun j hj => ?_⟩
  · by_cases h1 : j = k
    · subst h1; simp [hN]
    · by_cases h2 : j < k
      · simp [h1, h2, show j < k + 1 by omega]
      · simp [h1, h2, show ¬ j < k + 1 by omega]
  · rcases Nat.lt_or_ge j k with h1 | h1
    · exact (h.rows j h1).setOther (by show w.heap.size + 1 + j ≠ w.heap.size; omega) _
    · have : j = k := by omega
      subst this
      have h2 := (h.cur.setOther (a := ⟨w.heap.size, j, none⟩) (by show N ≠ w.heap.size; omega) (.slice (some ⟨N, 0, none⟩) (L j) (L j)))
      rw [hN] at h2 ⊢
      exact h2.congr (fun t ht => by simp [ht])

theorem Bld.mesh {w wr : World} {n : Nat} {L : Nat → Nat} {E : Nat → Nat → Nat} (h : Bld w n n L E wr) : Mesh wr w.heap.size n (fun j => w.heap.size + 1 + j) L E :=
  ⟨fun i hi => by rw [h.prow.cell hi]; simp [hi], fun i k hi hk => (h.rows i hi).cell hk⟩

def BldAns (n : Nat) (L : Nat → Nat) (E : Nat → Nat → Nat) (w : World) (e : Ending) (w' : World) : Prop :=
  ∃ pb Rb, e = .returned (.slice (some ⟨pb, 0, none⟩) n n) ∧ Mesh w' pb n Rb L E ∧ Below w.heap.size w w'

set_option maxHeartbeats 1000000 in
theorem build_any (rb ro n c : Nat) (A : Nat → Option Addr) (L C ab ao : Nat → Nat) (X : Nat → Nat → Nat) (w : World) (hn0 : 0 < n) (hn : n ≤ 256) (hL : ∀ r, r < n → L r ≤ 256) (hR : Raw w rb ro n A L C ab ao X) :
    Calls Yba.prog 8 #[.slice (some ⟨rb, ro, none⟩) n c] w fun e w' => BldAns n L (fun r k => X r k % n) w e w' := by
  have HR : Hid (Raw w rb ro n A L C ab ao X) := hR
  clear hR
  have hmk := run_make_row' (P := Yba.prog) 47 23 (.slice none 0 0) 24 Yba.underlying47 Yba.info23 rfl .i64 .i64 n (by omega) (by omega)
  have hn0' : (0 : Int) < (n : Int) := by omega
  go_enter Yba.func8, Yba.ntmps8
  go_wp2
  clear hmk
  go_loopw [16] (fun ii wr => ∃ i : Nat, ii = .int .i64 (i : Int) ∧ i ≤ n ∧ Hid (Bld w n i L (fun r k => X r k % n) wr)) (fun ii _ => n - (intOf ii).toNat)
  case atStart => exact ⟨0, rfl, Nat.zero_le _, bld_start w n L _⟩
  case round =>
    obtain ⟨i, rfl, hi, HB⟩ := hrel
    by_cases hin : i < n
    · obtain ⟨wo, hwo⟩ : ∃ wo : World, wo = wr := ⟨wr, rfl⟩
      subst hwo
      have hin' : (i : Int) < (n : Int) := by omega
      have hrb : rb < w.heap.size := World.block_lt_of_cell? _ _ (HR.out.rows i hin)
      have q0 : wo.cell? ⟨rb, ro + i, none⟩ = some (.slice (A i) (L i) (C i)) := (HB.out.below.cell (by exact hrb)).trans (HR.out.rows i hin)
      have hLi := hL i hin
      have hmk2 := run_make_row' (P := Yba.prog) 23 3 (.int .i64 0) 8 Yba.underlying23 Yba.info3 rfl .i64 .i64 (L i) (by omega) (by omega)
      obtain ⟨Ai, hAi⟩ : ∃ Ai, A i = Ai := ⟨_, rfl⟩
      rw [hAi] at q0
      have HA : Hid (0 < L i → Ai = some ⟨ab i, ao i, none⟩) := fun h => by rw [← hAi]; exact HR.out.at_ i hin h
      clear hAi
      go_wp2
      clear hmk2
      go_loopw [26] (fun kk wr => ∃ t : Nat, kk = .int .i64 (t : Int) ∧ t ≤ L i ∧ Hid (Bin w n i L (fun r k => X r k % n) wo.heap.size t wr)) (fun kk _ => L i - (intOf kk).toNat)
      case atStart => exact ⟨0, rfl, Nat.zero_le _, HB.out.enter⟩
      case round =>
        clear HB q0
        obtain ⟨t, rfl, ht, HB⟩ := hrel
        by_cases htl : t < L i
        · obtain rfl := HA.out (by omega)
          have htl' : (t : Int) < (L i : Int) := by omega
          have hab : ab i < w.heap.size := World.block_lt_of_cell? _ _ (HR.out.cells i t hin htl)
          have q0 : wr.cell? ⟨ab i, ao i + t, none⟩ = some (.int .u8 (X i t : Int)) := (HB.out.below.cell (by exact hab)).trans (HR.out.cells i t hin htl)
          have hX := HR.out.byte i t hin htl
          have q1 := HB.out.cur.cell htl
          simp only [Nat.lt_irrefl, if_false] at q1
          have q2 := HB.out.cur.frozen t
          have HN : Hid (Bin w n i L (fun r k => X r k % n) wo.heap.size (t + 1) (wr.setCell ⟨wo.heap.size, t, none⟩ (.int .i64 ((X i t % n : Nat) : Int)))) := HB.out.next
          clear HB
          rw [Int.natCast_emod] at HN
          go_wp2
          go_roundw
          case rel => exact ⟨t + 1, by go_num, by omega, HN⟩
          case measure => simp [intOf]; omega
        · obtain rfl : t = L i := by omega
          have q1 := HB.out.prow.cell hin
          simp only [Nat.lt_irrefl, if_false] at q1
          have q2 := HB.out.prow.frozen i
          have HN : Hid (Bld w n (i + 1) L (fun r k => X r k % n) (wr.setCell ⟨w.heap.size, i, none⟩ (.slice (some ⟨wo.heap.size, 0, none⟩) (L i) (L i)))) := HB.out.leave
          clear HB
          go_wp2
          go_roundw
          case rel => exact ⟨i + 1, by go_num, by omega, HN⟩
          case measure => simp [intOf]; omega
    · obtain rfl : i = n := by omega
      go_wp2
      go_ret
      exact ⟨_, _, rfl, HB.out.mesh, HB.out.below⟩

end Go.Proofs.Ybulkazpg
