import Derived.Test.YbulkazncSlices
import Derived.Test.YbulkazncSearch
namespace Go.Proofs.Ybulkaznc
open Go.RowKit Go.Sort
set_option linter.unusedVariables false

theorem hold_cells {base : Nat} {w : World} {a : Option Addr} {c : Nat} {L : List (List UInt8)} (h : Hold base w a c L) :
    ∃ g, (0 < L.length → a = some ⟨g, 0, none⟩) ∧ ∀ j, j < L.length → w.cell? ⟨g, 0 + j, none⟩ = some (.string (strAt L j)) := by
  by_cases h0 : 0 < L.length
  · obtain ⟨g, rfl, hown⟩ := h h0
    refine ⟨g, fun _ => rfl, fun j hj => ?_⟩
    rw [Nat.zero_add, hown.cellAt j (by omega)]
    simp [strAt, encStr, List.getElem?_eq_getElem hj, List.getD]
  · exact ⟨0, fun h => absurd h h0, fun j hj => by omega⟩

/-- What the second loop reads: the strings' cells, the boxed list's two cells, the row of ends. -/
structure Ready (w : World) (g m g4 c4 lb : Nat) (T : Nat → ByteArray) (wr : World) : Prop where
  below : Below w.heap.size w wr
  cells : ∀ j, j < m → wr.cell? ⟨g, j, none⟩ = some (.string (T j))
  text : wr.cell? ⟨lb, 0, none⟩ = some (.string (textOf T m))
  ends : wr.cell? ⟨lb, 1, none⟩ = some (.slice (some ⟨g4, 0, none⟩) m c4)
  own : wr.ownsRow w.heap.size 3 1 (.slice (some ⟨g4, 0, none⟩) m c4) m (endsTo T m)

theorem law4_start {w w3 w4 : World} {g m g4 c4 : Nat} {T : Nat → ByteArray} (hb : Below w.heap.size w w3) (hc : ∀ j, j < m → w3.cell? ⟨g, 0 + j, none⟩ = some (.string (T j)))
    (ho : w4.ownsRow w3.heap.size 3 1 (.slice (some ⟨g4, 0, none⟩) m c4) m (endsTo T m)) (hb4 : Below w3.heap.size w3 w4) :
    Ready w g m g4 c4 w4.heap.size T (w4.alloc (.cells #[.string (textOf T m), .slice (some ⟨g4, 0, none⟩) m c4] 25)) := by
  have hs := hb.size
  have hs4 := hb4.size
  refine ⟨(hb.trans (hb4.mono hs)).alloc (by omega) _, fun j hj => ?_, by simp, by simp, own_mono (ho.alloc _) hs⟩
  have h1 := hc j hj
  rw [Nat.zero_add] at h1
  have hlt := World.block_lt_of_cell? _ _ h1
  rw [World.cell?_alloc_lt _ _ _ (by show g < _; have : g < w3.heap.size := hlt; omega), hb4.cell hlt]
  exact h1

theorem Ready.keep {w wr w' : World} {g m g4 c4 lb : Nat} {T : Nat → ByteArray} (h : Ready w g m g4 c4 lb T wr) (hb : Below wr.heap.size wr w') : Ready w g m g4 c4 lb T w' :=
  ⟨h.below.trans (hb.mono h.below.size), fun j hj => (hb.cell (World.block_lt_of_cell? _ _ (h.cells j hj))).trans (h.cells j hj), (hb.cell (World.block_lt_of_cell? _ _ h.text)).trans h.text, (hb.cell (World.block_lt_of_cell? _ _ h.ends)).trans h.ends, own_below h.own hb⟩

set_option maxHeartbeats 1000000 in
theorem search_walk (xa : Option Addr) (xb xo xl xc : Nat) (S : Nat → ByteArray) (w : World) (hxa : 0 < xl → xa = some ⟨xb, xo, none⟩) (hm : xl ≤ maxLen) (hSm : ∀ j, j < xl → (S j).size ≤ maxLen) (hy : ∀ j, j < xl → w.cell? ⟨xb, xo + j, none⟩ = some (.string (S j))) :
    Calls Yba.prog 4 #[.slice xa xl xc] w fun e w' => e = .returned (.bool true) ∧ Below w.heap.size w w' := by
  unfold maxLen at hm
  by_cases hbig : xl ≤ 1024
  · go_enter Yba.func4, Yba.ntmps4
    go_wp2
    go_loop [15] (fun i => ∃ k : Nat, k ≤ xl ∧ i = .int .i64 k ∧ ∀ j, j < k → (S j).size ≤ 4096) (fun i => xl - (intOf i).toNat)
    case atStart => exact ⟨0, Nat.zero_le _, rfl, fun j hj => by omega⟩
    case round =>
      obtain ⟨k, hk, rfl, hS⟩ := hrel
      by_cases hlt : k < xl
      · obtain rfl := hxa (by omega)
        have hcx := hy k hlt
        have hSk := hSm k hlt
        unfold maxLen at hSk
        have hlt' : (k : Int) < (xl : Int) := by omega
        by_cases hs : (S k).size ≤ 4096
        · go_wp2
          go_round
          case rel => exact ⟨k + 1, by omega, by go_num, fun j hj => by
            rcases Nat.lt_or_ge j k with h | h
            · exact hS j h
            · obtain rfl : j = k := by omega
              exact hs⟩
          case measure => simp [intOf]; omega
        · go_wp2
          go_ret
          exact ⟨rfl, Below.refl _ _⟩
      · obtain rfl : k = xl := by omega
        go_wp2_with fail
        refine (clone_u xa xb xo k xc S w hbig hxa hy).mono ?_
        rintro e w1 ⟨a1, c1, rfl, hold1, hbel1⟩
        obtain ⟨L, hL⟩ : ∃ L : List (List UInt8), L = (List.range k).map fun j => (S j).data.toList := ⟨_, rfl⟩
        rw [← hL] at hold1
        have hLk : L.length = k := by rw [hL]; simp
        have hLs : ∀ x ∈ L, x.length ≤ 4096 := by
          intro x hx
          rw [hL] at hx
          obtain ⟨j, hj, rfl⟩ := List.mem_map.1 hx
          exact hS j (List.mem_range.1 hj)
        clear hL
        have HLk : Hid (L.length = k) := hLk
        clear hLk
        go_wp2_with fail
        have hsort := sort_u w.heap.size a1 c1 L w1 (by rw [HLk.out]; exact hbig) hbel1.size hold1
        rw [HLk.out] at hsort
        refine hsort.mono ?_
        clear hsort
        rintro e w2 ⟨rfl, hold2, hbel2⟩
        have hbw2 := hbel1.trans hbel2
        clear hbel1 hbel2 hold1
        go_wp2_with fail
        have hcomp := compact_u w.heap.size a1 c1 (L.mergeSort fun x y => decide (x ≤ y)) w2 (by rw [List.length_mergeSort, HLk.out]; exact hbig) hbw2.size hold2
        rw [List.length_mergeSort, HLk.out] at hcomp
        refine hcomp.mono ?_
        clear hcomp
        rintro e w3 ⟨rfl, hold3, hbel3⟩
        have hbw3 := hbw2.trans hbel3
        clear hbw2 hbel3 hold2
        have hmle : (Lib.compact (L.mergeSort fun x y => decide (x ≤ y))).length ≤ 1024 := by have := uniq_length_le L; rw [HLk.out] at this; exact Nat.le_trans this hbig
        obtain ⟨g, hg, hcells⟩ := hold_cells hold3
        have hTs : ∀ j, j < (Lib.compact (L.mergeSort fun x y => decide (x ≤ y))).length → (strAt (Lib.compact (L.mergeSort fun x y => decide (x ≤ y))) j).size ≤ 4096 := strAt_size L 4096 hLs
        have hTl : ∀ i j, i < (Lib.compact (L.mergeSort fun x y => decide (x ≤ y))).length → j < (Lib.compact (L.mergeSort fun x y => decide (x ≤ y))).length → Op.bytesLess (strAt (Lib.compact (L.mergeSort fun x y => decide (x ≤ y))) j).toList (strAt (Lib.compact (L.mergeSort fun x y => decide (x ≤ y))) i).toList = decide (j < i) := strAt_less L
        clear hold3 hLs HLk
        generalize (Lib.compact (L.mergeSort fun x y => decide (x ≤ y))).length = m at *
        generalize strAt (Lib.compact (L.mergeSort fun x y => decide (x ≤ y))) = T at *
        have HTl : Hid (∀ i j, i < m → j < m → Op.bytesLess (T j).toList (T i).toList = decide (j < i)) := hTl
        clear hTl L hy hxa hSm hS
        go_wp2_with fail
        refine (build_any a1 g 0 m c1 T w3 hg hmle hTs hcells).mono ?_
        rintro e w4 ⟨g4, c4, rfl, hown4, hbel4⟩
        have R := law4_start hbw3 hcells hown4 hbel4
        clear hcells hown4 hbel4 hbw3
        go_wp2_with fail
        go_loopw [7] (fun i wr => ∃ q : Nat, q ≤ m ∧ i = .int .i64 q ∧ Ready w g m g4 c4 w4.heap.size T wr) (fun i _ => m - (intOf i).toNat)
        case atStart => exact ⟨0, Nat.zero_le _, rfl, R⟩
        case round =>
          clear R
          obtain ⟨q, hq, rfl, hrd⟩ := hrel
          have HR : Hid (Ready w g m g4 c4 w4.heap.size T wr) := hrd
          clear hrd
          by_cases hlt : q < m
          · obtain rfl := hg (by omega)
            have q0 := HR.out.cells q hlt
            have q1 := HR.out.text
            have q2 := HR.out.ends
            have q3 := HR.out.own
            have q4 := HR.out.below.size
            have hlt' : (q : Int) < (m : Int) := by omega
            go_wp2_with fail
            go_region_with (go_at_call 11; go_must (refine (search_any T g4 m c4 w.heap.size q _ hlt hmle hTs (by first | exact q3 | exact q3.drew) (by exact q4) (fun j hj => HTl.out q j hlt hj)).mono ?_; rintro e w5 ⟨rfl, hbel5⟩))
            all_goals
              have HN : Hid (Ready w g m g4 c4 w4.heap.size T w5) := HR.out.keep (((Below.refl wr.heap.size wr).drew).trans hbel5)
              clear HR hbel5 q0 q1 q2 q3
              go_wp2
              go_roundw
              case rel => exact ⟨q + 1, by omega, by go_num, HN.out⟩
              case measure => simp [intOf]; omega
          · go_wp2
            go_ret
            exact ⟨rfl, HR.out.below⟩
  · have : 1024 < xl := by omega
    go_enter Yba.func4, Yba.ntmps4
    go_wp2
    go_ret
    exact ⟨rfl, Below.refl _ _⟩

end Go.Proofs.Ybulkaznc
