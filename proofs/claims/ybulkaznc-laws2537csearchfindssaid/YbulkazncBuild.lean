import Derived.Test.YbulkazncPlain
import Derived.Test.YbulkazncTerm
namespace Go.Proofs.Ybulkaznc
open Go.RowKit
set_option linter.unusedVariables false

theorem Yba.info3 : (Yba.prog.info? 3).map (fun i => (i.zero, i.size, i.bytes)) = some (some (.int .i64 0), 1, 8) := by kernel_rfl
theorem Yba.info5 : (Yba.prog.info? 5).map (fun i => (i.zero, i.size, i.bytes)) = some (some (.int .u8 0), 1, 1) := by kernel_rfl

set_option maxHeartbeats 1000000 in
theorem build_any (xa : Option Addr) (xb xo xl xc : Nat) (S : Nat → ByteArray) (w : World) (hxa : 0 < xl → xa = some ⟨xb, xo, none⟩) (hxl : xl ≤ 1024) (hS : ∀ j, j < xl → (S j).size ≤ 4096) (hy : ∀ j, j < xl → w.cell? ⟨xb, xo + j, none⟩ = some (.string (S j))) :
    Calls Yba.prog 5 #[.slice xa xl xc] w fun e w' => ∃ g c, e = .returned (.agg #[.string (textOf S xl), .slice (some ⟨g, 0, none⟩) xl c]) ∧ w'.ownsRow w.heap.size 3 1 (.slice (some ⟨g, 0, none⟩) xl c) xl (endsTo S xl) ∧ Below w.heap.size w w' := by
  obtain ⟨i3, hi3, hz30, hz31, hz32⟩ := info_parts Yba.info3
  obtain ⟨i5, hi5, hz50, hz51, hz52⟩ := info_parts Yba.info5
  have hb32 : i3.bytes * xl ≤ 281474976710656 := by rw [hz32]; omega
  go_enter Yba.func5, Yba.ntmps5
  go_wp2_with (at_make; refine wpList_make_own _ rfl _ _ 23 rfl (w.heap.size + 1) 3 i3 (.int .i64 0) 1 Yba.underlying23 hi3 hz30 hz31 .i64 .i64 _ xl rfl rfl rfl hb32 (by unfold maxLen; omega) (by simp) ?_)
  intro w1 hown hgrow
  have hbel : Below (w.heap.size + 1) (w.alloc (.cells #[.string ⟨#[]⟩, .slice none 0 0] 25)) w1 := (Below.refl _ _).grown hgrow (by simp) (by intro k hk; cases hk)
  go_wp2
  go_loopw [3, 4, 12] (fun v en i wr => ∃ k : Nat, k ≤ xl ∧ i = .int .i64 k ∧ en = .slice (some ⟨w.heap.size + 1, 0, none⟩) k xl ∧ wr.ownsRow (w.heap.size + 2) 5 1 v (lenTo S k) (u8s (bytesTo S k)) ∧
      wr.ownsRow (w.heap.size + 1) 3 1 (.slice (some ⟨w.heap.size + 1, 0, none⟩) k xl) k (endsTo S k) ∧ Below (w.heap.size + 1) (w.alloc (.cells #[.string ⟨#[]⟩, .slice none 0 0] 25)) wr ∧ w.heap.size + 2 ≤ wr.heap.size)
    (fun _ _ i _ => xl - (intOf i).toNat)
  case atStart =>
    exact ⟨0, Nat.zero_le _, rfl, rfl, World.ownsRow_nil _ _ _ _, by simpa [endsTo] using hown, hbel, by have := (hown.lt (w.heap.size + 1) rfl).2; omega⟩
  case round =>
    obtain ⟨k, hk, rfl, rfl, hownB, hownE, hbelr, hsz⟩ := hrel
    have hle := lenTo_bound S xl hS k hk
    by_cases hlt : k < xl
    · obtain rfl := hxa (by omega)
      have hxb : xb < w.heap.size := World.block_lt_of_cell? _ _ (hy k hlt)
      have hcx : wr.cell? ⟨xb, xo + k, none⟩ = some (.string (S k)) := (hbelr.cell (by show xb < _; omega)).trans ((World.cell?_alloc_lt _ _ _ (by exact hxb)).trans (hy k hlt))
      have hSk := hS k hlt
      have hlt' : (k : Int) < (xl : Int) := by omega
      go_wp2_with (at_builtin; refine Lib.wpList_append_own_string _ rfl (.tmp 16) (.tmp 17) 34 9 rfl (w.heap.size + 2) 5 i5 Yba.underlying34 Yba.underlying9 hi5 hz50 hz51 hz52 _ _ _ rfl hownB _ rfl (by unfold maxLen; omega) (by omega) hsz ?_)
      intro v' w2 hownB' hgrow2 _
      obtain ⟨a', c', hv'⟩ := own_shape hownB'
      subst hv'
      have hownE2 := hownE.kept hgrow2 (by
        right; intro h
        have := hownB.lt (w.heap.size + 1) (by rw [← h]; rfl)
        omega)
      have hbel2 := hbelr.grown hgrow2 (by omega) (by intro q hq; have := (hownB.lt q hq).1; omega)
      have hsz2 : w.heap.size + 2 ≤ w2.heap.size := by have := hgrow2.size; omega
      clear hgrow2 hownB hownE hbelr hcx
      go_wp2_with (at_builtin; refine wpList_append_fits _ rfl (.tmp 19) (.tmp 22) 23 rfl (w.heap.size + 1) 3 i3 1 Yba.underlying23 hi3 hz31 (w.heap.size + 1) k xl _ rfl (hownE2.alloc _) ⟨w2.heap.size, 0, none⟩ 1 1 [.int .i64 ((lenTo S k + (S k).size : Nat) : Int)] rfl rfl ?c1 ?c2 ?c3 ?c4)
      case c1 => exact cell_one_new _ _ _
      case c2 => intro u hu; simp at hu; subst hu; rfl
      case c3 => omega
      intro w3 hownE3 hgrow3
      have hownB3 := (hownB'.alloc _).kept hgrow3 (by
        right; intro h
        have := hownB'.lt (w.heap.size + 1) h
        omega)
      have hbel3 := (hbel2.alloc (by omega) _).grown hgrow3 (by simp; omega) (by intro q hq; simp at hq; omega)
      have hsz3 : w.heap.size + 2 ≤ w3.heap.size := by have := hgrow3.size; simp at this; omega
      clear hgrow3
      go_wp2
      go_roundw
      case rel => exact ⟨k + 1, by omega, by go_num, rfl, by rw [u8s_succ]; exact hownB3, by rw [endsTo_succ]; exact hownE3, hbel3, hsz3⟩
      case measure => simp [intOf]; omega
    · obtain rfl : k = xl := by omega
      have hcv : (convert 34 9 u3).run Yba.prog wr = .ok (.string (textOf S k)) wr := convert_own Yba.underlying34 Yba.underlying5 Yba.underlying9 (by rw [bytesTo_length]; exact hownB)
      have q0 : wr.cell? ⟨w.heap.size, 0, none⟩ = some (.string ⟨#[]⟩) := (hbelr.cell (by show w.heap.size < _; omega)).trans (by simp)
      have q1 : wr.cell? ⟨w.heap.size, 1, none⟩ = some (.slice none 0 0) := (hbelr.cell (by show w.heap.size < _; omega)).trans (by simp)
      have f0 : wr.frozen? ⟨w.heap.size, 0, none⟩ = false := (hbelr.frozen (by show w.heap.size < _; omega)).trans (by simp)
      have f1 : wr.frozen? ⟨w.heap.size, 1, none⟩ = false := (hbelr.frozen (by show w.heap.size < _; omega)).trans (by simp)
      have hsz' : w.heap.size < wr.heap.size := by omega
      have hbw : Below w.heap.size w wr := ((Below.refl _ _).alloc (Nat.le_refl _) _).trans (hbelr.mono (by omega))
      go_wp2
      refine bodyPost_ret (v := .agg #[.string (textOf S k), .slice (some ⟨w.heap.size + 1, 0, none⟩) k k]) (by simp [results, Yba.results5, go_sem, q0, q1]) rfl ⟨w.heap.size + 1, k, rfl, ?_, ?_⟩
      · exact own_mono (ownsRow_setCell_below (ownsRow_setCell_below hownE (by show w.heap.size < _; omega) _) (by show w.heap.size < _; omega) _) (by omega)
      · exact (hbw.setCell (Nat.le_refl _) _).setCell (Nat.le_refl _) _

end Go.Proofs.Ybulkaznc
