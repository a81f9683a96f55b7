import Derived.Test.YbulkazoeChk
namespace Go.Proofs.Ybulkazoe
open Go.RowKit
set_option linter.unusedVariables false

def CkAns (w : World) (e : Ending) (w' : World) : Prop := e = .returned (.bool true) ∧ Below w.heap.size w w'

theorem src_one (w : World) (x : Int) : SrcL (w.alloc (.cells #[.int .i64 x] 3)) (some ⟨w.heap.size, 0, none⟩) [x] :=
  ⟨(fun h => by cases h), fun a ha j v hj => by cases ha; exact World.news_of_block (heap_alloc_new w _) j v hj⟩

/-- The expected list so far: of one's own. -/
def Exp (B : Nat) (a : Option Addr) (l c : Nat) (L : List Int) (w : World) : Prop := w.ownsRow B 3 1 (.slice a l c) l (i64s L)

theorem Exp.len {B : Nat} {a : Option Addr} {l c : Nat} {L : List Int} {w : World} (h : Exp B a l c L w) : l = L.length := by
  have := h.1
  rw [i64s_len, Nat.mul_one] at this
  exact this.symm

theorem Exp.cast {B : Nat} {a : Option Addr} {l c : Nat} {L : List Int} {M : List Value} {w : World} (h : w.ownsRow B 3 1 (.slice a l c) l M) (hM : M = i64s L) : Exp B a l c L w := by rw [hM] at h; exact h

set_option maxHeartbeats 1000000 in
set_option maxRecDepth 100000 in
theorem check_none (ra : Option Addr) (rc : Nat) (ta : Option Addr) (b o n tc : Nat) (T : Nat → Nat) (fa : Option Addr) (fb fo m fc : Nat) (A' : Nat → Option Addr) (FL FC ab ao : Nat → Nat) (FX : Nat → Nat → Int) (w : World) (hn : n ≤ 1024) (hm : m ≤ 1024) (hFL : ∀ r, r < m → FL r ≤ 4096)
    (hT : Tags w ta b o n T) (hF : Frc w fa fb fo m A' FL FC ab ao FX) (hR : ResL w ra n (ex (arcL m FL FX) (fun _ => []) (nx (cl T) n))) :
    Calls Yba.prog 13 #[.slice ra n rc, .slice ta n tc, .slice fa m fc, .pointer none] w fun e w' => CkAns w e w' := by
  have HT : Hid (Tags w ta b o n T) := hT
  have HF : Hid (Frc w fa fb fo m A' FL FC ab ao FX) := hF
  have HL : Hid (∀ r, r < m → FL r ≤ 4096) := hFL
  have HR : Hid (ResL w ra n (ex (arcL m FL FX) (fun _ => []) (nx (cl T) n))) := hR
  clear hT hF hFL hR
  go_enter Yba.func13, Yba.ntmps13
  go_wp2
  go_loopw [10] (fun kk wr => ∃ k : Nat, kk = .int .i64 (k : Int) ∧ k ≤ n ∧ Hid (Below w.heap.size w wr)) (fun kk _ => n - (intOf kk).toNat)
  case atStart => exact ⟨0, rfl, Nat.zero_le _, Below.refl _ _⟩
  case round =>
    obtain ⟨k, rfl, hk, HB⟩ := hrel
    by_cases hlt : k < n
    · have hlt' : (k : Int) < (n : Int) := by omega
      have hAl : Hid ((arcL m FL FX k).length ≤ 4096) := by
        show (arcL m FL FX k).length ≤ 4096
        unfold arcL
        split
        · rw [List.length_map, List.length_range]; exact HL.out k (by assumption)
        · simp
      go_upto_if 28 with fail
      go_cut [11] (fun vv wx => ∃ (a1 : Option Addr) (l1 c1 : Nat), vv = .slice a1 l1 c1 ∧ Hid (Exp w.heap.size a1 l1 c1 (arcL m FL FX k) wx) ∧ Hid (Below w.heap.size w wx))
      case first =>
        by_cases hlm : k < m
        · obtain rfl := HF.out.at_ (by omega)
          have hF2 := HF.out.later HB.out
          have q0 := hF2.rows k hlm
          have HS : Hid (SrcL wr (A' k) (arcL m FL FX k)) := frc_src hF2 k hlm
          have hle : (arcL m FL FX k).length = FL k := by rw [show arcL m FL FX k = (List.range (FL k)).map (FX k) from if_pos hlm]; simp
          have HLE : Hid ((arcL m FL FX k).length = FL k) := hle
          rw [← hle] at q0
          have hlm' : (k : Int) < (m : Int) := by omega
          clear hF2 hle
          go_wp2_with (at_builtin; refine wpList_appo rfl (.tmp 29) (.tmp 33) rfl (.slice none 0 0) 0 [] (arcL m FL FX k) (A' k) (FC k) rfl rfl HB.out HB.out.size (World.ownsRow_nil _ _ _ _) HS.out (by have := hAl.out; omega) ?_; intro a1 c1 w1 K1 K2 hsz)
          go_meet
          exact ⟨a1, _, c1, rfl, (by have h := K1.out; rw [Nat.zero_add, List.nil_append] at h; exact h), K2⟩
        · have hlm' : ¬ ((k : Int) < (m : Int)) := by omega
          have he : arcL m FL FX k = [] := if_neg hlm
          go_wp2_with fail
          go_meet
          refine ⟨none, 0, 0, rfl, ?_, HB⟩
          rw [he]
          exact World.ownsRow_nil _ _ _ _
      case rest =>
        obtain ⟨a1, l1, c1, rfl, HE, HB1⟩ := hcut
        clear HB
        have HT2 : Hid (Tags wc ta b o n T) := HT.out.later HB1.out
        go_upto_if 63 with (go_at_call 19; refine (next_any ta b o n tc T k wc hlt hn HT2.out).mono ?_; rintro e w2 ⟨rfl, hg2⟩; have HB2 : Hid (Below w.heap.size w w2) := below_of_grown HB1.out hg2 (fun b e => by cases e) HB1.out.size; have HE2 : Hid (Exp w.heap.size a1 l1 c1 (arcL m FL FX k) w2) := HE.out.kept hg2 (by cases hh : (Value.slice a1 l1 c1).ownBlock <;> simp); clear hg2)
        go_cut [11] (fun vv wx => ∃ (a2 : Option Addr) (l2 c2 : Nat), vv = .slice a2 l2 c2 ∧ Hid (Exp w.heap.size a2 l2 c2 (arcL m FL FX k ++ tl (nx (cl T) n k)) wx) ∧ Hid (Below w.heap.size w wx))
        case first =>
          by_cases hnx : 0 ≤ nx (cl T) n k
          · have HTL : Hid (tl (nx (cl T) n k) = [nx (cl T) n k]) := by show tl _ = _; unfold tl; rw [if_pos hnx]
            go_wp2_with (at_builtin; refine wpList_appo rfl (.tmp 64) (.tmp 66) rfl (.slice a1 l1 c1) l1 (i64s (arcL m FL FX k)) [nx (cl T) n k] (some ⟨w2.heap.size, 0, none⟩) 1 rfl rfl (HB2.out.alloc HB2.out.size _) (by have := HB2.out.size; simp; omega) (HE2.out.alloc _) (src_one _ _) (by have := hAl.out; have := HE2.out.len; simp; omega) ?_; intro a3 c3 w3 K1 K2 hsz)
            go_meet
            rw [HTL.out]
            exact ⟨a3, _, c3, rfl, Exp.cast K1.out (by rw [i64s_app]), K2⟩
          · have HTL : Hid (tl (nx (cl T) n k) = []) := by show tl _ = _; unfold tl; rw [if_neg hnx]
            go_wp2_with fail
            go_meet
            rw [HTL.out, List.append_nil]
            exact ⟨a1, l1, c1, rfl, HE2, HB2⟩
        case rest =>
          obtain ⟨a3, l3, c3, rfl, HE3, HB3⟩ := hcut
          clear HE HB1 HT2
          obtain ⟨fb', hfe, hrows⟩ := HR.out.at_ (by omega)
          subst hfe
          obtain ⟨r1, rc1, q1, q2, q3⟩ := hrows k hlt
          have q1' := (HB3.out.cell (World.block_lt_of_cell? _ _ q1)).trans q1
          have he : ex (arcL m FL FX) (fun _ => []) (nx (cl T) n) k = arcL m FL FX k ++ tl (nx (cl T) n k) := by simp [ex]
          rw [he] at q1' q2 q3
          have hl3 := HE3.out.len
          have HEQ : Hid (Calls Yba.prog 20 #[.slice r1 l3 rc1, .slice a3 l3 c3] wc fun e w' => e = .returned (.bool true) ∧ ∃ q, w' = wc.drewN q) := by
            have h5 := HE3.out
            unfold Exp at h5
            rw [hl3] at h5 ⊢
            exact equal_any r1 rc1 a3 c3 _ w.heap.size wc (by have := hAl.out; have := tl_le (nx (cl T) n k); rw [List.length_append]; omega) (q2.below HB3.out) q3 h5
          rw [← hl3] at q1'
          clear q1 q2 q3 he hl3 hrows HE3
          go_wp2_with (go_at_call 20; refine HEQ.out.mono ?_; rintro e w4 ⟨rfl, q, rfl⟩)
          go_roundw
          case rel => exact ⟨k + 1, by go_num, by omega, below_drewN HB3.out _⟩
          case measure => simp [intOf]; omega
    · obtain rfl : k = n := by omega
      go_wp2
      go_ret
      exact ⟨rfl, HB.out⟩

end Go.Proofs.Ybulkazoe
