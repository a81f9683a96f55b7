import Derived.Test.YbulkazoeCheckN
namespace Go.Proofs.Ybulkazoe
open Go.RowKit
set_option linter.unusedVariables false

theorem SrcL.to' {w w' : World} {a : Option Addr} {L : List Int} (h : SrcL w a L) (hc : ∀ x v, w.cell? x = some v → w'.cell? x = some v) : SrcL w' a L := ⟨h.isNone, fun x hx j v hj => hc _ _ (h.isSome x hx j v hj)⟩

set_option maxHeartbeats 1000000 in
set_option maxRecDepth 100000 in
theorem check_some (pb bb lb sfb : Nat) (LT FR : Nat → Nat) (BY : Nat → Int) (ra : Option Addr) (rc : Nat) (ta : Option Addr) (b o n tc : Nat) (T : Nat → Nat) (fa : Option Addr) (fb fo m fc : Nat) (A' : Nat → Option Addr) (FL FC ab ao : Nat → Nat) (FX : Nat → Nat → Int) (w : World) (hn : n ≤ 1024) (hm : m ≤ 1024) (hFL : ∀ r, r < m → FL r ≤ 4096)
    (hT : Tags w ta b o n T) (hF : Frc w fa fb fo m A' FL FC ab ao FX) (hSp : SpanAt (at' w) pb bb lb sfb n LT FR BY) (hR : ResL w ra n (ex (arcL m FL FX) (succs LT FR BY) (nx (cl T) n))) :
    Calls Yba.prog 13 #[.slice ra n rc, .slice ta n tc, .slice fa m fc, .pointer (some ⟨pb, 0, none⟩)] w fun e w' => CkAns w e w' := by
  have HT : Hid (Tags w ta b o n T) := hT
  have HF : Hid (Frc w fa fb fo m A' FL FC ab ao FX) := hF
  have HL : Hid (∀ r, r < m → FL r ≤ 4096) := hFL
  have HR : Hid (ResL w ra n (ex (arcL m FL FX) (succs LT FR BY) (nx (cl T) n))) := hR
  have HSP : Hid (SpanAt (at' w) pb bb lb sfb n LT FR BY) := hSp
  clear hT hF hFL hR hSp
  go_enter Yba.func13, Yba.ntmps13
  go_wp2
  go_loopw [10] (fun kk wr => ∃ k : Nat, kk = .int .i64 (k : Int) ∧ k ≤ n ∧ Hid (Below w.heap.size w wr)) (fun kk _ => n - (intOf kk).toNat)
  case atStart => exact ⟨0, rfl, Nat.zero_le _, Below.refl _ _⟩
  case round =>
    obtain ⟨k, rfl, hk, HB⟩ := hrel
    by_cases hlt : k < n
    · have hlt' : (k : Int) < (n : Int) := by omega
      have hAl : Hid ((arcL m FL FX k).length ≤ 4096) := by
        show (arcL m FL FX k).length ≤ 4096
        unfold arcL
        split
        · rw [List.length_map, List.length_range]; exact HL.out k (by assumption)
        · simp
      go_upto_if 28 with fail
      go_cut [11] (fun vv wx => ∃ (a1 : Option Addr) (l1 c1 : Nat), vv = .slice a1 l1 c1 ∧ Hid (Exp w.heap.size a1 l1 c1 (arcL m FL FX k) wx) ∧ Hid (Below w.heap.size w wx))
      case first =>
        by_cases hlm : k < m
        · obtain rfl := HF.out.at_ (by omega)
          have hF2 := HF.out.later HB.out
          have q0 := hF2.rows k hlm
          have HS : Hid (SrcL wr (A' k) (arcL m FL FX k)) := frc_src hF2 k hlm
          have hle : (arcL m FL FX k).length = FL k := by rw [show arcL m FL FX k = (List.range (FL k)).map (FX k) from if_pos hlm]; simp
          have HLE : Hid ((arcL m FL FX k).length = FL k) := hle
          rw [← hle] at q0
          have hlm' : (k : Int) < (m : Int) := by omega
          clear hF2 hle
          go_wp2_with (at_builtin; refine wpList_appo rfl (.tmp 29) (.tmp 33) rfl (.slice none 0 0) 0 [] (arcL m FL FX k) (A' k) (FC k) rfl rfl HB.out HB.out.size (World.ownsRow_nil _ _ _ _) HS.out (by have := hAl.out; omega) ?_; intro a1 c1 w1 K1 K2 hsz)
          go_meet
          exact ⟨a1, _, c1, rfl, (by have h := K1.out; rw [Nat.zero_add, List.nil_append] at h; exact h), K2⟩
        · have hlm' : ¬ ((k : Int) < (m : Int)) := by omega
          have he : arcL m FL FX k = [] := if_neg hlm
          go_wp2_with fail
          go_meet
          refine ⟨none, 0, 0, rfl, ?_, HB⟩
          rw [he]
          exact World.ownsRow_nil _ _ _ _
      case rest =>
        obtain ⟨a1, l1, c1, rfl, HE, HB1⟩ := hcut
        clear HB
        have hS2 := HSP.out.mono (rd' := at' wc) (fun a v h => (HB1.out.cell (World.block_lt_of_cell? _ _ h)).trans h)
        have y1 : wc.cell? ⟨pb, 1, none⟩ = some (.slice (some ⟨bb, 0, none⟩) n n) := hS2.p1
        have y3 : wc.cell? ⟨pb, 3, none⟩ = some (.slice (some ⟨lb, 0, none⟩) n n) := hS2.p3
        have y5 : wc.cell? ⟨pb, 5, none⟩ = some (.slice (some ⟨sfb, 0, none⟩) (n + 1) (n + 1)) := hS2.p5
        obtain ⟨q, fq, z1, z2, f1, f2, f3, hsl, HSR⟩ : ∃ q fq : Nat, wc.cell? ⟨lb, k, none⟩ = some (.int .i64 (q : Int)) ∧ q ≤ n ∧ wc.cell? ⟨sfb, q, none⟩ = some (.int .i64 (fq : Int)) ∧ q ≤ fq ∧ fq ≤ n ∧ (succs LT FR BY k).length = fq - q ∧ Hid (SrcL wc (if n = q then some ⟨bb, 0, none⟩ else some ⟨bb, q, none⟩) (succs LT FR BY k)) := by
          have z2 := (hS2.lt k hlt).2
          have f2 := (hS2.fr (LT k) z2).2.1
          have f3 := (hS2.fr (LT k) z2).2.2
          have hsl : (succs LT FR BY k).length = FR (LT k) - LT k := by simp [succs]
          refine ⟨LT k, FR (LT k), (hS2.lt k hlt).1, z2, (hS2.fr (LT k) z2).1, f2, f3, hsl, (fun h => by split at h <;> cases h), fun x hx j v hj => ?_⟩
          have hjm : j < FR (LT k) - LT k := by
            have := (List.getElem?_eq_some_iff.1 hj).1
            rw [i64s_len, hsl] at this
            exact this
          rw [if_neg (by omega)] at hx
          cases hx
          rw [Addr.add_lit, show wc.cell? ⟨bb, LT k + j, none⟩ = some (.int .i64 (BY (LT k + j))) from hS2.by_ (LT k + j) (by omega)]
          rw [i64s_at _ _ (by rw [hsl]; exact hjm)] at hj
          rw [← hj]
          simp [succs, List.getD, hjm]
        have i1 : (q : Int) < (n : Int) + 1 := by omega
        have i2 : (q : Int) ≤ (fq : Int) := by omega
        have i3 : (fq : Int) ≤ (n : Int) := by omega
        have i4 : (0 : Int) ≤ (q : Int) := by omega
        have i5 : (0 : Int) ≤ (fq : Int) := by omega
        have HSL : Hid ((succs LT FR BY k).length ≤ 1024) := by show (succs LT FR BY k).length ≤ 1024; omega
        have hl1 : l1 + (succs LT FR BY k).length ≤ 100000 := by have := HE.out.len; have := hAl.out; omega
        clear hS2
        go_upto_if 36 with fail
        go_cut [11] (fun vv wx => ∃ (a2 : Option Addr) (l2 c2 : Nat), vv = .slice a2 l2 c2 ∧ Hid (Exp w.heap.size a2 l2 c2 (arcL m FL FX k ++ succs LT FR BY k) wx) ∧ Hid (Below w.heap.size w wx))
        case first =>
          by_cases hnl : n = q
          · subst hnl
            obtain rfl : n = fq := by omega
            rw [if_pos rfl] at HSR
            go_wp2_with fail
            go_region_law ((refine step_appo rfl (.tmp 44) (.tmp 57) rfl (.slice a1 l1 c1) l1 (i64s (arcL m FL FX k)) (succs LT FR BY k) (some ⟨bb, 0, none⟩) (n - n) (by simp [Act.eval, Act.put]) (by simp [Act.eval, Act.put, hsl]) (below_of_grown HB1.out (grownBy_drew _ none) (fun b e => by cases e) HB1.out.size) (by exact HB1.out.size) (World.ownsRow.drew HE.out) (HSR.out.to' (by exact fun x v h => h)) hl1 ?_; intro a3 c3 w3 K1 K2 hsz))
            all_goals (try go_wp2_with fail)
            all_goals go_meet
            all_goals exact ⟨a3, _, c3, (by simp [hsl]), Exp.cast K1.out (by simp only [i64s_app]), K2⟩
          · rw [if_neg hnl] at HSR
            go_wp2_with fail
            go_region_law ((refine step_appo rfl (.tmp 44) (.tmp 57) rfl (.slice a1 l1 c1) l1 (i64s (arcL m FL FX k)) (succs LT FR BY k) (some ⟨bb, q, none⟩) (n - q) (by simp [Act.eval, Act.put]) (by simp [Act.eval, Act.put, hsl]) (below_of_grown HB1.out (grownBy_drew _ none) (fun b e => by cases e) HB1.out.size) (by exact HB1.out.size) (World.ownsRow.drew HE.out) (HSR.out.to' (by exact fun x v h => h)) hl1 ?_; intro a3 c3 w3 K1 K2 hsz))
            all_goals (try go_wp2_with fail)
            all_goals go_meet
            all_goals exact ⟨a3, _, c3, (by rw [hsl]), Exp.cast K1.out (by simp only [i64s_app]), K2⟩
        case rest =>
          obtain ⟨a2, l2, c2, rfl, HEs, HBs⟩ := hcut
          clear HE HB1 HSR y1 y3 y5 z1 z2 f1 f2 f3 i1 i2 i3 i4 i5 hsl hl1 q fq
          have HT2 : Hid (Tags wc ta b o n T) := HT.out.later HBs.out
          go_upto_if 63 with (go_at_call 19; refine (next_any ta b o n tc T k wc hlt hn HT2.out).mono ?_; rintro e w2 ⟨rfl, hg2⟩; have HB2 : Hid (Below w.heap.size w w2) := below_of_grown HBs.out hg2 (fun b e => by cases e) HBs.out.size; have HE2 : Hid (Exp w.heap.size a2 l2 c2 (arcL m FL FX k ++ succs LT FR BY k) w2) := HEs.out.kept hg2 (by cases hh : (Value.slice a2 l2 c2).ownBlock <;> simp); clear hg2)
          go_cut [11] (fun vv wx => ∃ (a9 : Option Addr) (l9 c9 : Nat), vv = .slice a9 l9 c9 ∧ Hid (Exp w.heap.size a9 l9 c9 (arcL m FL FX k ++ succs LT FR BY k ++ tl (nx (cl T) n k)) wx) ∧ Hid (Below w.heap.size w wx))
          case first =>
            by_cases hnx : 0 ≤ nx (cl T) n k
            · have HTL : Hid (tl (nx (cl T) n k) = [nx (cl T) n k]) := by show tl _ = _; unfold tl; rw [if_pos hnx]
              go_wp2_with (at_builtin; refine wpList_appo rfl (.tmp 64) (.tmp 66) rfl (.slice a2 l2 c2) l2 (i64s (arcL m FL FX k ++ succs LT FR BY k)) [nx (cl T) n k] (some ⟨w2.heap.size, 0, none⟩) 1 rfl rfl (HB2.out.alloc HB2.out.size _) (by have := HB2.out.size; simp; omega) (HE2.out.alloc _) (src_one _ _) (by have := hAl.out; have := HE2.out.len; have := HSL.out; rw [List.length_append] at *; simp; omega) ?_; intro a3 c3 w3 K1 K2 hsz)
              go_meet
              rw [HTL.out]
              exact ⟨a3, _, c3, rfl, Exp.cast K1.out (by simp only [i64s_app]), K2⟩
            · have HTL : Hid (tl (nx (cl T) n k) = []) := by show tl _ = _; unfold tl; rw [if_neg hnx]
              go_wp2_with fail
              go_meet
              rw [HTL.out, List.append_nil]
              exact ⟨a2, l2, c2, rfl, HE2, HB2⟩
          case rest =>
            obtain ⟨a3, l3, c3, rfl, HE3, HB3⟩ := hcut
            clear HEs HBs HT2
            obtain ⟨fb', hfe, hrows⟩ := HR.out.at_ (by omega)
            subst hfe
            obtain ⟨r1, rc1, q1, q2, q3⟩ := hrows k hlt
            have q1' := (HB3.out.cell (World.block_lt_of_cell? _ _ q1)).trans q1
            have he : ex (arcL m FL FX) (succs LT FR BY) (nx (cl T) n) k = arcL m FL FX k ++ succs LT FR BY k ++ tl (nx (cl T) n k) := rfl
            rw [he] at q1' q2 q3
            have hl3 := HE3.out.len
            have HEQ : Hid (Calls Yba.prog 20 #[.slice r1 l3 rc1, .slice a3 l3 c3] wc fun e w' => e = .returned (.bool true) ∧ ∃ q, w' = wc.drewN q) := by
              have h5 := HE3.out
              unfold Exp at h5
              rw [hl3] at h5 ⊢
              exact equal_any r1 rc1 a3 c3 _ w.heap.size wc (by have := hAl.out; have := tl_le (nx (cl T) n k); have := HSL.out; rw [List.length_append, List.length_append]; omega) (q2.below HB3.out) q3 h5
            rw [← hl3] at q1'
            clear q1 q2 q3 he hl3 hrows HE3
            go_wp2_with (go_at_call 20; refine HEQ.out.mono ?_; rintro e w4 ⟨rfl, q, rfl⟩)
            go_roundw
            case rel => exact ⟨k + 1, by go_num, by omega, below_drewN HB3.out _⟩
            case measure => simp [intOf]; omega
    · obtain rfl : k = n := by omega
      go_wp2
      go_ret
      exact ⟨rfl, HB.out⟩

end Go.Proofs.Ybulkazoe
