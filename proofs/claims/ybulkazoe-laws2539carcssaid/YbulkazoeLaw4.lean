import Derived.Test.YbulkazoeSpan
namespace Go.Proofs.Ybulkazoe
open Go.RowKit
set_option linter.unusedVariables false

def byv (n : Nat) : Nat → Int := fun i => (n : Int) - 1 - (i : Int)
def ltv (n ln : Nat) (LA : Nat → Nat) : Nat → Nat := fun i => if i < ln then LA i % (n + 1) else n
def frv (n gn : Nat) (GA : Nat → Nat) : Nat → Nat := fun k => k + (if k < gn then GA k else 0) % (n - k + 1)
theorem ltv_le (n ln : Nat) (LA : Nat → Nat) (u : Nat) : ltv n ln LA u ≤ n := by
  unfold ltv
  split
  · have := Nat.mod_lt (LA u) (show 0 < n + 1 by omega); omega
  · exact Nat.le_refl _
theorem frv_le (n gn : Nat) (GA : Nat → Nat) (k : Nat) (hk : k ≤ n) : k ≤ frv n gn GA k ∧ frv n gn GA k ≤ n := by
  unfold frv
  have := Nat.mod_lt (if k < gn then GA k else 0) (show 0 < n - k + 1 by omega)
  omega

theorem rem_nat (a n : Nat) : Int.tmod (a : Int) ((n : Int) + 1) = ((a % (n + 1) : Nat) : Int) ∧ (a : Int) % ((n : Int) + 1) = ((a % (n + 1) : Nat) : Int) := by
  have h : ((n : Int) + 1) = ((n + 1 : Nat) : Int) := by omega
  rw [h]
  exact ⟨by rw [← Int.ofNat_tmod], by rw [← Int.natCast_emod]⟩

theorem rem_nat' (a n k : Nat) (hk : k ≤ n) : Int.tmod (a : Int) ((n : Int) - (k : Int) + 1) = ((a % (n - k + 1) : Nat) : Int) ∧ (a : Int) % ((n : Int) - (k : Int) + 1) = ((a % (n - k + 1) : Nat) : Int) := by
  have h : ((n : Int) - (k : Int) + 1) = ((n - k + 1 : Nat) : Int) := by omega
  rw [h]
  exact ⟨by rw [← Int.ofNat_tmod], by rw [← Int.natCast_emod]⟩

def BsAns (w : World) (pb bb lb D n : Nat) (LT FR : Nat → Nat) (BY : Nat → Int) (c : Nat → Nat) (A : Nat → List Int) (e : Ending) (w1 : World) : Prop :=
  ∃ W3 rfb kb cb ab, e = .returned (.pointer (some ⟨rfb, 0, none⟩)) ∧ Below w.heap.size w W3 ∧ SpanAt (at' W3) pb bb lb D n LT FR BY ∧ Below W3.heap.size W3 w1 ∧ EnvOf W3 w1 rfb kb cb ab (some ⟨pb, 0, none⟩) n c A

theorem build_span (ta : Option Addr) (b o n tc : Nat) (T : Nat → Nat) (fa : Option Addr) (fb fo m fc : Nat) (A' : Nat → Option Addr) (FL FC ab ao : Nat → Nat) (FX : Nat → Nat → Int) (w wr : World) (hn : n ≤ 1024) (hm : m ≤ 1024) (hFL : ∀ r, r < m → FL r ≤ 4096)
    (hT : Tags w ta b o n T) (hF : Frc w fa fb fo m A' FL FC ab ao FX) (BY : Nat → Int) (LT FR : Nat → Nat) (D : Nat) (h : Sp2 w n BY (fun i => (LT i : Int)) D (fun k => (FR k : Int)) (n + 1) wr) (hLT : ∀ u, u < n → LT u ≤ n) (hFR : ∀ k, k ≤ n → k ≤ FR k ∧ FR k ≤ n) (X : Array Value)
    (h1 : X[1]? = some (.slice (some ⟨w.heap.size, 0, none⟩) n n)) (h3 : X[3]? = some (.slice (some ⟨w.heap.size + 1, 0, none⟩) n n)) (h5 : X[5]? = some (.slice (some ⟨D, 0, none⟩) (n + 1) (n + 1))) :
    Calls Yba.prog 11 #[.slice ta n tc, .slice fa m fc, .pointer (some ⟨wr.heap.size, 0, none⟩)] (wr.alloc (.cells X 47)) fun e w' => BsAns w wr.heap.size w.heap.size (w.heap.size + 1) D n LT FR BY (cl T) (arcL m FL FX) e w' := by
  obtain ⟨hb, hs⟩ := h.fin hLT hFR X h1 h3 h5
  refine (build_any ta b o n tc T fa fb fo m fc A' FL FC ab ao FX (some ⟨wr.heap.size, 0, none⟩) (wr.alloc (.cells X 47)) hn hm hFL (hT.later hb) (hF.later hb)).mono ?_
  rintro e w1 ⟨rfb, kb, cb, ab1, rfl, hb1, _, henv⟩
  exact ⟨_, rfb, kb, cb, ab1, rfl, hb, hs, hb1, henv⟩

set_option maxHeartbeats 1000000 in
set_option maxRecDepth 100000 in
theorem law4_walk (t1 : Option Addr) (b1 o1 n c1 : Nat) (T1 : Nat → Nat) (fa : Option Addr) (fb fo m fc : Nat) (A' : Nat → Option Addr) (FL FC ab ao : Nat → Nat) (FX : Nat → Nat → Int) (la : Option Addr) (lb lo ln lc : Nat) (LA : Nat → Nat) (ga : Option Addr) (gb go gn gc : Nat) (GA : Nat → Nat) (w : World) (hn1 : n ≤ maxLen) (hm : m ≤ maxLen) (hln : ln ≤ maxLen) (hgn : gn ≤ maxLen)
    (hT1 : Tags w t1 b1 o1 n T1) (hF : Frc w fa fb fo m A' FL FC ab ao FX) (hL : Tags w la lb lo ln LA) (hG : Tags w ga gb go gn GA) :
    Calls Yba.prog 4 #[.slice t1 n c1, .slice fa m fc, .slice la ln lc, .slice ga gn gc] w fun e w' => e = .returned (.bool true) ∧ Below w.heap.size w w' := by
  have HT1 : Hid (Tags w t1 b1 o1 n T1) := hT1
  have HF : Hid (Frc w fa fb fo m A' FL FC ab ao FX) := hF
  have HLT : Hid (Tags w la lb lo ln LA) := hL
  have HGT : Hid (Tags w ga gb go gn GA) := hG
  have HM : Hid (n ≤ maxLen ∧ m ≤ maxLen) := ⟨hn1, hm⟩
  unfold maxLen at hln hgn
  clear hT1 hF hL hG hn1 hm
  cases hb1 : bigB n m FL with
  | true =>
    go_enter Yba.func4, Yba.ntmps4
    go_wp2_with (go_at_call 10; refine (big_det t1 n c1 fa fb fo m fc A' FL FC ab ao FX w HM.out.1 HM.out.2 HF.out).mono ?_; rintro e w' ⟨rfl, hw⟩; have hw2 := hw.symm; subst hw2; rw [hb1])
    go_ret
    exact ⟨rfl, Below.refl _ _⟩
  | false =>
    obtain ⟨hn, hm, hsum⟩ := bigB_out hb1
    have HL : Hid (∀ r, r < m → FL r ≤ 4096) := fun r hr => Nat.le_trans (le_sumTo FL hr) hsum
    have HS1 : Hid (∀ S : Nat → List Int, (∀ u, u < n → (S u).length ≤ n) → totTo (arcL m FL FX) S n ≤ 2000000) := fun S hS => arc_tot n m FL FX S hn hsum hS
    clear hsum
    have hmk := run_make_row' (P := Yba.prog) 32 3 (.int .i64 0) 8 Yba.underlying32 Yba.info3 rfl .i64 .i64 n (by omega) (by omega)
    have hmk1 : ∀ w : World, (Instr.makeSlice 32 (.int .i64 ((n : Int) + 1)) (.int .i64 ((n : Int) + 1))).run Yba.prog w = .ok (.slice (some ⟨w.heap.size, 0, none⟩) (n + 1) (n + 1)) (w.alloc (.cells (madeCells #[.int .i64 0] (n + 1)) 3)) := run_make_row' (P := Yba.prog) 32 3 (.int .i64 0) 8 Yba.underlying32 Yba.info3 rfl .i64 .i64 (n + 1) (by omega) (by omega)
    go_enter Yba.func4, Yba.ntmps4
    go_wp2_with (go_at_call 10; refine (big_det t1 n c1 fa fb fo m fc A' FL FC ab ao FX w HM.out.1 HM.out.2 HF.out).mono ?_; rintro e w' ⟨rfl, hw⟩; have hw2 := hw.symm; subst hw2; rw [hb1])
    go_loopw [12] (fun ii wr => ∃ i : Nat, ii = .int .i64 (i : Int) ∧ i ≤ n ∧ Hid (Sp1 w n (byv n) (fun i => (ltv n ln LA i : Int)) i wr)) (fun ii _ => n - (intOf ii).toNat)
    case atStart => exact ⟨0, rfl, Nat.zero_le _, Sp1.start w n _ _⟩
    case round =>
      obtain ⟨i, rfl, hi, HS⟩ := hrel
      by_cases hlt : i < n
      · have hlt' : (i : Int) < (n : Int) := by omega
        obtain ⟨⟨k0, k1⟩, ⟨k2, k3⟩, hN⟩ := HS.out.step hlt
        have hb := HS.out.bel
        rw [show byv n i = (n : Int) - 1 - (i : Int) from rfl] at k2 k3 hN
        by_cases hil : i < ln
        · obtain rfl := HLT.out.at_ (by omega)
          have hil' : (i : Int) < (ln : Int) := by omega
          have q0 := (HLT.out.later hb).cells i hil
          have q0b := (HLT.out.later hb).byte i hil
          have hbl : lb < w.heap.size := World.block_lt_of_cell? _ _ (HLT.out.cells i hil)
          have q1 := cell_set (x := i) (g := w.heap.size) (u := .int .i64 ((n : Int) - 1 - (i : Int))) q0 (by omega)
          obtain ⟨r, hr⟩ : ∃ r : Nat, r = LA i % (n + 1) := ⟨_, rfl⟩
          have hr1 := (rem_nat (LA i) n).1
          have hr2 := (rem_nat (LA i) n).2
          rw [show ltv n ln LA i = LA i % (n + 1) from if_pos hil] at hN
          rw [← hr] at hr1 hr2 hN
          have hrl : r ≤ 255 := by rw [hr]; exact Nat.le_trans (Nat.mod_le _ _) q0b
          have HN : Hid (Sp1 w n (byv n) (fun i => (ltv n ln LA i : Int)) (i + 1) ((wr.setCell ⟨w.heap.size, i, none⟩ (.int .i64 ((n : Int) - 1 - (i : Int)))).setCell ⟨w.heap.size + 1, i, none⟩ (.int .i64 (r : Int)))) := hN
          have hnz : ¬ ((n : Int) + 1 = 0) := by omega
          clear hN hb hr q0 HS
          go_wp2
          go_roundw
          case rel => exact ⟨i + 1, by go_num, by omega, HN⟩
          case measure => simp [intOf]; omega
        · have hil' : ¬ ((i : Int) < (ln : Int)) := by omega
          rw [show ltv n ln LA i = n from if_neg hil] at hN
          have HN : Hid (Sp1 w n (byv n) (fun i => (ltv n ln LA i : Int)) (i + 1) ((wr.setCell ⟨w.heap.size, i, none⟩ (.int .i64 ((n : Int) - 1 - (i : Int)))).setCell ⟨w.heap.size + 1, i, none⟩ (.int .i64 (n : Int)))) := hN
          clear hN hb HS
          go_wp2
          go_roundw
          case rel => exact ⟨i + 1, by go_num, by omega, HN⟩
          case measure => simp [intOf]; omega
      · obtain rfl : n = i := by omega
        obtain ⟨wo, h⟩ : ∃ wo : World, wo = wr := ⟨wr, rfl⟩
        subst h
        go_wp2
        go_loopw [14] (fun kk wr => ∃ k : Nat, kk = .int .i64 (k : Int) ∧ k ≤ n + 1 ∧ Hid (Sp2 w n (byv n) (fun i => (ltv n ln LA i : Int)) wo.heap.size (fun k => (frv n gn GA k : Int)) k wr)) (fun kk _ => n + 1 - (intOf kk).toNat)
        case atStart => exact ⟨0, rfl, Nat.zero_le _, Sp2.start _ HS.out⟩
        case round =>
          clear HS
          obtain ⟨k, rfl, hk, HS⟩ := hrel
          by_cases hlk : k ≤ n
          · have hlk' : (k : Int) ≤ (n : Int) := by omega
            obtain ⟨⟨k0, k1⟩, hN⟩ := HS.out.step (show k < n + 1 by omega)
            have hb := HS.out.s1.bel
            have hkz : ¬ ((n : Int) - (k : Int) + 1 = 0) := by omega
            by_cases hkg : k < gn
            · obtain rfl := HGT.out.at_ (by omega)
              have hkg' : (k : Int) < (gn : Int) := by omega
              have q0 := (HGT.out.later hb).cells k hkg
              have q0b := (HGT.out.later hb).byte k hkg
              obtain ⟨r, hr⟩ : ∃ r : Nat, r = GA k % (n - k + 1) := ⟨_, rfl⟩
              have hr1 := (rem_nat' (GA k) n k hlk).1
              have hr2 := (rem_nat' (GA k) n k hlk).2
              have hfr : frv n gn GA k = k + GA k % (n - k + 1) := by unfold frv; rw [if_pos hkg]
              rw [hfr] at hN
              rw [← hr] at hr1 hr2 hN
              have hrl : r ≤ 255 := by rw [hr]; exact Nat.le_trans (Nat.mod_le _ _) q0b
              have HN : Hid (Sp2 w n (byv n) (fun i => (ltv n ln LA i : Int)) wo.heap.size (fun k => (frv n gn GA k : Int)) (k + 1) (wr.setCell ⟨wo.heap.size, k, none⟩ (.int .i64 ((k : Int) + (r : Int))))) := hN
              clear hN hb hr hfr HS
              go_wp2
              go_roundw
              case rel => exact ⟨k + 1, by go_num, by omega, HN⟩
              case measure => simp [intOf]; omega
            · have hkg' : ¬ ((k : Int) < (gn : Int)) := by omega
              have hfr : frv n gn GA k = k := by unfold frv; rw [if_neg hkg]; simp
              rw [hfr] at hN
              have HN : Hid (Sp2 w n (byv n) (fun i => (ltv n ln LA i : Int)) wo.heap.size (fun k => (frv n gn GA k : Int)) (k + 1) (wr.setCell ⟨wo.heap.size, k, none⟩ (.int .i64 (k : Int)))) := hN
              clear hN hb hfr HS
              go_wp2
              go_roundw
              case rel => exact ⟨k + 1, by go_num, by omega, HN⟩
              case measure => simp [intOf]; omega
          · obtain rfl : k = n + 1 := by omega
            have HFIN := HS
            clear HS
            have hle : ¬ ((n : Int) + 1 ≤ (n : Int)) := by omega
            go_upto_region 22 with fail
            go_upto_region 23 with (go_at_call 11; refine (build_span t1 b1 o1 n c1 T1 fa fb fo m fc A' FL FC ab ao FX w wr hn hm HL.out HT1.out HF.out (byv n) (ltv n ln LA) (frv n gn GA) wo.heap.size HFIN.out (fun u _ => ltv_le n ln LA u) (frv_le n gn GA) _ rfl rfl rfl).mono ?_; rintro e w1 ⟨W3, rf1, kb1, cb1, ab1, rfl, hb3, hsp3, hbel1, henv1⟩; have HB3 : Hid (Below w.heap.size w W3) := hb3; have HSP : Hid (SpanAt (at' W3) wr.heap.size w.heap.size (w.heap.size + 1) wo.heap.size n (ltv n ln LA) (frv n gn GA) (byv n)) := hsp3; have HB1 : Hid (Below W3.heap.size W3 w1) := hbel1; have HE1 : Hid (EnvOf W3 w1 rf1 kb1 cb1 ab1 (some ⟨wr.heap.size, 0, none⟩) n (cl T1) (arcL m FL FX)) := henv1; clear hb3 hsp3 hbel1 henv1)
            have HSO : Hid (SpanOk (at' W3) (some ⟨wr.heap.size, 0, none⟩) n (succs (ltv n ln LA) (frv n gn GA) (byv n))) := .inr ⟨_, _, _, _, _, _, _, rfl, HSP.out, fun _ _ => rfl⟩
            have HTO : Hid (totTo (arcL m FL FX) (succs (ltv n ln LA) (frv n gn GA) (byv n)) n ≤ 2000000) := HS1.out _ (fun u hu => HSO.out.len u hu)
            go_upto_region 24 with (go_at_call 12; refine (fix_first W3 W3 w1 rf1 kb1 cb1 ab1 (some ⟨wr.heap.size, 0, none⟩) n (cl T1) (arcL m FL FX) (succs (ltv n ln LA) (frv n gn GA) (byv n)) _ hn (cl_lt T1) HTO.out (Below.refl _ _) HB1.out HE1.out HSO.out rfl rfl rfl rfl rfl).mono ?_; rintro e w2 ⟨ra, rcc, rfl, hres, hbel2, hag⟩; have HR2 : Hid (ResL w2 ra n (ex (arcL m FL FX) (succs (ltv n ln LA) (frv n gn GA) (byv n)) (nx (cl T1) n))) := hres; have HB2 : Hid (Below W3.heap.size W3 w2) := hbel2; clear hres hbel2 hag)
            have HB4 : Hid (Below w.heap.size w w2) := HB3.out.trans (HB2.out.mono HB3.out.size)
            have HSP2 : Hid (SpanAt (at' w2) wr.heap.size w.heap.size (w.heap.size + 1) wo.heap.size n (ltv n ln LA) (frv n gn GA) (byv n)) := HSP.out.mono (fun a v h => (HB2.out.cell (World.block_lt_of_cell? _ _ h)).trans h)
            have HCK : Hid (Calls Yba.prog 13 #[.slice ra n rcc, .slice t1 n c1, .slice fa m fc, .pointer (some ⟨wr.heap.size, 0, none⟩)] w2 fun e w' => CkAns w2 e w') := check_some wr.heap.size w.heap.size (w.heap.size + 1) wo.heap.size (ltv n ln LA) (frv n gn GA) (byv n) ra rcc t1 b1 o1 n c1 T1 fa fb fo m fc A' FL FC ab ao FX w2 hn hm HL.out (HT1.out.later HB4.out) (HF.out.later HB4.out) HSP2.out HR2.out
            go_wp2_with (go_at_call 13; refine HCK.out.mono ?_; rintro e w6 ⟨rfl, hb6⟩; have HB6 : Hid (Below w.heap.size w w6) := HB4.out.trans (hb6.mono HB4.out.size); clear hb6)
            go_ret
            exact ⟨rfl, HB6.out⟩

end Go.Proofs.Ybulkazoe
