import Derived.Test.YbulkazoeBuild
namespace Go.Proofs.Ybulkazoe
open Go.RowKit
set_option linter.unusedVariables false

set_option maxHeartbeats 1000000 in
set_option maxRecDepth 100000 in
theorem build_any (ta : Option Addr) (b o n tc : Nat) (T : Nat → Nat) (fa : Option Addr) (fb fo m fc : Nat) (A' : Nat → Option Addr) (FL FC ab ao : Nat → Nat) (FX : Nat → Nat → Int) (rt : Option Addr) (w : World) (hn : n ≤ 1024) (hm : m ≤ 1024) (hFL : ∀ r, r < m → FL r ≤ 4096)
    (hT : Tags w ta b o n T) (hF : Frc w fa fb fo m A' FL FC ab ao FX) :
    Calls Yba.prog 11 #[.slice ta n tc, .slice fa m fc, .pointer rt] w fun e w' => BdAns w rt n (cl T) (arcL m FL FX) e w' := by
  have HT : Hid (Tags w ta b o n T) := hT
  have HF : Hid (Frc w fa fb fo m A' FL FC ab ao FX) := hF
  have HL : Hid (∀ r, r < m → FL r ≤ 4096) := hFL
  clear hT hF hFL
  have hmk := run_make_row' (P := Yba.prog) 42 32 (.slice none 0 0) 24 Yba.underlying42 Yba.info32 rfl .i64 .i64 n (by omega) (by omega)
  have hmk3 : ∀ w : World, (Instr.makeSlice 42 (.int .i64 3) (.int .i64 3)).run Yba.prog w = .ok (.slice (some ⟨w.heap.size, 0, none⟩) 3 3) (w.alloc (.cells (madeCells #[.slice none 0 0] 3) 32)) := run_make_row' (P := Yba.prog) 42 32 (.slice none 0 0) 24 Yba.underlying42 Yba.info32 rfl .i64 .i64 3 (by omega) (by omega)
  obtain ⟨i3, hi, hz0, hz1, hz2⟩ := info_parts Yba.info3
  have HI : Hid (Yba.prog.info? 3 = some i3 ∧ i3.zero = some (.int .i64 0) ∧ i3.size = 1 ∧ i3.bytes = 8) := ⟨hi, hz0, hz1, hz2⟩
  clear hi hz0 hz1 hz2
  go_enter Yba.func11, Yba.ntmps11
  go_wp2
  go_loopw [10] (fun kk wr => ∃ (k : Nat) (V : Nat → Value), kk = .int .i64 (k : Int) ∧ k ≤ n ∧ Hid (Chs w (cl T) k V wr)) (fun kk _ => n - (intOf kk).toNat)
  case atStart => exact ⟨0, _, rfl, Nat.zero_le _, Chs.start w (cl T) _⟩
  case round =>
    obtain ⟨k, V, rfl, hk, HC⟩ := hrel
    by_cases hlt : k < n
    · obtain rfl := HT.out.at_ (by omega)
      have hT2 := HT.out.later HC.out.bel
      have q0 := hT2.cells k hlt
      have b0 := hT2.byte k hlt
      have hc3 := cl_lt T k
      have hct : ((T k : Int) % 3) = ((cl T k : Nat) : Int) := by unfold cl; omega
      have q1 := HC.out.row.cell hc3
      have HO := HC.out.own (cl T k) hc3
      have hlen := chn_le (cl T) (cl T k) k
      have hlt' : (k : Int) < (n : Int) := by omega
      have hc3' : ((cl T k : Nat) : Int) < 3 := by omega
      have hsz := HC.out.bel.size
      clear hT2
      go_wp2_with (at_builtin; refine wpList_append_own_at _ rfl (.tmp 35) (.tmp 37) 32 rfl w.heap.size 3 i3 (.int .i64 0) 1 8 Yba.underlying32 HI.out.1 HI.out.2.1 HI.out.2.2.1 HI.out.2.2.2 rfl (by decide) (V (cl T k)) (chn (cl T) (cl T k) k).length (nats (chn (cl T) (cl T k) k)) rfl (HO.alloc _) ⟨wr.heap.size, 0, none⟩ 1 1 [.int .i64 (k : Int)] rfl rfl (World.news_of_block (heap_alloc_new wr _)) (by intro u hu; simp at hu; rw [hu]; rfl) (by unfold maxLen; omega) (by omega) (by simp; omega) ?_; intro v' w1 hown hgrow hnil hat; obtain ⟨a1, c1, hv1⟩ := own_shape hown; subst hv1; obtain ⟨⟨k0, k1⟩, hC2⟩ := HC.out.step hc3 hown hgrow hat; have HC2 : Hid (Chs w (cl T) (k + 1) (fun i => if i = cl T k then .slice a1 ((chn (cl T) (cl T k) k).length + 1) c1 else V i) (w1.setCell ⟨w.heap.size + 1, cl T k, none⟩ (.slice a1 ((chn (cl T) (cl T k) k).length + 1) c1))) := hC2; clear hC2 hgrow hnil hat hown)
      go_roundw
      case rel => exact ⟨k + 1, _, by go_num, by omega, HC2⟩
      case measure => simp [intOf]; omega
    · obtain rfl : n = k := by omega
      obtain ⟨wo, h⟩ : ∃ wo : World, wo = wr := ⟨wr, rfl⟩
      subst h
      go_wp2
      go_loopw [13] (fun kk wr => ∃ (k : Nat) (R : Nat → Value), kk = .int .i64 (k : Int) ∧ k ≤ n ∧ k ≤ m ∧ Hid (Arx w (cl T) n V wo.heap.size (arcL m FL FX) k R wr)) (fun kk _ => n - (intOf kk).toNat)
      case atStart => exact ⟨0, _, rfl, Nat.zero_le _, Nat.zero_le _, Arx.start HC.out⟩
      case round =>
        clear HC
        obtain ⟨k, R, rfl, hkn, hkm, HA⟩ := hrel
        by_cases hlt : k < n
        · have hlt' : (k : Int) < (n : Int) := by omega
          by_cases hlm : k < m
          · obtain rfl := HF.out.at_ (by omega)
            have hF2 := HF.out.later HA.out.chs.bel
            have q0 := hF2.rows k hlm
            have HCL : Hid (Calls Yba.prog 14 #[.slice (A' k) (FL k) (FC k)] wr fun e w' => ClAns (arcL m FL FX k) wr e w') := by
              have := clone_any (A' k) (ab k) (ao k) (FL k) (FC k) (FX k) wr (HL.out k hlm) (hF2.rat k hlm) (fun j hj => hF2.cells k j hlm hj)
              rw [show arcL m FL FX k = (List.range (FL k)).map (FX k) from if_pos hlm]
              exact this
            have hlm' : (k : Int) < (m : Int) := by omega
            clear hF2
            go_wp2_with (go_at_call 14; refine HCL.out.mono ?_; rintro e w1 ⟨a1, c1, rfl, hown, hbel⟩; obtain ⟨⟨k0, k1⟩, hA2⟩ := HA.out.step hlt hown hbel; have HA2 : Hid (Arx w (cl T) n V wo.heap.size (arcL m FL FX) (k + 1) (fun i => if i = k then .slice a1 (arcL m FL FX k).length c1 else R i) (w1.setCell ⟨wo.heap.size, k, none⟩ (.slice a1 (arcL m FL FX k).length c1))) := hA2; clear hA2 hown hbel)
            go_roundw
            case rel => exact ⟨k + 1, _, by go_num, by omega, by omega, HA2⟩
            case measure => simp [intOf]; omega
          · have hE : Hid (∀ u, k ≤ u → u < n → arcL m FL FX u = []) := fun u h1 h2 => if_neg (by omega)
            have hlm' : ¬ ((k : Int) < (m : Int)) := by omega
            go_wp2
            go_ret
            exact HA.out.fin rt hE.out _ _ _ _ rfl rfl rfl rfl rfl
        · have hE : Hid (∀ u, k ≤ u → u < n → arcL m FL FX u = []) := fun u h1 h2 => by omega
          have hlt' : ¬ ((k : Int) < (n : Int)) := by omega
          go_wp2
          go_ret
          exact HA.out.fin rt hE.out _ _ _ _ rfl rfl rfl rfl rfl

end Go.Proofs.Ybulkazoe
