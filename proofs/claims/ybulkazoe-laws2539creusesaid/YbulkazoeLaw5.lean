import Derived.Test.YbulkazoeTwo
import Derived.Test.YbulkazoeBuildW
import Derived.Test.YbulkazoeCheckN
namespace Go.Proofs.Ybulkazoe
open Go.RowKit
set_option linter.unusedVariables false

set_option maxHeartbeats 1000000 in
set_option maxRecDepth 100000 in
theorem law5_walk (t1 : Option Addr) (b1 o1 n1 c1 : Nat) (T1 : Nat → Nat) (t2 : Option Addr) (b2 o2 n2 c2 : Nat) (T2 : Nat → Nat) (fa : Option Addr) (fb fo m fc : Nat) (A' : Nat → Option Addr) (FL FC ab ao : Nat → Nat) (FX : Nat → Nat → Int) (w : World) (hn1 : n1 ≤ maxLen) (hn2 : n2 ≤ maxLen) (hm : m ≤ maxLen)
    (hT1 : Tags w t1 b1 o1 n1 T1) (hT2 : Tags w t2 b2 o2 n2 T2) (hF : Frc w fa fb fo m A' FL FC ab ao FX) :
    Calls Yba.prog 5 #[.slice t1 n1 c1, .slice t2 n2 c2, .slice fa m fc] w fun e w' => e = .returned (.bool true) ∧ Below w.heap.size w w' := by
  have HT1 : Hid (Tags w t1 b1 o1 n1 T1) := hT1
  have HT2 : Hid (Tags w t2 b2 o2 n2 T2) := hT2
  have HF : Hid (Frc w fa fb fo m A' FL FC ab ao FX) := hF
  have HM : Hid (n1 ≤ maxLen ∧ n2 ≤ maxLen ∧ m ≤ maxLen) := ⟨hn1, hn2, hm⟩
  clear hT1 hT2 hF hn1 hn2 hm
  cases hb1 : bigB n1 m FL with
  | true =>
    go_enter Yba.func5, Yba.ntmps5
    go_wp2_with (go_at_call_of 10 n1; refine (big_det t1 n1 c1 fa fb fo m fc A' FL FC ab ao FX w HM.out.1 HM.out.2.2 HF.out).mono ?_; rintro e w' ⟨rfl, hw⟩; have hw2 := hw.symm; subst hw2; rw [hb1])
    go_ret
    exact ⟨rfl, Below.refl _ _⟩
  | false =>
    cases hb2 : bigB n2 m FL with
    | true =>
      go_enter Yba.func5, Yba.ntmps5
      go_wp2_with (first
        | (go_at_call_of 10 n1; refine (big_det t1 n1 c1 fa fb fo m fc A' FL FC ab ao FX w HM.out.1 HM.out.2.2 HF.out).mono ?_; rintro e w' ⟨rfl, hw⟩; have hw2 := hw.symm; subst hw2; rw [hb1])
        | (go_at_call_of 10 n2; refine (big_det t2 n2 c2 fa fb fo m fc A' FL FC ab ao FX w HM.out.2.1 HM.out.2.2 HF.out).mono ?_; rintro e w' ⟨rfl, hw⟩; have hw2 := hw.symm; subst hw2; rw [hb2]))
      go_ret
      exact ⟨rfl, Below.refl _ _⟩
    | false =>
      obtain ⟨hn1, hm, hsum⟩ := bigB_out hb1
      obtain ⟨hn2, _, _⟩ := bigB_out hb2
      have HL : Hid (∀ r, r < m → FL r ≤ 4096) := fun r hr => Nat.le_trans (le_sumTo FL hr) hsum
      have HS1 : Hid (totTo (arcL m FL FX) (fun _ => []) n1 ≤ 2000000) := arc_tot n1 m FL FX _ hn1 hsum (fun u hu => by simp)
      have HS2 : Hid (totTo (arcL m FL FX) (fun _ => []) n2 ≤ 2000000) := arc_tot n2 m FL FX _ hn2 hsum (fun u hu => by simp)
      clear hsum
      go_enter Yba.func5, Yba.ntmps5
      go_upto_region 3 with (first
        | (go_at_call_of 10 n1; refine (big_det t1 n1 c1 fa fb fo m fc A' FL FC ab ao FX w HM.out.1 HM.out.2.2 HF.out).mono ?_; rintro e w' ⟨rfl, hw⟩; have hw2 := hw.symm; subst hw2; rw [hb1])
        | (go_at_call_of 10 n2; refine (big_det t2 n2 c2 fa fb fo m fc A' FL FC ab ao FX w HM.out.2.1 HM.out.2.2 HF.out).mono ?_; rintro e w' ⟨rfl, hw⟩; have hw2 := hw.symm; subst hw2; rw [hb2]))
      go_upto_region 4 with (go_at_call 11; refine (build_any t1 b1 o1 n1 c1 T1 fa fb fo m fc A' FL FC ab ao FX none w hn1 hm HL.out HT1.out HF.out).mono ?_; rintro e w1 ⟨rf1, kb1, cb1, ab1, rfl, hbel1, _, henv1⟩; have HB1 : Hid (Below w.heap.size w w1) := hbel1; have HE1 : Hid (EnvOf w w1 rf1 kb1 cb1 ab1 none n1 (cl T1) (arcL m FL FX)) := henv1; clear hbel1 henv1)
      go_upto_region 5 with (go_at_call 12; refine (fix_first w w w1 rf1 kb1 cb1 ab1 none n1 (cl T1) (arcL m FL FX) (fun _ => []) _ hn1 (cl_lt T1) HS1.out (Below.refl _ _) HB1.out HE1.out (.inl ⟨rfl, fun _ _ => rfl⟩) rfl rfl rfl rfl rfl).mono ?_; rintro e w2 ⟨ra, rcc, rfl, hres, hbel2, hag⟩; have HR2 : Hid (ResL w2 ra n1 (ex (arcL m FL FX) (fun _ => []) (nx (cl T1) n1))) := hres; have HB2 : Hid (Below w.heap.size w w2) := hbel2; have HA2 : Hid (Again w.heap.size w1.heap.size w2) := hag; clear hres hbel2 hag)
      go_upto_region 7 with (go_at_call 13; refine (check_none ra rcc t1 b1 o1 n1 c1 T1 fa fb fo m fc A' FL FC ab ao FX w2 hn1 hm HL.out (HT1.out.later HB2.out) (HF.out.later HB2.out) HR2.out).mono ?_; rintro e w3 ⟨rfl, hb3⟩; have HB3 : Hid (Below w.heap.size w w3) := HB2.out.trans (hb3.mono HB2.out.size); have HA3 : Hid (Again w.heap.size w1.heap.size w3) := HA2.out.later hb3; clear hb3)
      obtain ⟨sb, hsb⟩ : ∃ sb, sb = w1.heap.size := ⟨_, rfl⟩
      rw [← hsb] at HA3 ⊢
      clear hsb HR2 HB2 HA2 HE1 HB1
      have HBD : Hid (Calls Yba.prog 11 #[.slice t2 n2 c2, .slice fa m fc, .pointer none] w3 fun e w' => BdAns w3 none n2 (cl T2) (arcL m FL FX) e w') := build_any t2 b2 o2 n2 c2 T2 fa fb fo m fc A' FL FC ab ao FX none w3 hn2 hm HL.out (HT2.out.later HB3.out) (HF.out.later HB3.out)
      go_upto_region 8 with (go_at_call 11; refine HBD.out.mono ?_; rintro e w4 ⟨rf2, kb2, cb2, ab2, rfl, hbel4, _, henv2⟩; obtain ⟨⟨rold, k0⟩, k1, k2⟩ := (HA3.out.later hbel4).box; have HB4 : Hid (Below w3.heap.size w3 w4) := hbel4; have HE4 : Hid (EnvOf w3 w4 rf2 kb2 cb2 ab2 none n2 (cl T2) (arcL m FL FX)) := henv2; clear hbel4 henv2)
      go_upto_region 9 with (go_at_call 12; refine (fix_again w w3 w4 sb rf2 kb2 cb2 ab2 n2 (cl T2) (arcL m FL FX) hn2 (cl_lt T2) HS2.out HB3.out HA3.out HB4.out HE4.out).mono ?_; rintro e w5 ⟨rb, rcb, rfl, hres, hbel5, hag⟩; have HR5 : Hid (ResL w5 rb n2 (ex (arcL m FL FX) (fun _ => []) (nx (cl T2) n2))) := hres; have HB5 : Hid (Below w.heap.size w w5) := hbel5; clear hres hbel5 hag)
      go_wp2_with (go_at_call 13; refine (check_none rb rcb t2 b2 o2 n2 c2 T2 fa fb fo m fc A' FL FC ab ao FX w5 hn2 hm HL.out (HT2.out.later HB5.out) (HF.out.later HB5.out) HR5.out).mono ?_; rintro e w6 ⟨rfl, hb6⟩; have HB6 : Hid (Below w.heap.size w w6) := HB5.out.trans (hb6.mono HB5.out.size); clear hb6)
      go_ret
      exact ⟨rfl, HB6.out⟩

end Go.Proofs.Ybulkazoe
