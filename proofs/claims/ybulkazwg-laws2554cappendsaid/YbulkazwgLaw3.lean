import Derived.Test.YbulkazwgRefer
import Derived.Deep.RegionWith
import Derived.Deep.DeepMust
import Derived.Deep.QuietTactic
import Derived.BigQuiet
namespace Go.Proofs.Ybulkazwg
open Go.RowKit
set_option linter.unusedVariables false

/-- An argument: a slice of numbers f j of kind k. -/
structure Arg (w : World) (k : IntKind) (a : Option Addr) (b o l : Nat) (f : Nat → Int) : Prop where
  at_ : 0 < l → a = some ⟨b, o, none⟩
  cells : ∀ j, j < l → w.cell? ⟨b, o + j, none⟩ = some (.int k (f j))

theorem Arg.later {w w' : World} {k : IntKind} {a : Option Addr} {b o l : Nat} {f : Nat → Int} (h : Arg w k a b o l f) (hb : Below w.heap.size w w') {j : Nat} (hj : j < l) : w'.cell? ⟨b, o + j, none⟩ = some (.int k (f j)) :=
  (hb.cell (World.block_lt_of_cell? _ _ (h.cells j hj))).trans (h.cells j hj)

/-- What the last two loops read. -/
structure Fin (w wS : World) (pb : Nat) (keep : Bool) (rv vv : Value) (RS VS : List Int) (cR gV cV : Nat) (wr : World) : Prop where
  par : Par w.heap.size w pb keep rv vv RS VS wr
  two : Two wS.heap.size wS wS.heap.size 24 RS.length cR (u64s RS) gV 27 VS.length cV (u32s VS) wr

theorem Fin.keep {w wS : World} {pb : Nat} {keep : Bool} {rv vv : Value} {RS VS : List Int} {cR gV cV : Nat} {wr w' : World} (h : Fin w wS pb keep rv vv RS VS cR gV cV wr) (hb : Below wr.heap.size wr w') : Fin w wS pb keep rv vv RS VS cR gV cV w' :=
  ⟨h.par.keep hb, h.two.keep hb⟩

theorem Fin.readR {w wS : World} {pb : Nat} {keep : Bool} {g cr : Nat} {vv : Value} {RS VS : List Int} {cR gV cV : Nat} {wr : World} (h : Fin w wS pb keep (.slice (some ⟨g, 0, none⟩) RS.length cr) vv RS VS cR gV cV wr) {z : Nat} (hz : z < RS.length) :
    ∃ x, wr.cell? ⟨g, z, none⟩ = some (.int .u64 x) ∧ wr.cell? ⟨wS.heap.size, z, none⟩ = some (.int .u64 x) :=
  ⟨RS.getD z 0, by rw [h.par.ownR.cellAt z (by omega)]; exact u64s_at RS z hz, by rw [h.two.ownA.cellAt z (by omega)]; exact u64s_at RS z hz⟩

theorem Fin.readV {w wS : World} {pb : Nat} {keep : Bool} {g cr : Nat} {rv : Value} {RS VS : List Int} {cR gV cV : Nat} {wr : World} (h : Fin w wS pb keep rv (.slice (some ⟨g, 0, none⟩) VS.length cr) RS VS cR gV cV wr) {z : Nat} (hz : z < VS.length) :
    ∃ x, wr.cell? ⟨g, z, none⟩ = some (.int .u32 x) ∧ wr.cell? ⟨gV, z, none⟩ = some (.int .u32 x) :=
  ⟨VS.getD z 0, by rw [h.par.ownV.cellAt z (by omega)]; exact u32s_at VS z hz, by rw [h.two.ownB.cellAt z (by omega)]; exact u32s_at VS z hz⟩

set_option maxHeartbeats 4000000 in
set_option maxRecDepth 100000 in
theorem law3 (a0 : Option Addr) (b0 o0 l0 c0 : Nat) (R : Nat → Int) (a1 : Option Addr) (b1 o1 l1 c1 : Nat) (V : Nat → Int) (a2 : Option Addr) (b2 o2 l2 c2 : Nat) (I : Nat → Int) (a3 : Option Addr) (b3 o3 l3 c3 : Nat) (F : Nat → Int) (keep : Bool) (w : World)
    (h0 : l0 ≤ 1024) (h1 : l1 ≤ 1024) (h2 : l2 ≤ 1024) (h3 : l3 ≤ 1024) (A0 : Hid (Arg w .u64 a0 b0 o0 l0 R)) (A1 : Hid (Arg w .u32 a1 b1 o1 l1 V)) (A2 : Hid (Arg w .u64 a2 b2 o2 l2 I)) (A3 : Hid (Arg w .u32 a3 b3 o3 l3 F)) :
    Calls Yba.prog 3 #[.slice a0 l0 c0, .slice a1 l1 c1, .slice a2 l2 c2, .slice a3 l3 c3, .bool keep] w fun e w' => e = .returned (.bool true) ∧ Below w.heap.size w w' := by
  obtain ⟨i24, hi24, z24, s24, e24⟩ := info_parts Yba.info24
  obtain ⟨i27, hi27, z27, s27, e27⟩ := info_parts Yba.info27
  have m24 : ∀ n, n ≤ 4096 → i24.bytes * n ≤ 281474976710656 := by intro n hn; rw [e24]; omega
  have m27 : ∀ n, n ≤ 4096 → i27.bytes * n ≤ 281474976710656 := by intro n hn; rw [e27]; omega
  go_enter Yba.func3, Yba.ntmps3
  go_wp2_with (at_make; refine wpList_make_own _ rfl _ _ 22 rfl w.heap.size 24 i24 (.int .u64 0) 1 Yba.underlying22 hi24 z24 s24 .i64 .i64 _ l0 rfl rfl rfl (m24 _ (by omega)) (by unfold maxLen; omega) (Nat.le_refl _) ?_)
  intro w1 hown hgrow
  have H1 : Hid (One w.heap.size w w.heap.size 24 0 l0 (u64s (rowL R 0)) w1) := ⟨(Below.refl _ _).grown hgrow (Nat.le_refl _) (fun k hk => by cases hk), hown, hgrow.size⟩
  clear hown hgrow
  go_wp2
  go_loopw [11, 12] (fun v i wr => ∃ k : Nat, k ≤ l0 ∧ i = .int .i64 (k : Int) ∧ v = .slice (some ⟨w.heap.size, 0, none⟩) k l0 ∧ Hid (One w.heap.size w w.heap.size 24 k l0 (u64s (rowL R k)) wr)) (fun _ i _ => l0 - (intOf i).toNat)
  case atStart => exact ⟨0, Nat.zero_le _, rfl, rfl, H1⟩
  case round =>
    clear H1
    obtain ⟨k, hk, rfl, rfl, H1⟩ := hrel
    by_cases hlt : k < l0
    · obtain rfl := A0.out.at_ (by omega)
      have hlt' : (k : Int) < (l0 : Int) := by omega
      have q0 := A0.out.later H1.out.below hlt
      go_wp2_with (at_builtin; refine wpList_append_fits _ rfl (.tmp 51) (.tmp 56) 22 rfl w.heap.size 24 i24 1 Yba.underlying22 hi24 s24 w.heap.size k l0 _ rfl (H1.out.ownA.alloc _) ⟨wr.heap.size, 0, none⟩ 1 1 [.int .u64 (R k)] rfl rfl (cell_one_new _ _ _) (by intro u hu; simp at hu; subst hu; rfl) (by omega) ?_)
      intro w3 hown3 hgrow3
      have H3 : Hid (One w.heap.size w w.heap.size 24 (k + 1) l0 (u64s (rowL R (k + 1))) w3) := by rw [rowL_succ, u64s_snoc]; exact H1.out.step hown3 hgrow3
      clear hown3 hgrow3 H1 q0
      go_wp2
      go_roundw
      case rel => exact ⟨k + 1, by omega, by go_num, rfl, H3⟩
      case measure => simp [intOf]; omega
    · obtain rfl : k = l0 := by omega
      obtain ⟨wa, hwa⟩ : ∃ wa : World, wa = wr := ⟨wr, rfl⟩
      subst hwa
      have hBa := H1.out.hB
      go_wp2_with (at_make; refine wpList_make_own _ rfl _ _ 25 rfl w.heap.size 27 i27 (.int .u32 0) 1 Yba.underlying25 hi27 z27 s27 .i64 .i64 _ l1 rfl rfl rfl (m27 _ (by omega)) (by unfold maxLen; omega) hBa ?_)
      intro w1 hown hgrow
      have H2 : Hid (Two w.heap.size w w.heap.size 24 k k (u64s (rowL R k)) wa.heap.size 27 0 l1 (u32s (rowL V 0)) w1) := H1.out.two hown hgrow
      clear hown hgrow H1
      go_wp2
      go_loopw [13, 14] (fun v i wr => ∃ q : Nat, q ≤ l1 ∧ i = .int .i64 (q : Int) ∧ v = .slice (some ⟨wa.heap.size, 0, none⟩) q l1 ∧ Hid (Two w.heap.size w w.heap.size 24 k k (u64s (rowL R k)) wa.heap.size 27 q l1 (u32s (rowL V q)) wr)) (fun _ i _ => l1 - (intOf i).toNat)
      case atStart => exact ⟨0, Nat.zero_le _, rfl, rfl, H2⟩
      case round =>
        clear H2
        obtain ⟨q, hq, rfl, rfl, H2⟩ := hrel
        by_cases hlt : q < l1
        · obtain rfl := A1.out.at_ (by omega)
          have hlt' : (q : Int) < (l1 : Int) := by omega
          have q0 := A1.out.later H2.out.below hlt
          go_wp2_with (at_builtin; refine wpList_append_fits _ rfl (.tmp 67) (.tmp 72) 25 rfl w.heap.size 27 i27 1 Yba.underlying25 hi27 s27 wa.heap.size q l1 _ rfl (H2.out.ownB.alloc _) ⟨wr.heap.size, 0, none⟩ 1 1 [.int .u32 (V q)] rfl rfl (cell_one_new _ _ _) (by intro u hu; simp at hu; subst hu; rfl) (by omega) ?_)
          intro w3 hown3 hgrow3
          have H3 : Hid (Two w.heap.size w w.heap.size 24 k k (u64s (rowL R k)) wa.heap.size 27 (q + 1) l1 (u32s (rowL V (q + 1))) w3) := by rw [rowL_succ V, u32s_snoc]; exact H2.out.stepB hown3 hgrow3
          clear hown3 hgrow3 H2 q0
          go_wp2
          go_roundw
          case rel => exact ⟨q + 1, by omega, by go_num, rfl, H3⟩
          case measure => simp [intOf]; omega
        · obtain rfl : q = l1 := by omega
          obtain ⟨wb, hwb⟩ : ∃ wb : World, wb = wr := ⟨wr, rfl⟩
          subst hwb
          go_wp2
          go_loopw [16] (fun ii wr => ∃ (i : Nat) (rv vv : Value), i ≤ l2 ∧ ii = .int .i64 (i : Int) ∧ Hid (Par w.heap.size w wb.heap.size keep rv vv (refsTo R k I i) (viasTo V q I keep (viaAt l3 F) i) wr)) (fun ii _ => l2 - (intOf ii).toNat)
          case atStart => exact ⟨0, _, _, Nat.zero_le _, rfl, by rw [refsTo_zero, viasTo_zero]; exact H2.out.par (rowL_length _ _) (rowL_length _ _) _ rfl rfl rfl⟩
          case round =>
            clear H2
            obtain ⟨i, rv, vv, hi, rfl, HP⟩ := hrel
            by_cases hlt : i < l2
            · obtain rfl := A2.out.at_ (by omega)
              have hlt' : (i : Int) < (l2 : Int) := by omega
              have q0 := A2.out.later HP.out.below hlt
              go_wp2_with fail
              go_region_with (first | (go_at_call 5; go_must (refine (via_any a3 b3 o3 l3 c3 i F _ h3 (by omega) A3.out.at_ (fun j hj => A3.out.later HP.out.below.drew hj)).mono ?_; rintro e w5 ⟨rfl, rfl⟩)) | (go_at_call 4; go_must (refine (refer_u w.heap.size wb.heap.size keep rv vv R k V q I (viaAt l3 F) i w _ h0 h1 (by omega) (HP.out.keep (Below.refl _ _).drew)).mono ?_; rintro e w5 ⟨rfl, rv5, vv5, hP5⟩)))
              all_goals
                have HN : Hid (Par w.heap.size w wb.heap.size keep rv5 vv5 (refsTo R k I (i + 1)) (viasTo V q I keep (viaAt l3 F) (i + 1)) w5) := hP5
                clear HP hP5 q0
                go_wp2
                go_roundw
                case rel => exact ⟨i + 1, rv5, vv5, by omega, by go_num, HN⟩
                case measure => simp [intOf]; omega
            · obtain rfl : i = l2 := by omega
              obtain ⟨wS, hwS⟩ : ∃ wS : World, wS = wr := ⟨wr, rfl⟩
              subst hwS
              obtain ⟨ar, cr, hrv⟩ := own_shape HP.out.ownR
              obtain ⟨av, cv, hvv⟩ := own_shape HP.out.ownV
              subst hrv
              subst hvv
              have hsS := HP.out.hB
              go_wp2_with (at_make; refine wpList_make_own _ rfl _ _ 22 rfl wS.heap.size 24 i24 (.int .u64 0) 1 Yba.underlying22 hi24 z24 s24 .i64 .i64 _ (k + i) rfl rfl (by omega) (m24 _ (by omega)) (by unfold maxLen; omega) (Nat.le_refl _) ?_)
              intro w1 hown hgrow
              have H1 : Hid (One wS.heap.size wS wS.heap.size 24 0 (k + i) (u64s (rowL R 0)) w1) := ⟨(Below.refl _ _).grown hgrow (Nat.le_refl _) (fun k hk => by cases hk), hown, hgrow.size⟩
              clear hown hgrow
              go_wp2
              go_loopw [17, 18] (fun v jj wr => ∃ j : Nat, j ≤ k ∧ jj = .int .i64 (j : Int) ∧ v = .slice (some ⟨wS.heap.size, 0, none⟩) j (k + i) ∧ Hid (One wS.heap.size wS wS.heap.size 24 j (k + i) (u64s (rowL R j)) wr)) (fun _ jj _ => k - (intOf jj).toNat)
              case atStart => exact ⟨0, Nat.zero_le _, rfl, rfl, H1⟩
              case round =>
                clear H1
                obtain ⟨j, hj, rfl, rfl, H1⟩ := hrel
                by_cases hlt : j < k
                · obtain rfl := A0.out.at_ (by omega)
                  have hlt' : (j : Int) < (k : Int) := by omega
                  have q0 := A0.out.later (HP.out.below.trans (H1.out.below.mono hsS)) hlt
                  go_wp2_with (at_builtin; refine wpList_append_fits _ rfl (.tmp 106) (.tmp 111) 22 rfl wS.heap.size 24 i24 1 Yba.underlying22 hi24 s24 wS.heap.size j (k + i) _ rfl (H1.out.ownA.alloc _) ⟨wr.heap.size, 0, none⟩ 1 1 [.int .u64 (R j)] rfl rfl (cell_one_new _ _ _) (by intro u hu; simp at hu; subst hu; rfl) (by omega) ?_)
                  intro w3 hown3 hgrow3
                  have H3 : Hid (One wS.heap.size wS wS.heap.size 24 (j + 1) (k + i) (u64s (rowL R (j + 1))) w3) := by rw [rowL_succ, u64s_snoc]; exact H1.out.step hown3 hgrow3
                  clear hown3 hgrow3 H1 q0
                  go_wp2
                  go_roundw
                  case rel => exact ⟨j + 1, by omega, by go_num, rfl, H3⟩
                  case measure => simp [intOf]; omega
                · obtain rfl : j = k := by omega
                  obtain ⟨wc, hwc⟩ : ∃ wc : World, wc = wr := ⟨wr, rfl⟩
                  subst hwc
                  have hBc := H1.out.hB
                  go_wp2_with (at_make; refine wpList_make_own _ rfl _ _ 25 rfl wS.heap.size 27 i27 (.int .u32 0) 1 Yba.underlying25 hi27 z27 s27 .i64 .i64 _ (q + i) rfl rfl (by omega) (m27 _ (by omega)) (by unfold maxLen; omega) hBc ?_)
                  intro w1 hown hgrow
                  have H2 : Hid (Two wS.heap.size wS wS.heap.size 24 j (j + i) (u64s (rowL R j)) wc.heap.size 27 0 (q + i) (u32s (rowL V 0)) w1) := H1.out.two hown hgrow
                  clear hown hgrow H1
                  go_wp2
                  go_loopw [19, 20] (fun v tt wr => ∃ t : Nat, t ≤ q ∧ tt = .int .i64 (t : Int) ∧ v = .slice (some ⟨wc.heap.size, 0, none⟩) t (q + i) ∧ Hid (Two wS.heap.size wS wS.heap.size 24 j (j + i) (u64s (rowL R j)) wc.heap.size 27 t (q + i) (u32s (rowL V t)) wr)) (fun _ tt _ => q - (intOf tt).toNat)
                  case atStart => exact ⟨0, Nat.zero_le _, rfl, rfl, H2⟩
                  case round =>
                    clear H2
                    obtain ⟨t, ht, rfl, rfl, H2⟩ := hrel
                    by_cases hlt : t < q
                    · obtain rfl := A1.out.at_ (by omega)
                      have hlt' : (t : Int) < (q : Int) := by omega
                      have q0 := A1.out.later (HP.out.below.trans (H2.out.below.mono hsS)) hlt
                      go_wp2_with (at_builtin; refine wpList_append_fits _ rfl (.tmp 125) (.tmp 130) 25 rfl wS.heap.size 27 i27 1 Yba.underlying25 hi27 s27 wc.heap.size t (q + i) _ rfl (H2.out.ownB.alloc _) ⟨wr.heap.size, 0, none⟩ 1 1 [.int .u32 (V t)] rfl rfl (cell_one_new _ _ _) (by intro u hu; simp at hu; subst hu; rfl) (by omega) ?_)
                      intro w3 hown3 hgrow3
                      have H3 : Hid (Two wS.heap.size wS wS.heap.size 24 j (j + i) (u64s (rowL R j)) wc.heap.size 27 (t + 1) (q + i) (u32s (rowL V (t + 1))) w3) := by rw [rowL_succ V, u32s_snoc]; exact H2.out.stepB hown3 hgrow3
                      clear hown3 hgrow3 H2 q0
                      go_wp2
                      go_roundw
                      case rel => exact ⟨t + 1, by omega, by go_num, rfl, H3⟩
                      case measure => simp [intOf]; omega
                    · obtain rfl : t = q := by omega
                      have H3 : Hid (Two wS.heap.size wS wS.heap.size 24 (refsTo R j I 0).length (j + i) (u64s (refsTo R j I 0)) wc.heap.size 27 (viasTo V t I keep (viaAt l3 F) 0).length (t + i) (u32s (viasTo V t I keep (viaAt l3 F) 0)) wr) := by
                        rw [refsTo_zero, viasTo_zero, rowL_length, rowL_length]; exact H2.out
                      clear H2
                      go_wp2
                      go_loopw [17, 19, 21] (fun x y nn wr => ∃ n : Nat, n ≤ i ∧ nn = .int .i64 (n : Int) ∧ x = .slice (some ⟨wS.heap.size, 0, none⟩) (refsTo R j I n).length (j + i) ∧ y = .slice (some ⟨wc.heap.size, 0, none⟩) (viasTo V t I keep (viaAt l3 F) n).length (t + i) ∧ Hid (Two wS.heap.size wS wS.heap.size 24 (refsTo R j I n).length (j + i) (u64s (refsTo R j I n)) wc.heap.size 27 (viasTo V t I keep (viaAt l3 F) n).length (t + i) (u32s (viasTo V t I keep (viaAt l3 F) n)) wr)) (fun _ _ nn _ => i - (intOf nn).toNat)
                      case atStart => exact ⟨0, Nat.zero_le _, rfl, by rw [refsTo_zero, rowL_length], by rw [viasTo_zero, rowL_length], H3⟩
                      case round =>
                        clear H3
                        obtain ⟨n, hn, rfl, rfl, rfl, H3⟩ := hrel
                        by_cases hlt : n < i
                        · obtain rfl := A2.out.at_ (by omega)
                          have hlt' : (n : Int) < (i : Int) := by omega
                          have q0 := A2.out.later (HP.out.below.trans (H3.out.below.mono hsS)) hlt
                          have hr1 := refsTo_le R j I n
                          have hv1 := viasTo_le V t I keep (viaAt l3 F) n
                          by_cases hI : I n = 0
                          · have HI : Hid (I n = 0) := hI
                            have hI' : (I n == 0) = true := beq_iff_eq.2 hI
                            clear hI
                            go_wp2
                            go_roundw
                            case rel => exact ⟨n + 1, by omega, by go_num, by rw [refsTo_no R j I n HI.out], by rw [viasTo_no V t I keep (viaAt l3 F) n HI.out], by rw [refsTo_no R j I n HI.out, viasTo_no V t I keep (viaAt l3 F) n HI.out]; exact H3⟩
                            case measure => simp [intOf]; omega
                          · have HI : Hid (I n ≠ 0) := hI
                            have hI' : (I n == 0) = false := beq_eq_false_iff_ne.2 hI
                            clear hI
                            go_wp2_with (at_builtin; refine wpList_append_fits _ rfl (.tmp 143) (.tmp 148) 22 rfl wS.heap.size 24 i24 1 Yba.underlying22 hi24 s24 wS.heap.size _ (j + i) _ rfl (H3.out.ownA.alloc _) ⟨wr.heap.size, 0, none⟩ 1 1 [.int .u64 (I n)] rfl rfl (cell_one_new _ _ _) (by intro u hu; simp at hu; subst hu; rfl) (by omega) ?_)
                            intro w3 hown3 hgrow3
                            have H4 : Hid (Two wS.heap.size wS wS.heap.size 24 (refsTo R j I (n + 1)).length (j + i) (u64s (refsTo R j I (n + 1))) wc.heap.size 27 (viasTo V t I keep (viaAt l3 F) n).length (t + i) (u32s (viasTo V t I keep (viaAt l3 F) n)) w3) := by
                              rw [refsTo_yes R j I n HI.out, List.length_append, u64s_snoc]; exact H3.out.stepA hown3 hgrow3
                            clear hown3 hgrow3 H3 q0
                            cases keep with
                            | false =>
                              go_wp2
                              go_roundw
                              case rel => exact ⟨n + 1, by omega, by go_num, by rw [refsTo_yes R j I n HI.out, List.length_append]; rfl, by rw [viasTo_off V t I (viaAt l3 F) (n + 1) n], by rw [viasTo_off V t I (viaAt l3 F) (n + 1) n]; exact H4⟩
                              case measure => simp [intOf]; omega
                            | true =>
                              go_wp2_with fail
                              refine (via_any a3 b3 o3 l3 c3 n F w3 h3 (by omega) A3.out.at_ (fun j hj => A3.out.later (HP.out.below.trans (H4.out.below.mono hsS)) hj)).mono ?_
                              rintro e w5 ⟨rfl, hw5⟩
                              obtain rfl : w3 = w5 := hw5.symm
                              clear hw5
                              go_wp2_with (at_builtin; refine wpList_append_fits _ rfl (.tmp 151) (.tmp 155) 25 rfl wS.heap.size 27 i27 1 Yba.underlying25 hi27 s27 wc.heap.size _ (t + i) _ rfl (H4.out.ownB.alloc _) ⟨w3.heap.size, 0, none⟩ 1 1 [.int .u32 (viaAt l3 F n)] rfl rfl (cell_one_new _ _ _) (by intro u hu; simp at hu; subst hu; rfl) (by omega) ?_)
                              intro w6 hown6 hgrow6
                              have H5 : Hid (Two wS.heap.size wS wS.heap.size 24 (refsTo R j I (n + 1)).length (j + i) (u64s (refsTo R j I (n + 1))) wc.heap.size 27 (viasTo V t I true (viaAt l3 F) (n + 1)).length (t + i) (u32s (viasTo V t I true (viaAt l3 F) (n + 1))) w6) := by
                                rw [viasTo_yes V t I (viaAt l3 F) n HI.out, List.length_append, u32s_snoc]; exact H4.out.stepB hown6 hgrow6
                              clear hown6 hgrow6 H4
                              go_wp2
                              go_roundw
                              case rel => exact ⟨n + 1, by omega, by go_num, by rw [refsTo_yes R j I n HI.out, List.length_append]; rfl, by rw [viasTo_yes V t I (viaAt l3 F) n HI.out, List.length_append]; rfl, H5⟩
                              case measure => simp [intOf]; omega
                        · obtain rfl : n = i := by omega
                          have hRl := refsTo_le R j I n
                          have hVl := viasTo_le V t I keep (viaAt l3 F) n
                          generalize refsTo R j I n = RS at *
                          generalize viasTo V t I keep (viaAt l3 F) n = VS at *
                          have HF : Hid (Fin w wS wb.heap.size keep (.slice ar RS.length cr) (.slice av VS.length cv) RS VS (j + n) wc.heap.size (t + n) wr) := ⟨HP.out.keep H3.out.below, H3.out⟩
                          obtain ⟨p0, p1, p2, _⟩ := HF.out.par.cell
                          clear HP H3
                          go_wp2
                          clear p0 p1 p2
                          go_loopw [22] (fun zz wq => ∃ z : Nat, z ≤ RS.length ∧ zz = .int .i64 (z : Int) ∧ Hid (Fin w wS wb.heap.size keep (.slice ar RS.length cr) (.slice av VS.length cv) RS VS (j + n) wc.heap.size (t + n) wq)) (fun zz _ => RS.length - (intOf zz).toNat)
                          case atStart => exact ⟨0, Nat.zero_le _, rfl, HF⟩
                          case round =>
                            clear HF
                            obtain ⟨z, hz, rfl, HF⟩ := hrel
                            by_cases hlt : z < RS.length
                            · obtain ⟨g, hg⟩ := own_some HF.out.par.ownR (by omega)
                              subst hg
                              obtain ⟨x, q1, q2⟩ := HF.out.readR hlt
                              obtain ⟨p0, _, _, _⟩ := HF.out.par.cell
                              have hlt' : (z : Int) < (RS.length : Int) := by omega
                              go_wp2
                              go_quiet (fail)
                              go_wp2
                              go_roundw
                              case rel => exact ⟨z + 1, by omega, by go_num, HF.out.keep (below_drewN (Below.refl _ _) _)⟩
                              case measure => simp [intOf]; omega
                            · obtain rfl : z = RS.length := by omega
                              go_wp2
                              go_loopw [23] (fun zz wq => ∃ z : Nat, z ≤ VS.length ∧ zz = .int .i64 (z : Int) ∧ Hid (Fin w wS wb.heap.size keep (.slice ar RS.length cr) (.slice av VS.length cv) RS VS (j + n) wc.heap.size (t + n) wq)) (fun zz _ => VS.length - (intOf zz).toNat)
                              case atStart => exact ⟨0, Nat.zero_le _, rfl, HF⟩
                              case round =>
                                clear HF
                                obtain ⟨z, hz, rfl, HF⟩ := hrel
                                by_cases hlt : z < VS.length
                                · obtain ⟨g, hg⟩ := own_some HF.out.par.ownV (by omega)
                                  subst hg
                                  obtain ⟨x, q1, q2⟩ := HF.out.readV hlt
                                  obtain ⟨_, p1, _, _⟩ := HF.out.par.cell
                                  have hlt' : (z : Int) < (VS.length : Int) := by omega
                                  go_wp2
                                  go_quiet (fail)
                                  go_wp2
                                  go_roundw
                                  case rel => exact ⟨z + 1, by omega, by go_num, HF.out.keep (below_drewN (Below.refl _ _) _)⟩
                                  case measure => simp [intOf]; omega
                                · obtain rfl : z = VS.length := by omega
                                  obtain ⟨_, _, p2, _⟩ := HF.out.par.cell
                                  go_wp2
                                  go_ret
                                  exact ⟨by simp, HF.out.par.below⟩

end Go.Proofs.Ybulkazwg
