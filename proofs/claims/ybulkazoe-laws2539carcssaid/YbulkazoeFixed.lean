import Derived.Test.YbulkazoeApp
import Derived.Deep.AppendLies
namespace Go.Proofs.Ybulkazoe
open Go.RowKit
set_option linter.unusedVariables false

def FxAns (M : Nat → Prop) (w : World) (sb rfb n : Nat) (E : Nat → List Int) (e : Ending) (w' : World) : Prop :=
  ∃ fa fc F ma mn mc G ca cc C, e = .returned (.slice fa n fc) ∧ Ph M w sb rfb fa n fc F ma mn mc G ca n cc C w' ∧ ∀ u, u < n → ∃ ra rc, F u = .slice ra (E u).length rc ∧ SrcL w' ra (E u) ∧ ∀ x, ra = some x → 0 < (E u).length → ∃ b o, x = ⟨b, o, none⟩

theorem grownBy_weak {w w' : World} {row : Option Nat} (h : w.grownBy w' none) : w.grownBy w' row := ⟨h.os, h.tape, h.output, h.size, fun k hk _ => h.block k hk (by simp)⟩

theorem Rd.ne {M : Nat → Prop} {w : World} {a : Addr} {v : Value} {b : Nat} (h : Rd M w a v) (hb : Free M w b) : a.block ≠ b := by
  intro e
  subst e
  rcases hb with h1 | h1
  · exact h.2 h1
  · have := World.block_lt_of_cell? _ _ h.1; omega

theorem Ph.ne40 {M : Nat → Prop} {w wr : World} {sb rfb : Nat} {fa : Option Addr} {fn fc : Nat} {F : Nat → Value} {ma : Option Addr} {mn mc : Nat} {G : Nat → Value} {g : Nat} {cn cc : Nat} {C : Nat → Value} (h : Ph M w sb rfb fa fn fc F ma mn mc G (some ⟨g, 0, none⟩) cn cc C wr) : sb ≠ g := by
  obtain ⟨S, hb, _⟩ := h.box
  exact fun e => h.cr.ne_box hb (by decide) g rfl e.symm

theorem cell_set {w : World} {b o g x : Nat} {v u : Value} (h : w.cell? ⟨b, o, none⟩ = some v) (hne : b ≠ g) : (w.setCell ⟨g, x, none⟩ u).cell? ⟨b, o, none⟩ = some v := by
  rw [World.cell?_setCell_other _ _ _ _ (fun e => by injection e; omega)]; exact h

theorem Ph.row40 {M : Nat → Prop} {w wr : World} {sb rfb : Nat} {fa : Option Addr} {fn fc : Nat} {F : Nat → Value} {ma : Option Addr} {mn mc : Nat} {G : Nat → Value} {g : Nat} {cn cc : Nat} {C : Nat → Value} (h : Ph M w sb rfb fa fn fc F ma mn mc G (some ⟨g, 0, none⟩) cn cc C wr) :
    wr.rowIs g 3 cc C := by
  obtain ⟨g', he, hr⟩ := h.cr.isSome _ rfl
  cases he; exact hr

/-- What the last loop has stored of fixed. -/
structure FxRel (ma : Option Addr) (A S : Nat → List Int) (N : Nat → Int) (n v : Nat) (F : Nat → Value) : Prop where
  past : ∀ t, t < v → ∃ ra, F t = .slice ra (ex A S N t).length (ex A S N t).length ∧ (ra = none → ex A S N t = []) ∧ ∀ x, ra = some x → 0 < (ex A S N t).length → ∃ mb, ma = some ⟨mb, 0, none⟩ ∧ x = ⟨mb, (memTo A S N t).length, none⟩
  todo : ∀ t, v ≤ t → t < n → F t = .slice none 0 0

theorem FxRel.step {mb : Nat} {A S : Nat → List Int} {N : Nat → Int} {n v : Nat} {F : Nat → Value} (h : FxRel (some ⟨mb, 0, none⟩) A S N n v F) (ra : Option Addr) (k : Nat) (hk : k = (ex A S N v).length) (hno : ra = none → k = 0) (hx : 0 < k → ra = some ⟨mb, (memTo A S N v).length, none⟩) :
    FxRel (some ⟨mb, 0, none⟩) A S N n (v + 1) (fun j => if j = v then .slice ra k k else F j) := by
  refine ⟨fun t ht => ?_, fun t h1 h2 => ?_⟩
  · by_cases e : t = v
    · subst e
      refine ⟨ra, by simp [hk], fun h => List.eq_nil_of_length_eq_zero (by rw [← hk]; exact hno h), fun y hy hp => ?_⟩
      have := hx (by omega)
      rw [hy] at this
      cases this
      exact ⟨mb, rfl, rfl⟩
    · simp only [e, if_false]; exact h.past t (by omega)
  · simp only [show t ≠ v by omega, if_false]; exact h.todo t (by omega) h2

theorem src_new (w : World) (x : Int) : SrcL (w.alloc (.cells #[.int .i64 x] 3)) (some ⟨w.heap.size, 0, none⟩) [x] :=
  ⟨(fun h => by cases h), fun a ha j v hj => by cases ha; exact World.news_of_block (heap_alloc_new w _) j v hj⟩

theorem FxRel.src {M : Nat → Prop} {w wr : World} {sb rfb : Nat} {fa : Option Addr} {fn fc : Nat} {F F' : Nat → Value} {ma : Option Addr} {mn mc : Nat} {G : Nat → Value} {ca : Option Addr} {cn cc : Nat} {C : Nat → Value} {A S : Nat → List Int} {N : Nat → Int} {n : Nat}
    (h : FxRel ma A S N n n F') (hP : Ph M w sb rfb fa fn fc F ma mn mc G ca cn cc C wr) (hmn : mn = (memTo A S N n).length) (hM : Mem G (memTo A S N n)) (u : Nat) (hu : u < n) : ∃ ra rc, F' u = .slice ra (ex A S N u).length rc ∧ SrcL wr ra (ex A S N u) ∧ ∀ x, ra = some x → 0 < (ex A S N u).length → ∃ b o, x = ⟨b, o, none⟩ := by
  obtain ⟨ra, h1, h2, h3⟩ := h.past u hu
  refine ⟨ra, _, h1, ⟨h2, fun x hx j v hj => ?_⟩, fun x hx hp => by obtain ⟨mb, _, rfl⟩ := h3 x hx hp; exact ⟨_, _, rfl⟩⟩
  have hjl : j < (ex A S N u).length := by
    have := (List.getElem?_eq_some_iff.1 hj).1
    rw [i64s_len] at this
    exact this
  obtain ⟨mb, hma, rfl⟩ := h3 x hx (by omega)
  obtain ⟨g, hg, hr⟩ := hP.am.isSome _ hma
  cases hg
  have hat := mem_at A S N n u j hu hjl
  have hlt := (List.getElem?_eq_some_iff.1 hat).1
  have hle := hP.am.le
  rw [Addr.add_lit, hr.cell (by omega)]
  have := hM ((memTo A S N u).length + j) (.int .i64 ((ex A S N u).getD j 0)) (by simp [i64s, hat])
  rw [this]
  rw [i64s_at _ _ hjl] at hj
  exact hj

theorem SrcL.to {w w' : World} {a : Option Addr} {L : List Int} (h : SrcL w a L) (hc : ∀ x v, w.cell? x = some v → w'.cell? x = some v) : SrcL w' a L := ⟨h.isNone, fun x hx j v hj => hc _ _ (h.isSome x hx j v hj)⟩

set_option maxHeartbeats 2000000 in
set_option maxRecDepth 100000 in
theorem fixed_any (M : Nat → Prop) (sb rfb kb cb ab : Nat) (rt : Option Addr) (n : Nat) (c : Nat → Nat) (A S : Nat → List Int) (fa : Option Addr) (fn fc : Nat) (F : Nat → Value) (ma : Option Addr) (mn mc : Nat) (G : Nat → Value) (ca : Option Addr) (cn cc : Nat) (C : Nat → Value) (w : World)
    (hn : n ≤ 1024) (hc : ∀ u, c u < 3) (hT : totTo A S n ≤ 2000000) (hE : Env (Rd M w) rfb kb cb ab rt n c A S) (hP : Ph M w sb rfb fa fn fc F ma mn mc G ca cn cc C w) :
    Calls Yba.prog 12 #[.pointer (some ⟨sb, 0, none⟩)] w fun e w' => FxAns M w sb rfb n (ex A S (nx c n)) e w' := by
  have HE : Hid (Env (Rd M w) rfb kb cb ab rt n c A S) := hE
  have HP : Hid (Ph M w sb rfb fa fn fc F ma mn mc G ca cn cc C w) := hP
  have HT : Hid (totTo A S n ≤ 2000000) := hT
  have HC : Hid (∀ u, c u < 3) := hc
  clear hE hP hT hc
  obtain ⟨p0, p38, p39, p40, pf, plt⟩ := HP.out.cells
  obtain ⟨ra, rc, r3⟩ := (HE.out.later (Kp.refl M w)).reads
  have r3' : w.cell? ⟨rfb, 3, none⟩ = some (.slice ra n rc) := r3
  clear r3
  go_enter Yba.func12, Yba.ntmps12
  go_wp2_with fail
  refine (zed_int ca cn cc n C w hn HP.out.cr).mono ?_
  rintro e w1 ⟨ca1, cc1, C1, rfl, hr1, hz1, hg1, hnew1⟩
  obtain ⟨⟨t0, t1, t2⟩, hP1⟩ := HP.out.newC hr1 hg1 hnew1
  have HP1 : Hid (Ph M w sb rfb fa fn fc F ma mn mc G ca1 n cc1 C1 (w1.setCell ⟨sb, 40, none⟩ (.slice ca1 n cc1))) := hP1
  have HZ1 : Hid (∀ i, i < n → C1 i = .int .i64 0) := hz1
  clear HP hr1 hz1 hg1 hnew1 hP1 p0 p38 p39 p40 pf plt r3'
  go_wp2
  go_loopw [37] (fun ii wr => ∃ (k : Nat) (C' : Nat → Value), ii = .int .i64 (k : Int) ∧ k ≤ n ∧ Hid (Ph M w sb rfb fa fn fc F ma mn mc G ca1 n cc1 C' wr) ∧ Hid ((∀ i, i < k → C' i = .int .i64 (-1)) ∧ ∀ i, k ≤ i → i < n → C' i = .int .i64 0)) (fun ii _ => n - (intOf ii).toNat)
  case atStart => exact ⟨0, C1, rfl, Nat.zero_le _, HP1, ⟨fun i hi => by omega, fun i _ hi => HZ1.out i hi⟩⟩
  case round =>
    clear HP1 HZ1 t0 t1 t2
    obtain ⟨k, C', rfl, hk, HP, HV⟩ := hrel
    obtain ⟨p0, p38, p39, p40, pf, plt⟩ := HP.out.cells
    by_cases hlt : k < n
    · obtain ⟨g, hg, hrow⟩ := HP.out.cr.pos (by have := HP.out.cr.le; omega)
      subst hg
      have hle := HP.out.cr.le
      have q0 := hrow.cell (show k < cc1 by omega)
      rw [HV.out.2 k (Nat.le_refl _) hlt] at q0
      have q1 := hrow.frozen k
      have hlt' : (k : Int) < (n : Int) := by omega
      have HN : Hid (Ph M w sb rfb fa fn fc F ma mn mc G (some ⟨g, 0, none⟩) n cc1 (fun j => if j = k then .int .i64 (-1) else C' j) (wr.setCell ⟨g, k, none⟩ (.int .i64 (-1)))) := HP.out.setC k _
      have HW : Hid ((∀ i, i < k + 1 → (fun j => if j = k then Value.int .i64 (-1) else C' j) i = .int .i64 (-1)) ∧ ∀ i, k + 1 ≤ i → i < n → (fun j => if j = k then Value.int .i64 (-1) else C' j) i = .int .i64 0) := by
        refine ⟨fun i hi => ?_, fun i hi hin => ?_⟩
        · by_cases h : i = k
          · simp [h]
          · simp only [h, if_false]; exact HV.out.1 i (by omega)
        · simp only [show i ≠ k by omega, if_false]; exact HV.out.2 i (by omega) hin
      clear HP HV hrow
      go_wp2
      go_roundw
      case rel => exact ⟨k + 1, _, by go_num, by omega, HN, HW⟩
      case measure => simp [intOf]; omega
    · obtain rfl : k = n := by omega
      have HF : Hid (∀ i, i < k → C' i = .int .i64 ((fun _ => (-1 : Int)) i)) := HV.out.1
      clear HV
      have ec : wr.cell? ⟨rfb, 0, none⟩ = some (.slice (some ⟨cb, 0, none⟩) 3 3) := (HE.out.later HP.out.kp).chains
      go_wp2
      go_loopw [52] (fun jj wr => ∃ (j : Nat) (C' : Nat → Value) (f : Nat → Int), jj = .int .i64 (j : Int) ∧ j ≤ 3 ∧ Hid (Ph M w sb rfb fa fn fc F ma mn mc G ca1 k cc1 C' wr) ∧ Hid (∀ i, i < k → C' i = .int .i64 (f i)) ∧ Hid (CS c k j 1 f)) (fun jj _ => 3 - (intOf jj).toNat)
      case atStart => exact ⟨0, C', _, rfl, by omega, HP, HF, CS.start c k⟩
      case round =>
        clear HP HF p0 p38 p39 p40 pf plt ec
        obtain ⟨j, C', f, rfl, hj, HP, HF, HS⟩ := hrel
        obtain ⟨p0, p38, p39, p40, pf, plt⟩ := HP.out.cells
        by_cases hj3 : j < 3
        · obtain ⟨cj, ccj, e1, e2⟩ := (HE.out.later HP.out.kp).chain j hj3
          have e1' : wr.cell? ⟨cb, j, none⟩ = some (.slice cj (chn c j k).length ccj) := e1
          have HX : Hid (0 < (chn c j k).length → ∃ g, cj = some ⟨g, 0, none⟩ ∧ ∀ i, i < (chn c j k).length → Rd M w ⟨g, i, none⟩ (.int .i64 ((chn c j k).getD i 0 : Nat))) := by
            obtain ⟨cj', ccj', e1b, e2b⟩ := HE.out.chain j hj3
            have := e1b.later HP.out.kp
            have h3 : wr.cell? ⟨cb, j, none⟩ = some (.slice cj' (chn c j k).length ccj') := this
            rw [e1'] at h3
            simp at h3
            rw [h3.1]
            exact e2b
          have hlen : (chn c j k).length ≤ k := chn_le c j k
          have hj3' : (j : Int) < 3 := by omega
          clear e1 e2
          go_wp2
          go_loopw [8] (fun tt wr => ∃ (t : Nat) (C' : Nat → Value) (f : Nat → Int), tt = .int .i64 (t : Int) ∧ 1 ≤ t ∧ t ≤ k + 1 ∧ Hid (Ph M w sb rfb fa fn fc F ma mn mc G ca1 k cc1 C' wr) ∧ Hid (∀ i, i < k → C' i = .int .i64 (f i)) ∧ Hid (CS c k j t f)) (fun tt _ => k + 1 - (intOf tt).toNat)
          case atStart => exact ⟨1, C', f, rfl, by omega, by omega, HP, HF, HS⟩
          case round =>
            clear HP HF HS p0 p38 p39 p40 pf plt e1'
            obtain ⟨t, C', f, rfl, ht1, ht2, HP, HF, HS⟩ := hrel
            obtain ⟨p0, p38, p39, p40, pf, plt⟩ := HP.out.cells
            by_cases hlt : t < (chn c j k).length
            · obtain ⟨gx, hgx, hcx⟩ := HX.out (by omega)
              subst hgx
              obtain ⟨g, hg, hrow⟩ := HP.out.cr.pos (by have := HP.out.cr.le; omega)
              subst hg
              have hle := HP.out.cr.le
              have q0 : wr.cell? ⟨gx, t - 1, none⟩ = some (.int .i64 ((chn c j k).getD (t - 1) 0 : Nat)) := (hcx (t - 1) (by omega)).later HP.out.kp
              have q1 : wr.cell? ⟨gx, t, none⟩ = some (.int .i64 ((chn c j k).getD t 0 : Nat)) := (hcx t hlt).later HP.out.kp
              have hx := (chn_at c j k (t - 1) (by omega)).1
              have HST : Hid (CS c k j (t + 1) (upd f ((chn c j k).getD (t - 1) 0) ((chn c j k).getD t 0 : Nat))) := HS.out.step ht1 hlt
              have hgx : gx ≠ g := (hcx t hlt).ne (HP.out.fcn g rfl)
              have hsg : sb ≠ g := HP.out.ne40
              clear hcx HS
              generalize (chn c j k).getD (t - 1) 0 = x at *
              generalize (chn c j k).getD t 0 = y at *
              have q2 := hrow.cell (show x < cc1 by omega)
              rw [HF.out x hx] at q2
              have q3 := hrow.frozen x
              have HN : Hid (Ph M w sb rfb fa fn fc F ma mn mc G (some ⟨g, 0, none⟩) k cc1 (fun i => if i = x then .int .i64 (y : Int) else C' i) (wr.setCell ⟨g, x, none⟩ (.int .i64 (y : Int)))) := HP.out.setC x _
              have HW : Hid (∀ i, i < k → (fun i => if i = x then Value.int .i64 (y : Int) else C' i) i = .int .i64 (upd f x (y : Int) i)) := by
                intro i hi
                by_cases h : i = x
                · simp [upd, h]
                · simp only [upd, h, if_false]; exact HF.out i hi
              clear HP HF hrow
              have hlt' : (t : Int) < ((chn c j k).length : Int) := by omega
              have hx' : (x : Int) < (k : Int) := by omega
              have ht' : (1 : Int) ≤ (t : Int) := by omega
              have et : ((t : Int) - 1) = ((t - 1 : Nat) : Int) := by omega
              have hwr : IntKind.i64.wrap ((t : Int) - 1) = ((t - 1 : Nat) : Int) := by rw [IntKind.wrap_i64]; omega
              have hw1 : ((t - 1 : Nat) : Int) < ((chn c j k).length : Int) := by omega
              have hw0 : (0 : Int) ≤ ((t - 1 : Nat) : Int) := by omega
              have hx0 : (0 : Int) ≤ (x : Int) := by omega
              have ht0 : (0 : Int) ≤ (t : Int) := by omega
              clear et
              have s1 := cell_set (x := x) (u := .int .i64 (y : Int)) p40 hsg
              have s2 := cell_set (x := x) (u := .int .i64 (y : Int)) q0 hgx
              have s3 := cell_set (x := x) (u := .int .i64 (y : Int)) q1 hgx
              go_wp2
              go_region_held3 (fun w' => w'.cell? ⟨sb, 40, none⟩ = some (.slice (some ⟨g, 0, none⟩) k cc1) ∧ w'.cell? ⟨gx, t - 1, none⟩ = some (.int .i64 (x : Int)) ∧ w'.cell? ⟨gx, t, none⟩ = some (.int .i64 (y : Int))) (go_keep) (fail)
              all_goals
                go_wp2
                go_roundw
                case rel => exact ⟨t + 1, _, _, by go_num, by omega, by omega, HN.out.later (grownBy_drew _ _), HW, HST⟩
                case measure => simp [intOf]; omega
            · have HO : Hid (CS c k (j + 1) 1 f) := HS.out.over ht1 (by omega)
              clear HS
              go_wp2
              go_roundw
              case rel => exact ⟨j + 1, C', f, by go_num, by omega, HP, HF, HO⟩
              case measure => simp [intOf]; omega
        · obtain rfl : j = 3 := by omega
          have HN : Hid (∀ i, i < k → C' i = .int .i64 (nx c k i)) := fun i hi => by rw [HF.out i hi, HS.out.final (fun u _ => HC.out u) i hi]
          clear HF HS
          go_wp2
          go_loopw [9, 78] (fun aa uu wr => ∃ (u : Nat), uu = .int .i64 (u : Int) ∧ u ≤ k ∧ aa = .int .i64 (totTo A S u : Int) ∧ Hid (Ph M w sb rfb fa fn fc F ma mn mc G ca1 k cc1 C' wr)) (fun _ uu _ => k - (intOf uu).toNat)
          case atStart => exact ⟨0, rfl, Nat.zero_le _, rfl, HP⟩
          case round =>
            clear HP p0 p38 p39 p40 pf plt
            obtain ⟨u, rfl, hu, rfl, HP⟩ := hrel
            obtain ⟨p0, p38, p39, p40, pf, plt⟩ := HP.out.cells
            by_cases hlt : u < k
            · have HEL := HE.out.later HP.out.kp
              have e7 : wr.cell? ⟨rfb, 7, none⟩ = some (.pointer (some ⟨kb, 0, none⟩)) := HEL.forced
              have e6 : wr.cell? ⟨rfb, 6, none⟩ = some (.pointer rt) := HEL.rtp
              have e0 : wr.cell? ⟨kb, 0, none⟩ = some (.slice (some ⟨ab, 0, none⟩) k k) := HEL.arcs
              obtain ⟨au, acu, ea, _, _⟩ := HEL.arc u hlt
              have ea' : wr.cell? ⟨ab, u, none⟩ = some (.slice au (A u).length acu) := ea
              obtain ⟨sa, sc, _, hs⟩ := succ_det rt k S u wr hn hlt HEL.span
              have HSC : Hid (∀ w', (∀ x v, wr.cell? x = some v → w'.cell? x = some v) → Calls Yba.prog 16 #[.pointer rt, .int .i64 (u : Int)] w' fun e w'' => e = .returned (.slice sa (S u).length sc) ∧ ∃ q, w'' = w'.drewN q) := hs
              have hT1 : totTo A S (u + 1) ≤ totTo A S k := tot_mono A S hlt
              have hT2 := HT.out
              have HT3 : Hid (totTo A S (u + 1) = totTo A S u + ((A u).length + (S u).length + 1)) := rfl
              have hT4 : totTo A S u + ((A u).length + (S u).length + 1) ≤ 2000000 := by rw [← HT3.out]; omega
              have hlt' : (u : Int) < (k : Int) := by omega
              clear HEL ea hs hT1 hT2
              go_wp2
              go_quiet ((go_at_call 16; refine Calls.quiet_of (HSC.out _ ?_); exact fun x v h => h))
              go_wp2
              go_roundw
              case rel => exact ⟨u + 1, by go_num, by omega, by rw [HT3.out]; go_num, HP.out.later (grownBy_drewN _ _ _)⟩
              case measure => simp [intOf]; omega
            · obtain rfl : u = k := by omega
              have hmx := HP.out.am.max
              have hml := HP.out.am.le
              unfold maxLen at hmx
              have hT2 := HT.out
              go_wp2_with fail
              refine (grow_any ma mc (totTo A S u) G wr (HP.out.am.len 0 (Nat.zero_le _)) (by omega)).mono ?_
              rintro e w2 ⟨ma2, mc2, G2, rfl, hge2, hr2, hg2, hnew2⟩
              obtain ⟨⟨t0, t1, t2⟩, hP2⟩ := HP.out.newM hr2 (grownBy_weak hg2) hnew2
              have HP2 : Hid (Ph M w sb rfb fa fn fc F ma2 0 mc2 G2 ca1 u cc1 C' (w2.setCell ⟨sb, 39, none⟩ (.slice ma2 0 mc2))) := hP2
              obtain ⟨_, s38, _, _, sf, slt⟩ := HP2.out.cells
              have HG2 : Hid (totTo A S u ≤ mc2) := hge2
              have hg2' := grownBy_weak (row := blk ma) hg2
              have s38' : w2.cell? ⟨sb, 38, none⟩ = some (.slice fa fn fc) := by
                rw [World.cell?_setCell_other _ _ _ _ (fun e => by injection e; omega)] at s38; exact s38
              clear HP hr2 hg2 hnew2 hP2 hge2 p0 p38 p39 p40 pf plt s38 sf hg2'
              go_wp2_with fail
              refine (zed_rows fa fn fc u F _ hn HP2.out.fx).mono ?_
              rintro e w3 ⟨fa3, fc3, F3, rfl, hr3, hz3, hg3, hnew3⟩
              obtain ⟨⟨v0, v1, v2⟩, hP3⟩ := HP2.out.newF hr3 hg3 hnew3
              have HP3 : Hid (Ph M w sb rfb fa3 u fc3 F3 ma2 0 mc2 G2 ca1 u cc1 C' (w3.setCell ⟨sb, 38, none⟩ (.slice fa3 u fc3))) := hP3
              have HZ3 : Hid (∀ i, i < u → F3 i = .slice none 0 0) := hz3
              clear HP2 hr3 hz3 hg3 hnew3 hP3 t0 t1 t2 s38' slt
              go_wp2
              go_loopw [124] (fun vv wr => ∃ (v mn : Nat) (F' G' : Nat → Value), vv = .int .i64 (v : Int) ∧ v ≤ u ∧ Hid (Ph M w sb rfb fa3 u fc3 F' ma2 mn mc2 G' ca1 u cc1 C' wr) ∧ Hid (mn = (memTo A S (nx c u) v).length) ∧ Hid (Mem G' (memTo A S (nx c u) v)) ∧ Hid (FxRel ma2 A S (nx c u) u v F')) (fun vv _ => u - (intOf vv).toNat)
              case atStart => exact ⟨0, 0, F3, G2, rfl, Nat.zero_le _, HP3, rfl, (fun i x h => by simp [memTo, i64s] at h), ⟨fun t ht => by omega, fun t _ ht => HZ3.out t ht⟩⟩
              case round =>
                clear HP3 HZ3 v0 v1 v2
                obtain ⟨v, mn, F', G', rfl, hv, HP, HMN, HM, HF⟩ := hrel
                obtain ⟨p0, p38, p39, p40, pf, plt⟩ := HP.out.cells
                by_cases hlt : v < u
                · have hT1 : totTo A S (v + 1) ≤ totTo A S u := tot_mono A S hlt
                  have hT2 := HT.out
                  have hT3 : totTo A S (v + 1) = totTo A S v + ((A v).length + (S v).length + 1) := rfl
                  have hT4 := HG2.out
                  have hT5 := mem_le A S (nx c u) v
                  have hmn := HMN.out
                  have hroom : mn + (A v).length + (S v).length + 1 ≤ mc2 := by omega
                  have hmx : mn + (A v).length + (S v).length + 1 ≤ 2000000 := by omega
                  clear hT1 hT2 hT3 hT4 hT5 hmn
                  obtain ⟨mb, hg, _⟩ := HP.out.am.pos (by omega)
                  subst hg
                  obtain ⟨fb, hg, _⟩ := HP.out.fx.pos (by have := HP.out.fx.le; omega)
                  subst hg
                  obtain ⟨g, hg, _⟩ := HP.out.cr.pos (by have := HP.out.cr.le; omega)
                  subst hg
                  have HEL := HE.out.later HP.out.kp
                  have e7 : wr.cell? ⟨rfb, 7, none⟩ = some (.pointer (some ⟨kb, 0, none⟩)) := HEL.forced
                  have e0 : wr.cell? ⟨kb, 0, none⟩ = some (.slice (some ⟨ab, 0, none⟩) u u) := HEL.arcs
                  obtain ⟨au, acu, ea, eb, ec⟩ := HEL.arc v hlt
                  have ea' : wr.cell? ⟨ab, v, none⟩ = some (.slice au (A v).length acu) := ea
                  have HSA : Hid (SrcL wr au (A v)) := ⟨eb, ec⟩
                  have hlt' : (v : Int) < (u : Int) := by omega
                  clear HEL ea eb ec
                  have hr1 : mn + (A v).length ≤ mc2 := by omega
                  go_wp2_with fail
                  go_cut [] (fun wx => ∃ (m2 : Nat) (G2 : Nat → Value), Hid (m2 = mn + (A v).length) ∧ Hid (Ph M w sb rfb (some ⟨fb, 0, none⟩) u fc3 F' (some ⟨mb, 0, none⟩) m2 mc2 G2 (some ⟨g, 0, none⟩) u cc1 C' wx) ∧ Hid (Mem G2 (memTo A S (nx c u) v ++ A v)))
                  case first =>
                    go_region_law ((refine step_app rfl (.tmp 136) (.tmp 146) rfl (memTo A S (nx c u) v) (A v) au acu (by simp [Act.eval]) (by simp [Act.eval]) (HP.out.later (grownBy_drew _ _)) (HSA.out.to fun x v h => h) HM.out HMN.out hr1 ?_; intro w1 G1 k0 k1 k2 K3 K4))
                    all_goals (try go_wp2_with fail)
                    all_goals go_meet
                    all_goals exact ⟨_, G1, rfl, K3, K4⟩
                  case rest =>
                    obtain ⟨m2, G2, HM2, HP2, HMM2⟩ := hcut
                    clear HP HM HSA p0 p38 p39 p40 pf plt e7 e0 ea'
                    have hmm2 := HM2.out
                    have hroom2 : m2 + (S v).length + 1 ≤ mc2 := by omega
                    have hr2 : m2 + (S v).length ≤ mc2 := by omega
                    have hmx2 : m2 + (S v).length + 1 ≤ 2000000 := by omega
                    have hm2' : mn ≤ m2 := by omega
                    clear hmm2 hr1
                    have HEL := HE.out.later HP2.out.kp
                    obtain ⟨p0, p38, p39, p40, pf, plt⟩ := HP2.out.cells
                    have e6 : wc.cell? ⟨rfb, 6, none⟩ = some (.pointer rt) := HEL.rtp
                    obtain ⟨sa, sc, hsa, hs⟩ := succ_det rt u S v wc hn hlt HEL.span
                    have HSA : Hid (SrcL wc sa (S v)) := hsa
                    have HSC : Hid (∀ w', (∀ x v, wc.cell? x = some v → w'.cell? x = some v) → Calls Yba.prog 16 #[.pointer rt, .int .i64 (v : Int)] w' fun e w'' => e = .returned (.slice sa (S v).length sc) ∧ ∃ q, w'' = w'.drewN q) := hs
                    clear HEL hs hsa
                    go_wp2_with fail
                    go_cut [] (fun wx => ∃ (m3 : Nat) (G3 : Nat → Value), Hid (m3 = m2 + (S v).length) ∧ Hid (Ph M w sb rfb (some ⟨fb, 0, none⟩) u fc3 F' (some ⟨mb, 0, none⟩) m3 mc2 G3 (some ⟨g, 0, none⟩) u cc1 C' wx) ∧ Hid (Mem G3 (memTo A S (nx c u) v ++ A v ++ S v)))
                    case first =>
                      go_region_law (first
                        | (refine step_app rfl (.tmp 154) (.tmp 160) rfl (memTo A S (nx c u) v ++ A v) (S v) sa sc (by simp [Act.eval]) (by simp [Act.eval]) (HP2.out.later (grownBy_drewN _ _ _)) (HSA.out.to (by exact fun x v h => h)) HMM2.out (by rw [HM2.out, HMN.out]; simp) hr2 ?_; intro w1 G1 k0 k1 k2 K3 K4)
                        | (go_simp; go_wp2_with (go_at_call 16; refine (HSC.out _ (by exact fun x v h => h)).mono ?_; rintro e w2 ⟨rfl, q, rfl⟩)))
                      all_goals (try go_wp2_with fail)
                      all_goals go_meet
                      all_goals exact ⟨_, G1, rfl, K3, K4⟩
                    case rest =>
                      obtain ⟨m3, G3, HM3, HP3, HMM3⟩ := hcut
                      clear HP2 HMM2 HSA HSC p0 p38 p39 p40 pf plt e6
                      have hmm3 := HM3.out
                      have hroom3 : m3 + 1 ≤ mc2 := by omega
                      have hmx3 : m3 + 1 ≤ 2000000 := by omega
                      have hm3' : mn ≤ m3 := by omega
                      clear hmm3 hroom2 hmx2 hr2 hroom hmx hm2'
                      obtain ⟨p0, p38, p39, p40, pf, plt⟩ := HP3.out.cells
                      have hcl := HP3.out.cr.le
                      have q0 := HP3.out.row40.cell (show v < cc1 by omega)
                      rw [HN.out v hlt] at q0
                      clear hcl
                      go_upto_if 172 with fail
                      go_cut [] (fun wx => ∃ (m4 : Nat) (G4 : Nat → Value), Hid (m4 = m3 + (tl (nx c u v)).length) ∧ Hid (Ph M w sb rfb (some ⟨fb, 0, none⟩) u fc3 F' (some ⟨mb, 0, none⟩) m4 mc2 G4 (some ⟨g, 0, none⟩) u cc1 C' wx) ∧ Hid (Mem G4 (memTo A S (nx c u) v ++ A v ++ S v ++ tl (nx c u v))))
                      case first =>
                        by_cases hnx : 0 ≤ nx c u v
                        · have htl : tl (nx c u v) = [nx c u v] := by unfold tl; rw [if_pos hnx]
                          have HTL : Hid (tl (nx c u v) = [nx c u v]) := htl
                          clear htl
                          go_wp2_with (at_builtin; refine wpList_app rfl (.tmp 177) (.tmp 179) rfl (memTo A S (nx c u) v ++ A v ++ S v) [nx c u v] (some ⟨wc.heap.size, 0, none⟩) 1 rfl rfl (HP3.out.later (World.grownBy_alloc _ _ _)) (src_new _ _) HMM3.out (by rw [HM3.out, HM2.out, HMN.out]; simp [Nat.add_assoc]) hroom3 ?_; intro w1 G1 k0 k1 k2 K3 K4)
                          go_meet
                          rw [HTL.out]
                          exact ⟨_, G1, rfl, K3, K4⟩
                        · have htl : tl (nx c u v) = [] := by unfold tl; rw [if_neg hnx]
                          have HTL : Hid (tl (nx c u v) = []) := htl
                          clear htl
                          go_wp2_with fail
                          go_meet
                          rw [HTL.out]
                          exact ⟨m3, G3, (by show m3 = m3 + 0; rfl), HP3, by rw [List.append_nil]; exact HMM3⟩
                      case rest =>
                        obtain ⟨m4, G4, HM4, HP4, HMM4⟩ := hcut
                        clear HP3 HMM3 p0 p38 p39 p40 pf plt q0
                        have hm4 := HM4.out
                        have htl := tl_le (nx c u v)
                        have hm4a : mn ≤ m4 := by omega
                        have hm4b : m4 ≤ mc2 := by omega
                        have hm4c : m4 ≤ 2000000 := by omega
                        clear hm4 htl hroom3 hmx3 hm3'
                        obtain ⟨p0, p38, p39, p40, pf, plt⟩ := HP4.out.cells
                        obtain ⟨fb', hfe, hrowf⟩ := HP4.out.fx.isSome _ rfl
                        cases hfe
                        have hfl := HP4.out.fx.le
                        have q0 := hrowf.cell (show v < fc3 by omega)
                        rw [HF.out.todo v (Nat.le_refl _) hlt] at q0
                        have q1 := hrowf.frozen v
                        obtain ⟨SS, hbox, _⟩ := HP4.out.box
                        have hsf : sb ≠ fb := fun e => rowIs_ne hrowf hbox (by decide) e.symm
                        clear hbox hrowf hfl
                        have s1 : ∀ V, (wc.setCell ⟨fb, v, none⟩ V).cell? ⟨sb, 38, none⟩ = some (.slice (some ⟨fb, 0, none⟩) u fc3) := fun V => cell_set p38 hsf
                        have s2 : ∀ V, (wc.setCell ⟨fb, v, none⟩ V).cell? ⟨sb, 39, none⟩ = some (.slice (some ⟨mb, 0, none⟩) m4 mc2) := fun V => cell_set p39 hsf
                        have i0 : (0 : Int) ≤ (v : Int) := by omega
                        have i1 : (0 : Int) ≤ (mn : Int) := by omega
                        have i2 : (mn : Int) ≤ (m4 : Int) := by omega
                        have i3 : (m4 : Int) ≤ (mc2 : Int) := by omega
                        have i4 : (0 : Int) ≤ (m4 : Int) := by omega
                        go_wp2_with fail
                        go_region_held3 (fun w' => w'.cell? ⟨sb, 38, none⟩ = some (.slice (some ⟨fb, 0, none⟩) u fc3) ∧ w'.cell? ⟨sb, 39, none⟩ = some (.slice (some ⟨mb, 0, none⟩) m4 mc2)) (go_keep) (fail)
                        have HMN5 : Hid (m4 = (memTo A S (nx c u) (v + 1)).length) := by
                          show m4 = (memTo A S (nx c u) v ++ (A v ++ S v ++ tl (nx c u v))).length
                          rw [HM4.out, HM3.out, HM2.out, HMN.out]
                          simp only [List.length_append]
                          omega
                        have HMM5 : Hid (Mem G4 (memTo A S (nx c u) (v + 1))) := by
                          have h5 := HMM4.out
                          show Mem G4 (memTo A S (nx c u) v ++ (A v ++ S v ++ tl (nx c u v)))
                          rw [← List.append_assoc, ← List.append_assoc]
                          exact h5
                        have HK5 : Hid (m4 - mn = (ex A S (nx c u) v).length) := by
                          show m4 - mn = (A v ++ S v ++ tl (nx c u v)).length
                          rw [HM4.out, HM3.out, HM2.out]
                          simp only [List.length_append]
                          omega
                        go_wp2
                        go_roundw
                        case rel => exact ⟨v + 1, m4, _, G4, by go_num, by omega, (HP4.out.setF v _).later (grownBy_drew _ _), HMN5, HMM5, HF.out.step _ _ HK5.out (fun h => by (try split at h) <;> cases h) (fun h => by (try split) <;> first | (exfalso; omega) | rw [← HMN.out])⟩
                        case measure => simp [intOf]; omega
                · obtain rfl : v = u := by omega
                  go_wp2
                  go_ret
                  exact ⟨_, _, F', _, mn, _, G', _, _, C', rfl, HP.out, fun t ht => HF.out.src HP.out HMN.out HM.out t ht⟩

end Go.Proofs.Ybulkazoe
