import Derived.Test.YbulkazwgMem
namespace Go.Proofs.Ybulkazwg
open Go.RowKit
set_option linter.unusedVariables false

theorem Yba.info24 : (Yba.prog.info? 24).map (fun i => (i.zero, i.size, i.bytes)) = some (some (.int .u64 0), 1, 8) := by kernel_rfl
theorem Yba.info27 : (Yba.prog.info? 27).map (fun i => (i.zero, i.size, i.bytes)) = some (some (.int .u32 0), 1, 4) := by kernel_rfl

set_option maxHeartbeats 400000 in
theorem via_any (a : Option Addr) (b o l c i : Nat) (f : Nat → Int) (w : World) (hl : l ≤ 1024) (hi : i ≤ 1024) (ha : 0 < l → a = some ⟨b, o, none⟩) (hc : ∀ j, j < l → w.cell? ⟨b, o + j, none⟩ = some (.int .u32 (f j))) :
    Calls Yba.prog 5 #[.slice a l c, .int .i64 (i : Int)] w fun e w' => e = .returned (.int .u32 (viaAt l f i)) ∧ w' = w := by
  by_cases h0 : l = 0
  · subst h0
    go_enter Yba.func5, Yba.ntmps5
    go_wp2
    go_ret
    exact ⟨by simp [viaAt], rfl⟩
  · obtain rfl := ha (by omega)
    have h0' : ((l : Int) == 0) = false := beq_eq_false_iff_ne.2 (by omega)
    have hm : i % l < l := Nat.mod_lt _ (by omega)
    have q0 := hc (i % l) hm
    have HV : Hid (viaAt l f i = f (i % l)) := by unfold viaAt; rw [if_neg h0]; rfl
    have hl0 : (0 : Int) < (l : Int) := by omega
    clear hc
    go_enter Yba.func5, Yba.ntmps5
    go_wp2
    go_ret
    exact ⟨by rw [HV.out]; rfl, rfl⟩

set_option maxHeartbeats 400000 in
theorem refer_no (a : Addr) (id v : Int) (w : World) (hid : id = 0) : Calls Yba.prog 4 #[.pointer (some a), .int .u64 id, .int .u32 v] w fun e w' => e = .returned (.tuple #[]) ∧ w' = w := by
  subst hid
  go_enter Yba.func4, Yba.ntmps4
  go_wp2
  go_end0
  exact ⟨rfl, rfl⟩

def Referred (B : Nat) (w : World) (pb : Nat) (keep : Bool) (rs vs : List Int) (e : Ending) (w' : World) : Prop :=
  e = .returned (.tuple #[]) ∧ ∃ rv vv, Par B w pb keep rv vv rs vs w'

set_option maxHeartbeats 1000000 in
set_option maxRecDepth 100000 in
theorem refer_yes (B pb : Nat) (keep : Bool) (rv vv : Value) (rs vs : List Int) (id v : Int) (w wr : World) (hid : id ≠ 0) (hr : rs.length ≤ 4096) (hv : vs.length ≤ 4096) (hP : Par B w pb keep rv vv rs vs wr) :
    Calls Yba.prog 4 #[.pointer (some ⟨pb, 0, none⟩), .int .u64 id, .int .u32 v] wr fun e w' => Referred B w pb keep (rs ++ [id]) (if keep = true then vs ++ [v] else vs) e w' := by
  obtain ⟨i24, hi24, z24, s24, b24⟩ := info_parts Yba.info24
  obtain ⟨i27, hi27, z27, s27, b27⟩ := info_parts Yba.info27
  obtain ⟨q0, q1, q2, q3⟩ := hP.cell
  obtain ⟨a0, c0, hrv⟩ := own_shape hP.ownR
  subst hrv
  obtain ⟨av, cv, hvv⟩ := own_shape hP.ownV
  subst hvv
  have hid' : (id != 0) = true := by rw [bne_iff_ne]; exact hid
  have HP : Hid (Par B w pb keep (.slice a0 rs.length c0) (.slice av vs.length cv) rs vs wr) := hP
  have hpb : pb < wr.heap.size := World.block_lt_of_cell? _ _ q0
  have hB := hP.hB
  clear hP q1 q2
  go_enter Yba.func4, Yba.ntmps4
  go_wp2_with (at_builtin; refine wpList_append_own _ rfl (.tmp 12) (.tmp 14) 22 rfl B 24 i24 (.int .u64 0) 1 8 Yba.underlying22 hi24 z24 s24 b24 rfl (by decide) _ _ _ rfl (HP.out.ownR.alloc _) ⟨wr.heap.size, 0, none⟩ 1 1 [.int .u64 id] rfl rfl ?c1 ?c2 ?c3 ?c4 ?c5 ?_)
  case c1 => exact cell_one_new _ _ _
  case c2 => intro u hu; simp at hu; subst hu; rfl
  case c3 => unfold maxLen; omega
  case c4 => omega
  case c5 => simp; omega
  intro v' w1 hown1 hgrow1 _
  obtain ⟨⟨r0, r1, r2, r3⟩, hP2⟩ := HP.out.pushR hown1 hgrow1
  obtain ⟨a1, c1, hv1⟩ := own_shape hown1
  subst hv1
  have HP2 : Hid (Par B w pb keep (.slice a1 (rs.length + 1) c1) (.slice av vs.length cv) (rs ++ [id]) vs (w1.setCell ⟨pb, 32, none⟩ (.slice a1 (rs.length + 1) c1))) := hP2
  have hpb1 : pb < w1.heap.size := World.block_lt_of_cell? _ _ r0
  clear hP2 HP hown1 hgrow1 q0 q3
  cases keep with
  | false =>
    go_wp2
    go_end0
    exact ⟨rfl, _, _, HP2.out⟩
  | true =>
    have hB2 := HP2.out.hB
    simp at hB2
    go_wp2_with (at_builtin; refine wpList_append_own _ rfl (.tmp 26) (.tmp 28) 25 rfl B 27 i27 (.int .u32 0) 1 4 Yba.underlying25 hi27 z27 s27 b27 rfl (by decide) _ _ _ rfl (HP2.out.ownV.alloc _) ⟨w1.heap.size, 0, none⟩ 1 1 [.int .u32 v] rfl rfl ?d1 ?d2 ?d3 ?d4 ?d5 ?_)
    case d1 =>
      intro j u hj
      match j, hj with
      | 0, hj => simp at hj; subst hj; rw [Addr.add_lit]; exact (World.cell?_alloc_at _ _ _ _ (by simp)).trans rfl
    case d2 => intro u hu; simp at hu; subst hu; rfl
    case d3 => unfold maxLen; omega
    case d4 => omega
    case d5 => simp; omega
    intro v2 w2 hown2 hgrow2 _
    obtain ⟨⟨t0, t3⟩, hP3⟩ := HP2.out.pushV hown2 hgrow2
    obtain ⟨a2, c2, hv2⟩ := own_shape hown2
    subst hv2
    have HP3 : Hid (Par B w pb true (.slice a1 (rs.length + 1) c1) (.slice a2 (vs.length + 1) c2) (rs ++ [id]) (vs ++ [v]) (w2.setCell ⟨pb, 33, none⟩ (.slice a2 (vs.length + 1) c2))) := hP3
    have hpb2 : pb < w2.heap.size := World.block_lt_of_cell? _ _ t0
    clear hP3 HP2 hown2 hgrow2 r0 r1 r2 r3
    go_wp2
    go_end0
    exact ⟨rfl, _, _, HP3.out⟩

/-- One round of the law's run of refer calls. -/
theorem refer_u (B pb : Nat) (keep : Bool) (rv vv : Value) (R : Nat → Int) (l0 : Nat) (V : Nat → Int) (l1 : Nat) (I Wv : Nat → Int) (i : Nat) (w wr : World) (h0 : l0 ≤ 1024) (h1 : l1 ≤ 1024) (hi : i ≤ 1024)
    (hP : Par B w pb keep rv vv (refsTo R l0 I i) (viasTo V l1 I keep Wv i) wr) :
    Calls Yba.prog 4 #[.pointer (some ⟨pb, 0, none⟩), .int .u64 (I i), .int .u32 (Wv i)] wr fun e w' => Referred B w pb keep (refsTo R l0 I (i + 1)) (viasTo V l1 I keep Wv (i + 1)) e w' := by
  by_cases hI : I i = 0
  · refine (refer_no _ _ _ _ hI).mono ?_
    rintro e w' ⟨rfl, rfl⟩
    refine ⟨rfl, rv, vv, ?_⟩
    rw [refsTo_no R l0 I i hI, viasTo_no V l1 I keep Wv i hI]
    exact hP
  · have hr := refsTo_le R l0 I i
    have hv := viasTo_le V l1 I keep Wv i
    refine (refer_yes B pb keep rv vv _ _ (I i) (Wv i) w wr hI (by omega) (by omega) hP).mono ?_
    rintro e w' ⟨rfl, rv', vv', hP'⟩
    refine ⟨rfl, rv', vv', ?_⟩
    rw [refsTo_yes R l0 I i hI]
    cases keep with
    | true => rw [viasTo_yes V l1 I Wv i hI]; exact hP'
    | false => rw [viasTo_off V l1 I Wv (i + 1) i]; exact hP'

end Go.Proofs.Ybulkazwg
