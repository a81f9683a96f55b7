import Derived.Test.YbulkazpgRows
import Derived.Test.YbulkazpgGraph
import Derived.WalkKit
import Derived.WalkSpells
import Derived.WalkLawsBesides
import Derived.Deep.OwnRows
namespace Go.Proofs.Ybulkazpg
open Go.RowKit
set_option linter.unusedVariables false

theorem Yba.info3 : (Yba.prog.info? 3).map (fun i => (i.zero, i.size, i.bytes)) = some (some (.int .i64 0), 1, 8) := by kernel_rfl
theorem Yba.info4 : (Yba.prog.info? 4).map (fun i => (i.zero, i.size, i.bytes)) = some (some (.bool false), 1, 1) := by kernel_rfl

/-- A mesh in memory: row i at block Rb i, of L i entries E i k. -/
structure Mesh (w : World) (pb n : Nat) (Rb L : Nat → Nat) (E : Nat → Nat → Nat) : Prop where
  rows : ∀ i, i < n → w.cell? ⟨pb, i, none⟩ = some (.slice (some ⟨Rb i, 0, none⟩) (L i) (L i))
  cells : ∀ i k, i < n → k < L i → w.cell? ⟨Rb i, k, none⟩ = some (.int .i64 (E i k))

theorem Mesh.keep {w w' : World} {pb n : Nat} {Rb L : Nat → Nat} {E : Nat → Nat → Nat} (h : Mesh w pb n Rb L E) (hb : Below w.heap.size w w') : Mesh w' pb n Rb L E :=
  ⟨fun i hi => (hb.cell (World.block_lt_of_cell? _ _ (h.rows i hi))).trans (h.rows i hi), fun i k hi hk => (hb.cell (World.block_lt_of_cell? _ _ (h.cells i k hi hk))).trans (h.cells i k hi hk)⟩

def lenV : Value → Nat | .slice _ n _ => n | _ => 0
def ints (st : List Nat) : List Value := st.map fun (j : Nat) => Value.int .i64 (j : Int)
def bools (R : Nat → Bool) : Nat → Value := fun i => .bool (R i)

theorem own_shape {w : World} {base : Nat} {e : TypeId} {size : Nat} {v : Value} {n : Nat} {xs : List Value} (h : w.ownsRow base e size v n xs) : ∃ a c, v = .slice a n c := by
  rcases h.2 with ⟨rfl, rfl⟩ | ⟨g, cap, cur, rfl, _⟩
  · exact ⟨none, 0, rfl⟩
  · exact ⟨some ⟨g, 0, none⟩, cap, rfl⟩

theorem own_some {w : World} {base : Nat} {e : TypeId} {size : Nat} {v : Value} {n : Nat} {xs : List Value} (h : w.ownsRow base e size v n xs) (hn : 0 < n) : ∃ g c, v = .slice (some ⟨g, 0, none⟩) n c := by
  rcases h.2 with ⟨rfl, rfl⟩ | ⟨g, cap, cur, rfl, _⟩
  · omega
  · exact ⟨g, cap, rfl⟩

/-- What 'connected' holds at the head of its outer loop. -/
structure Out (w : World) (n : Nat) (L : Nat → Nat) (E : Nat → Nat → Nat) (R : Nat → Bool) (st : List Nat) (c : Nat) (nx : Value) (wr : World) : Prop where
  inv : CInv n L E R st c
  own : wr.ownsRow (w.heap.size + 1) 3 1 nx st.length (ints st)
  row : wr.rowIs w.heap.size 4 n (bools R)
  below : Below w.heap.size w wr
  fit : 2 * (n - c) + st.length ≤ 2 * n

theorem out_start (w : World) (n : Nat) (L : Nat → Nat) (E : Nat → Nat → Nat) (hn : 0 < n) :
    Out w n L E (mark (fun _ => false) 0) [0] 1 (.slice (some ⟨w.heap.size + 1, 0, none⟩) 1 1) ((w.alloc (.cells ((madeCells #[.bool false] n).setIfInBounds 0 (.bool true)) 4)).alloc (.cells #[.int .i64 0] 3)) := by
  have h := (World.rowIs_made w (.bool false) n 4).set 0 (.bool true)
  rw [World.setCell_alloc_at _ _ _ _ _ rfl] at h
  refine ⟨CInv.start n L E hn, ?_, ?_, ((Below.refl _ _).alloc (Nat.le_refl _) _).alloc (by simp) _, by simp; omega⟩
  · have := World.ownsRow_lit (base := w.heap.size + 1) (e := 3) (size := 1) (w.alloc (.cells ((madeCells #[.bool false] n).setIfInBounds 0 (.bool true)) 4)) #[.int .i64 0] 1 (by simp) (by unfold maxLen; omega) rfl
    simpa [ints] using this
  · refine (h.alloc _).congr (fun i hi => ?_)
    simp only [bools, mark]
    split <;> simp_all

/-- Inside a round that popped i: k of its entries have been looked at; c, m: the count and the stack's height when the round began. -/
structure Inn (w : World) (n : Nat) (L : Nat → Nat) (E : Nat → Nat → Nat) (R : Nat → Bool) (st : List Nat) (c0 i k c m : Nat) (nx : Value) (wr : World) : Prop where
  mid : CMid n L E R st c i k
  own : wr.ownsRow (w.heap.size + 1) 3 1 nx st.length (ints st)
  row : wr.rowIs w.heap.size 4 n (bools R)
  below : Below w.heap.size w wr
  le : 2 * (n - c) + st.length ≤ 2 * (n - c0) + m

theorem rowIs_grown {w w' : World} {b t n : Nat} {f : Nat → Value} {row : Option Nat} (h : w.rowIs b t n f) (hg : w.grownBy w' row) (hne : some b ≠ row) : w'.rowIs b t n f :=
  h.of_block (hg.block b h.lt hne)

theorem inn_fresh {w wr w2 : World} {n : Nat} {L : Nat → Nat} {E : Nat → Nat → Nat} {R : Nat → Bool} {st : List Nat} {c0 i k c m : Nat} {nx v' : Value} {o : Obj} (h : Inn w n L E R st c0 i k c m nx wr) (hin : i < n) (hk : k < L i) (hE : E i k < n)
    (hr : R (E i k) = false) (h1 : (wr.setCell ⟨w.heap.size, E i k, none⟩ (.bool true)).ownsRow (w.heap.size + 1) 3 1 nx st.length (ints st)) (h2 : w2.ownsRow (w.heap.size + 1) 3 1 v' (st.length + 1) (ints st ++ [.int .i64 (E i k : Int)]))
    (hg : ((wr.setCell ⟨w.heap.size, E i k, none⟩ (.bool true)).alloc o).grownBy w2 nx.ownBlock) : Inn w n L E (mark R (E i k)) (st ++ [E i k]) c0 i (k + 1) (c + 1) m v' w2 := by
  have hlt := h.row.lt
  have hcn : c + 1 ≤ n := by have := (h.mid.fresh hk hE hr).count; rw [this]; exact cnt_le _ _
  have hle := h.le
  refine ⟨h.mid.fresh hk hE hr, by simpa [ints] using h2, ?_, ?_, by simp; omega⟩
  · have hrow := (h.row.set (E i k) (.bool true)).alloc o
    refine (rowIs_grown hrow hg (fun e => ?_)).congr (fun j hj => ?_)
    · have := (h1.lt _ e.symm).1
      omega
    · simp only [bools, mark]
      split <;> rfl
  · exact ((h.below.setCell (Nat.le_refl _) _).alloc (by simp; omega) _).grown hg (by simp; omega) (fun q hq => by have := (h1.lt q hq).1; omega)

theorem own_cap {w : World} {base : Nat} {e : TypeId} {size g n c : Nat} {xs : List Value} (h : w.ownsRow base e size (.slice (some ⟨g, 0, none⟩) n c) n xs) : n ≤ c ∧ c ≤ maxLen := by
  rcases h.2 with ⟨h0, _⟩ | ⟨g', cap, cur, hv, _, _, h1, h2, _⟩
  · cases h0
  · cases hv; exact ⟨h1, h2⟩

set_option maxHeartbeats 1000000 in
set_option maxRecDepth 100000 in
theorem conn_any (pb n : Nat) (Rb L : Nat → Nat) (E : Nat → Nat → Nat) (w : World) (hn0 : 0 < n) (hn : n ≤ 256) (hL : ∀ i, i < n → L i ≤ 256) (hE : ∀ i k, i < n → k < L i → E i k < n) (hM : Mesh w pb n Rb L E) :
    Calls Yba.prog 9 #[.slice (some ⟨pb, 0, none⟩) n n] w fun e w' => ∃ b, e = .returned (.bool b) ∧ (b = true ↔ ∀ i, i < n → Rch n L E i) ∧ Below w.heap.size w w' := by
  obtain ⟨i3, hi, hz0, hz1, hz2⟩ := info_parts Yba.info3
  have hmk := run_make_row' (P := Yba.prog) 22 4 (.bool false) 1 Yba.underlying22 Yba.info4 rfl .i64 .i64 n (by omega) (by omega)
  have HE : Hid (∀ i k, i < n → k < L i → E i k < n) := hE
  have HM : Hid (Mesh w pb n Rb L E) := hM
  have hn0' : (0 : Int) < (n : Int) := by omega
  have hm0 : (madeCells #[Value.bool false] n)[0]? = some (.bool false) := by have := (World.rowIs_made w (.bool false) n 4).cell hn0; simpa using this
  clear hE hM
  go_enter Yba.func9, Yba.ntmps9
  go_wp2
  clear hmk
  go_loopw [4, 5] (fun nx ct wr => ∃ R st c, ct = .int .i64 ((c : Nat) : Int) ∧ Hid (Out w n L E R st c nx wr)) (fun nx ct _ => 2 * (n - (intOf ct).toNat) + lenV nx)
  case atStart => exact ⟨_, _, 1, rfl, out_start w n L E hn0⟩
  case round =>
    obtain ⟨R, st, c, rfl, HO⟩ := hrel
    have hc : c ≤ n := by rw [HO.out.inv.count]; exact cnt_le _ _
    rcases List.eq_nil_or_concat st with rfl | ⟨st', i, hst⟩
    · obtain ⟨a, cp, hv⟩ := own_shape HO.out.own
      subst hv
      go_wp2
      go_ret
      exact ⟨_, rfl, by rw [beq_iff_eq, Int.natCast_inj]; exact HO.out.inv.answer HE.out, HO.out.below⟩
    · rw [List.concat_eq_append] at hst
      subst hst
      have hown := HO.out.own
      rw [show (st' ++ [i]).length = st'.length + 1 by simp, show ints (st' ++ [i]) = ints st' ++ [.int .i64 (i : Int)] by simp [ints]] at hown
      obtain ⟨g, cp, hv⟩ := own_some hown (by omega)
      subst hv
      have hcap := own_cap hown
      have q0 : wr.cell? ⟨g, st'.length, none⟩ = some (.int .i64 (i : Int)) := by rw [hown.cellAt _ (by omega)]; simp [ints]
      have HP : Hid (Inn w n L E R st' c i 0 c st'.length (.slice (some ⟨g, 0, none⟩) st'.length cp) wr) := ⟨HO.out.inv.pop, ownsRow_pop (by simp [ints]) hown, HO.out.row, HO.out.below, by omega⟩
      have hin : i < n := HP.out.mid.here.1
      have hfit : 2 * (n - c) + st'.length + 1 ≤ 2 * n := by have := HO.out.fit; simp at this; omega
      have q1 : wr.cell? ⟨pb, i, none⟩ = some (.slice (some ⟨Rb i, 0, none⟩) (L i) (L i)) := (HM.out.keep HO.out.below).rows i hin
      have hLi := hL i hin
      have hin' : (i : Int) < (n : Int) := by omega
      clear HO hown
      generalize st'.length = m at *
      have hcap1 := hcap.1
      have hcap2 := hcap.2
      unfold maxLen at hcap2
      clear hcap
      go_wp2
      go_loopw [4, 5, 34] (fun nx ct kk wq => ∃ R st c' k, kk = .int .i64 ((k : Nat) : Int) ∧ k ≤ L i ∧ ct = .int .i64 ((c' : Nat) : Int) ∧ Hid (Inn w n L E R st c i k c' m nx wq)) (fun _ _ kk _ => L i - (intOf kk).toNat)
      case atStart => exact ⟨R, st', c, 0, rfl, Nat.zero_le _, rfl, HP⟩
      case round =>
        clear HP q0 q1
        obtain ⟨R1, st1, c1, k, rfl, hk, rfl, HI⟩ := hrel
        by_cases hlt : k < L i
        · have hEn : E i k < n := HE.out i k hin hlt
          have q0 : wr.cell? ⟨Rb i, k, none⟩ = some (.int .i64 (E i k : Int)) := (HM.out.keep HI.out.below).cells i k hin hlt
          have q1 : wr.cell? ⟨w.heap.size, E i k, none⟩ = some (.bool (R1 (E i k))) := HI.out.row.cell hEn
          have q2 : wr.frozen? ⟨w.heap.size, E i k, none⟩ = false := HI.out.row.frozen _
          have hlt' : (k : Int) < (L i : Int) := by omega
          have hEn' : (E i k : Int) < (n : Int) := by omega
          cases hr : R1 (E i k) with
          | true =>
            rw [hr] at q1
            have HN : Hid (Inn w n L E R1 st1 c i (k + 1) c1 m u4 wr) := ⟨HI.out.mid.seen hr, HI.out.own, HI.out.row, HI.out.below, HI.out.le⟩
            clear hr HI
            go_wp2
            go_roundw
            case rel => exact ⟨R1, st1, c1, k + 1, by go_num, by omega, rfl, HN⟩
            case measure => simp [intOf]; omega
          | false =>
            rw [hr] at q1
            have hB : w.heap.size < wr.heap.size := HI.out.row.lt
            have hown1 := ownsRow_setCell_below HI.out.own (a := ⟨w.heap.size, E i k, none⟩) (by show w.heap.size < _; omega) (.bool true)
            have hle := HI.out.le
            have hc1 : c1 ≤ n := by rw [HI.out.mid.count]; exact cnt_le _ _
            have HR : Hid (R1 (E i k) = false) := hr
            clear hr
            go_wp2_with (at_builtin; refine wpList_append_own _ rfl (.tmp 48) (.tmp 50) 23 rfl (w.heap.size + 1) 3 i3 (.int .i64 0) 1 8 Yba.underlying23 hi hz0 hz1 hz2 rfl (by decide) _ _ _ rfl (hown1.alloc _) ⟨wr.heap.size, 0, none⟩ 1 1 [.int .i64 (E i k : Int)] rfl rfl ?c1 ?c2 ?c3 ?c4 ?c5 ?_)
            case c1 =>
              intro j u hj
              match j, hj with
              | 0, hj => simp at hj; subst hj; rw [Addr.add_lit]; exact (World.cell?_alloc_at _ _ _ _ (by simp)).trans rfl
            case c2 => intro u hu; simp at hu; subst hu; rfl
            case c3 => unfold maxLen; omega
            case c4 => omega
            case c5 => simp; omega
            intro v' w2 hown2 hgrow2 _
            have HN : Hid (Inn w n L E (mark R1 (E i k)) (st1 ++ [E i k]) c i (k + 1) (c1 + 1) m v' w2) := inn_fresh HI.out hin hlt hEn HR.out hown1 hown2 hgrow2
            clear hown1 hown2 hgrow2 HI q0 q1 q2
            go_wp2
            go_roundw
            case rel => exact ⟨_, _, c1 + 1, k + 1, by go_num, by omega, by go_num, HN⟩
            case measure => simp [intOf]; omega
        · obtain rfl : k = L i := by omega
          obtain ⟨a4, cp4, hv4⟩ := own_shape HI.out.own
          subst hv4
          have hle := HI.out.le
          have HN : Hid (Out w n L E R1 st1 c1 (.slice a4 st1.length cp4) wr) := ⟨HI.out.mid.finish, HI.out.own, HI.out.row, HI.out.below, by omega⟩
          clear HI
          go_wp2
          go_roundw
          case rel => exact ⟨R1, st1, c1, rfl, HN⟩
          case measure => simp [intOf, lenV]; omega

end Go.Proofs.Ybulkazpg
