import Derived.Test.YbulkazoeMem
import Derived.Lib.SliceRun
import Derived.Lib.AppendZerosOnto
import Derived.Deep.QuietTactic
import Derived.BigQuiet
namespace Go.Proofs.Ybulkazoe
open Go.RowKit
set_option linter.unusedVariables false

theorem Yba.info3 : (Yba.prog.info? 3).map (fun i => (i.zero, i.size, i.bytes)) = some (some (.int .i64 0), 1, 8) := by kernel_rfl
theorem Yba.info32 : (Yba.prog.info? 32).map (fun i => (i.zero, i.size, i.bytes)) = some (some (.slice none 0 0), 1, 24) := by kernel_rfl

theorem zero3 (w : World) : (zeroValue 3).run Yba.prog w = .ok (.int .i64 0) w := Yba.zeroValue3 w
theorem zero32 (w : World) : (zeroValue 32).run Yba.prog w = .ok (.slice none 0 0) w := Yba.zeroValue32 w

/-- What zeroed leaves. -/
def Zed (e : TypeId) (z : Value) (a : Option Addr) (n : Nat) (w : World) (r : Ending) (w' : World) : Prop :=
  ∃ a' c' f', r = .returned (.slice a' n c') ∧ Row w' e a' n c' f' ∧ (∀ i, i < n → f' i = z) ∧ w.grownBy w' (blk a) ∧ ∀ b, blk a' = some b → blk a = some b ∨ w.heap.size ≤ b

theorem zed_new (e : TypeId) (z : Value) (a : Option Addr) (n : Nat) (w : World) (hn : n ≤ maxLen) : Zed e z a n w (.returned (.slice (some ⟨w.heap.size, 0, none⟩) n n)) (w.alloc (.cells (madeCells #[z] n) e)) :=
  ⟨_, n, fun _ => z, rfl, ⟨Nat.le_refl _, hn, (fun h => by cases h), fun x hx => by cases hx; exact ⟨_, rfl, World.rowIs_made w z n e⟩⟩, fun _ _ => rfl, World.grownBy_alloc w _ _, fun b hb => by cases hb; exact .inr (Nat.le_refl _)⟩

theorem zed_old {e : TypeId} {z : Value} {g l c n : Nat} {f : Nat → Value} {w : World} (h : Row w e (some ⟨g, 0, none⟩) l c f) (hn : n ≤ c) : Zed e z (some ⟨g, 0, none⟩) n w (.returned (.slice (some ⟨g, 0, none⟩) n c)) (w.setCells g 0 (List.replicate n z)) := by
  obtain ⟨g', he, hr⟩ := h.isSome _ rfl
  cases he
  refine ⟨_, c, _, rfl, ⟨hn, h.max, (fun h => by cases h), fun x hx => by cases hx; exact ⟨g, rfl, Go.rowIs_setCells (List.replicate n z) 0 w f hr⟩⟩, fun i hi => ?_, grownBy_setCells g _ 0 w, fun b hb => by cases hb; exact .inl rfl⟩
  simp [hi]

theorem clear_none (t e : TypeId) (ht : Yba.prog.underlying t = some (.slice e)) (ty : TypeId) (a : Option Addr) (c : Nat) (w : World) : (Builtin.clear_ #[t] ty #[.slice a 0 c]).run Yba.prog w = .ok (.tuple #[]) w := by
  cases a <;> simp [Builtin.clear_, run_underlying ht]

set_option maxHeartbeats 400000 in
set_option maxRecDepth 100000 in
theorem zed_int (a : Option Addr) (l c n : Nat) (f : Nat → Value) (w : World) (hn : n ≤ 1024) (h : Row w 3 a l c f) :
    Calls Yba.prog 15 #[.slice a l c, .int .i64 (n : Int)] w fun r w' => Zed 3 (.int .i64 0) a n w r w' := by
  have hmax := h.max
  have hle := h.le
  unfold maxLen at hmax
  have HR : Hid (Row w 3 a l c f) := h
  clear h
  by_cases hc : c < n
  · have hmk := run_make_row' (P := Yba.prog) 32 3 (.int .i64 0) 8 Yba.underlying32 Yba.info3 rfl .i64 .i64 n (by omega) (by omega)
    go_enter Yba.func15, Yba.ntmps15
    go_wp2
    go_ret
    exact zed_new _ _ _ _ _ (by unfold maxLen; omega)
  · have hcl0 : ∀ (ty : TypeId) (a : Option Addr) (c : Nat) (w : World), (Builtin.clear_ #[32] ty #[.slice a 0 c]).run Yba.prog w = .ok (.tuple #[]) w := clear_none 32 3 Yba.underlying32
    cases a with
    | none =>
      have hc0 : c = 0 := HR.out.isNone rfl
      subst hc0
      obtain rfl : n = 0 := by omega
      obtain rfl : l = 0 := by omega
      go_enter Yba.func15, Yba.ntmps15
      go_wp2
      go_ret
      exact ⟨none, 0, f, rfl, Row.nil _ _ _, fun i hi => by omega, World.grownBy.refl _ _, fun b hb => by cases hb⟩
    | some x =>
      obtain ⟨g, rfl, hr⟩ := HR.out.isSome x rfl
      by_cases h0 : n = 0
      · subst h0
        go_enter Yba.func15, Yba.ntmps15
        go_wp2
        go_ret
        exact zed_old (z := .int .i64 0) HR.out (Nat.zero_le c)
      · have hcl : ∀ ty, (Builtin.clear_ #[32] ty #[.slice (some ⟨g, 0, none⟩) n c]).run Yba.prog w = .ok (.tuple #[]) (w.setCells g 0 (List.replicate n (.int .i64 0))) := fun ty =>
          Lib.run_clear_slice w 32 3 ty (.int .i64 0) Yba.underlying32 zero3 rfl rfl g 0 n c (by omega) (fun j hj => by rw [Nat.zero_add, hr.cell (by omega)]; rfl) (fun j hj => by rw [Nat.zero_add]; exact hr.frozen j)
        clear hr
        go_enter Yba.func15, Yba.ntmps15
        go_wp2
        go_ret
        exact zed_old HR.out (by omega)

set_option maxHeartbeats 400000 in
set_option maxRecDepth 100000 in
theorem zed_rows (a : Option Addr) (l c n : Nat) (f : Nat → Value) (w : World) (hn : n ≤ 1024) (h : Row w 32 a l c f) :
    Calls Yba.prog 18 #[.slice a l c, .int .i64 (n : Int)] w fun r w' => Zed 32 (.slice none 0 0) a n w r w' := by
  have hmax := h.max
  have hle := h.le
  unfold maxLen at hmax
  have HR : Hid (Row w 32 a l c f) := h
  clear h
  by_cases hc : c < n
  · have hmk := run_make_row' (P := Yba.prog) 42 32 (.slice none 0 0) 24 Yba.underlying42 Yba.info32 rfl .i64 .i64 n (by omega) (by omega)
    go_enter Yba.func18, Yba.ntmps18
    go_wp2
    go_ret
    exact zed_new _ _ _ _ _ (by unfold maxLen; omega)
  · have hcl0 : ∀ (ty : TypeId) (a : Option Addr) (c : Nat) (w : World), (Builtin.clear_ #[42] ty #[.slice a 0 c]).run Yba.prog w = .ok (.tuple #[]) w := clear_none 42 32 Yba.underlying42
    cases a with
    | none =>
      have hc0 : c = 0 := HR.out.isNone rfl
      subst hc0
      obtain rfl : n = 0 := by omega
      obtain rfl : l = 0 := by omega
      go_enter Yba.func18, Yba.ntmps18
      go_wp2
      go_ret
      exact ⟨none, 0, f, rfl, Row.nil _ _ _, fun i hi => by omega, World.grownBy.refl _ _, fun b hb => by cases hb⟩
    | some x =>
      obtain ⟨g, rfl, hr⟩ := HR.out.isSome x rfl
      by_cases h0 : n = 0
      · subst h0
        go_enter Yba.func18, Yba.ntmps18
        go_wp2
        go_ret
        exact zed_old (z := .slice none 0 0) HR.out (Nat.zero_le c)
      · have hcl : ∀ ty, (Builtin.clear_ #[42] ty #[.slice (some ⟨g, 0, none⟩) n c]).run Yba.prog w = .ok (.tuple #[]) (w.setCells g 0 (List.replicate n (.slice none 0 0))) := fun ty =>
          Lib.run_clear_slice w 42 32 ty (.slice none 0 0) Yba.underlying42 zero32 rfl rfl g 0 n c (by omega) (fun j hj => by rw [Nat.zero_add, hr.cell (by omega)]; rfl) (fun j hj => by rw [Nat.zero_add]; exact hr.frozen j)
        clear hr
        go_enter Yba.func18, Yba.ntmps18
        go_wp2
        go_ret
        exact zed_old HR.out (by omega)

end Go.Proofs.Ybulkazoe
