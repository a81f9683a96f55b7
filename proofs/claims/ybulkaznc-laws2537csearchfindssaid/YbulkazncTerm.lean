import Derived.Test.YbulkazncRows
import Derived.WalkKit
import Derived.WalkSpells
import Derived.WalkLawsBesides
import Derived.Deep.QuietTactic
import Derived.BigQuiet
namespace Go.Proofs.Ybulkaznc
open Go.RowKit
set_option linter.unusedVariables false

theorem below_box {w w' : World} {o : Obj} {n : Nat} (h : w' = (w.alloc o).drewN n) : Below w.heap.size w w' := by
  subst h
  exact below_drewN ((Below.refl _ _).alloc (Nat.le_refl _) _) n

set_option maxHeartbeats 400000 in
theorem len_any (text : ByteArray) (a : Option Addr) (n c : Nat) (w : World) :
    Calls Yba.prog 6 #[.agg #[.string text, .slice a n c]] w fun e w' => e = .returned (.int .i64 n) ∧ Below w.heap.size w w' := by
  go_enter Yba.func6, Yba.ntmps6
  go_wp2
  go_ret
  exact ⟨rfl, (Below.refl _ _).alloc (Nat.le_refl _) _⟩

set_option maxHeartbeats 400000 in
theorem term_zero (text : ByteArray) (g n c : Nat) (e0 : Nat) (w : World) (hn0 : 0 < n) (hn : n ≤ 1000000)
    (h0 : w.cell? ⟨g, 0, none⟩ = some (.int .i64 e0)) (hg : g < w.heap.size) (he : e0 ≤ text.size) (hs : text.size ≤ 1000000000) :
    Calls Yba.prog 7 #[.agg #[.string text, .slice (some ⟨g, 0, none⟩) n c], .int .i64 0] w fun e w' => e = .returned (.string (text.extract 0 e0)) ∧ Below w.heap.size w w' := by
  have hn0' : (0 : Int) < (n : Int) := by omega
  go_enter Yba.func7, Yba.ntmps7
  go_wp2
  go_quiet (fail)
  go_wp2
  go_ret
  exact ⟨rfl, below_drewN ((Below.refl _ _).alloc (Nat.le_refl _) _) _⟩

set_option maxHeartbeats 400000 in
theorem term_succ (text : ByteArray) (g n c : Nat) (i e0 e1 : Nat) (w : World) (hin : i + 1 < n) (hn : n ≤ 1000000)
    (h0 : w.cell? ⟨g, i, none⟩ = some (.int .i64 e0)) (h1 : w.cell? ⟨g, i + 1, none⟩ = some (.int .i64 e1)) (hg : g < w.heap.size) (he0 : e0 ≤ e1) (he : e1 ≤ text.size) (hs : text.size ≤ 1000000000) :
    Calls Yba.prog 7 #[.agg #[.string text, .slice (some ⟨g, 0, none⟩) n c], .int .i64 ((i : Int) + 1)] w fun e w' => e = .returned (.string (text.extract e0 e1)) ∧ Below w.heap.size w w' := by
  have hn0' : (i : Int) + 1 < (n : Int) := by omega
  go_enter Yba.func7, Yba.ntmps7
  go_wp2
  go_quiet (fail)
  go_wp2
  go_ret
  exact ⟨rfl, below_drewN ((Below.refl _ _).alloc (Nat.le_refl _) _) _⟩

end Go.Proofs.Ybulkaznc
