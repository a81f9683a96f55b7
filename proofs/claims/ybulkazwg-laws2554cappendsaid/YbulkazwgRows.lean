/-
  No cell of these rows narrows 'for every input' (looked for: loops, veiled, ifaces, maps, wideKeys, modest, calm, conditions, laid).
  DERIVED. THE GIVEN ROWS OF THIS SEAT. 1 by the template 'for every input the law returns true; each argument reads behind the call as it read before'; 0 by the template 'total and deterministic' (their statements: YbulkazwgTotals.lean).
  GIVEN WITH THE SEED: the statements are not yours to turn. If you find one false, say at which input.
  Laid BY PROGRAM, IN A SANDBOX (cutbox-rows.mjs): the forced cells as the released guide's own fill.sh prints them over the translation 23bb89b62bdd3547… (all of the seat's roots in one cut). By AI agents, Wed Nov 11 2026. No macro, syntax, notation, axiom, sorry.
-/
import Derived.Test.YbulkazwgChecked
import GoSem.Claim
import GoSem.ClaimJoined
import GoSem.ClaimMapViews
import Derived.JoinedTies
import Derived.KernelRfl
namespace Go.Proofs.Ybulkazwg
/- THE CELL 'sum', in the pinned program and in every row, IS THE sha256 OF THE DUMP (.gsa) THAT YbulkazwgProg.lean LOADS. Nothing in Lean hashes anything: it is a label: what it is worth is what the hold of that sum in a sandbox is worth. -/
noncomputable def Yba.pinned : Pinned := { name := "ybulkazwg", sum := "23bb89b62bdd35475a2ba5649106145bb3cf920fa728a0b5be12b3e1cb8b5fc1", checked := Yba.checked }
namespace Rows
def none {H : Type} : Left H := { results := [], args := [] }

/-- 'jvmdump.LawS2554CAppend': WHATEVER THE INPUT: true; the input reads as it did. -/
def lawS2554CAppendSpec : ChangeSpec := { name := "lawS2554CAppend", fn := fun _ => fun
  | [d1, d2, d3, d4, d5] => { results := [.lit (.bool true)], args := [d1, d2, d3, d4, d5] }
  | _ => none }
def lawS2554CAppendRow : OpenClaim := { program := "ybulkazwg", sum := "23bb89b62bdd35475a2ba5649106145bb3cf920fa728a0b5be12b3e1cb8b5fc1", func := "example.com/dominant-tree/dominant-tree/internal/jvmdump.LawS2554CAppend", spec := "lawS2554CAppend", apart := false }
def LawS2554CAppendSaid : Prop := lawS2554CAppendRow.holds Yba.pinned (OpenSpec.ofChange lawS2554CAppendSpec)

/-- ITS FALSE NEIGHBOUR: 'it returns false'. Refute it at one input. -/
def lawS2554CAppendWrong : ChangeSpec := { name := "lawS2554CAppend", fn := fun _ => fun
  | [d1, d2, d3, d4, d5] => { results := [.lit (.bool false)], args := [d1, d2, d3, d4, d5] }
  | _ => none }
def LawS2554CAppendWrongFalsely : Prop := lawS2554CAppendRow.holds Yba.pinned (OpenSpec.ofChange lawS2554CAppendWrong)

end Rows
end Go.Proofs.Ybulkazwg
