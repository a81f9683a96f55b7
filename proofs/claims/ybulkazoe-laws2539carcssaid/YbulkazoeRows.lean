/-
  No cell of these rows narrows 'for every input' (looked for: loops, veiled, ifaces, maps, wideKeys, modest, calm, conditions, laid).
  DERIVED. THE GIVEN ROWS OF THIS SEAT. 3 by the template 'for every input the law returns true; each argument reads behind the call as it read before'; 0 by the template 'total and deterministic' (their statements: YbulkazoeTotals.lean).
  GIVEN WITH THE SEED: the statements are not yours to turn. If you find one false, say at which input.
  Laid BY PROGRAM, IN A SANDBOX (cutbox-rows.mjs): the forced cells as the released guide's own fill.sh prints them over the translation 338211724664cf9e… (all of the seat's roots in one cut). By AI agents, Wed Nov 11 2026. No macro, syntax, notation, axiom, sorry.
-/
import Derived.Test.YbulkazoeChecked
import GoSem.Claim
import GoSem.ClaimJoined
import GoSem.ClaimMapViews
import Derived.JoinedTies
import Derived.KernelRfl
namespace Go.Proofs.Ybulkazoe
/- THE CELL 'sum', in the pinned program and in every row, IS THE sha256 OF THE DUMP (.gsa) THAT YbulkazoeProg.lean LOADS. Nothing in Lean hashes anything: it is a label: what it is worth is what the hold of that sum in a sandbox is worth. -/
noncomputable def Yba.pinned : Pinned := { name := "ybulkazoe", sum := "338211724664cf9eeac74da73b1c4c9a37ec337ab4571dc575ae2595bdbfafcb", checked := Yba.checked }
namespace Rows
def none {H : Type} : Left H := { results := [], args := [] }

/-- 'interleave.LawS2539ABack': WHATEVER THE INPUT: true; the input reads as it did. -/
def lawS2539ABackSpec : ChangeSpec := { name := "lawS2539ABack", fn := fun _ => fun
  | [d1, d2, d3, d4] => { results := [.lit (.bool true)], args := [d1, d2, d3, d4] }
  | _ => none }
def lawS2539ABackRow : OpenClaim := { program := "ybulkazoe", sum := "338211724664cf9eeac74da73b1c4c9a37ec337ab4571dc575ae2595bdbfafcb", func := "example.com/interleave/interleave.LawS2539ABack", spec := "lawS2539ABack", apart := false }
def LawS2539ABackSaid : Prop := lawS2539ABackRow.holds Yba.pinned (OpenSpec.ofChange lawS2539ABackSpec)

/-- ITS FALSE NEIGHBOUR: 'it returns false'. Refute it at one input. -/
def lawS2539ABackWrong : ChangeSpec := { name := "lawS2539ABack", fn := fun _ => fun
  | [d1, d2, d3, d4] => { results := [.lit (.bool false)], args := [d1, d2, d3, d4] }
  | _ => none }
def LawS2539ABackWrongFalsely : Prop := lawS2539ABackRow.holds Yba.pinned (OpenSpec.ofChange lawS2539ABackWrong)

/-- 'interleave.LawS2539CArcs': WHATEVER THE INPUT: true; the input reads as it did. -/
def lawS2539CArcsSpec : ChangeSpec := { name := "lawS2539CArcs", fn := fun _ => fun
  | [d1, d2, d3, d4] => { results := [.lit (.bool true)], args := [d1, d2, d3, d4] }
  | _ => none }
def lawS2539CArcsRow : OpenClaim := { program := "ybulkazoe", sum := "338211724664cf9eeac74da73b1c4c9a37ec337ab4571dc575ae2595bdbfafcb", func := "example.com/interleave/interleave.LawS2539CArcs", spec := "lawS2539CArcs", apart := false }
def LawS2539CArcsSaid : Prop := lawS2539CArcsRow.holds Yba.pinned (OpenSpec.ofChange lawS2539CArcsSpec)

/-- ITS FALSE NEIGHBOUR: 'it returns false'. Refute it at one input. -/
def lawS2539CArcsWrong : ChangeSpec := { name := "lawS2539CArcs", fn := fun _ => fun
  | [d1, d2, d3, d4] => { results := [.lit (.bool false)], args := [d1, d2, d3, d4] }
  | _ => none }
def LawS2539CArcsWrongFalsely : Prop := lawS2539CArcsRow.holds Yba.pinned (OpenSpec.ofChange lawS2539CArcsWrong)

/-- 'interleave.LawS2539CReuse': WHATEVER THE INPUT: true; the input reads as it did. -/
def lawS2539CReuseSpec : ChangeSpec := { name := "lawS2539CReuse", fn := fun _ => fun
  | [d1, d2, d3] => { results := [.lit (.bool true)], args := [d1, d2, d3] }
  | _ => none }
def lawS2539CReuseRow : OpenClaim := { program := "ybulkazoe", sum := "338211724664cf9eeac74da73b1c4c9a37ec337ab4571dc575ae2595bdbfafcb", func := "example.com/interleave/interleave.LawS2539CReuse", spec := "lawS2539CReuse", apart := false }
def LawS2539CReuseSaid : Prop := lawS2539CReuseRow.holds Yba.pinned (OpenSpec.ofChange lawS2539CReuseSpec)

/-- ITS FALSE NEIGHBOUR: 'it returns false'. Refute it at one input. -/
def lawS2539CReuseWrong : ChangeSpec := { name := "lawS2539CReuse", fn := fun _ => fun
  | [d1, d2, d3] => { results := [.lit (.bool false)], args := [d1, d2, d3] }
  | _ => none }
def LawS2539CReuseWrongFalsely : Prop := lawS2539CReuseRow.holds Yba.pinned (OpenSpec.ofChange lawS2539CReuseWrong)

end Rows
end Go.Proofs.Ybulkazoe
