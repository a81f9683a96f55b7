/-
  No cell of these rows narrows 'for every input' (looked for: loops, veiled, ifaces, maps, wideKeys, modest, calm, conditions, laid).
  DERIVED. THE GIVEN ROWS OF THIS SEAT. 3 by the template 'for every input the law returns true; each argument reads behind the call as it read before'; 0 by the template 'total and deterministic' (their statements: YbulkazpgTotals.lean).
  GIVEN WITH THE SEED: the statements are not yours to turn. If you find one false, say at which input.
  Laid BY PROGRAM, IN A SANDBOX (cutbox-rows.mjs): the forced cells as the released guide's own fill.sh prints them over the translation c7d584f46e4edce6… (all of the seat's roots in one cut). By AI agents, Wed Nov 11 2026. No macro, syntax, notation, axiom, sorry.
-/
import Derived.Test.YbulkazpgChecked
import GoSem.Claim
import GoSem.ClaimJoined
import GoSem.ClaimMapViews
import Derived.JoinedTies
import Derived.KernelRfl
namespace Go.Proofs.Ybulkazpg
/- THE CELL 'sum', in the pinned program and in every row, IS THE sha256 OF THE DUMP (.gsa) THAT YbulkazpgProg.lean LOADS. Nothing in Lean hashes anything: it is a label: what it is worth is what the hold of that sum in a sandbox is worth. -/
noncomputable def Yba.pinned : Pinned := { name := "ybulkazpg", sum := "c7d584f46e4edce621678f4af7cbdc73d9c4358b3e626fc68e3ecf08f1c4b5e4", checked := Yba.checked }
namespace Rows
def none {H : Type} : Left H := { results := [], args := [] }

/-- 'node.LawS2541AAllClosed': WHATEVER THE INPUT: true; the input reads as it did. -/
def lawS2541AAllClosedSpec : ChangeSpec := { name := "lawS2541AAllClosed", fn := fun _ => fun
  | [d1, d2, d3] => { results := [.lit (.bool true)], args := [d1, d2, d3] }
  | _ => none }
def lawS2541AAllClosedRow : OpenClaim := { program := "ybulkazpg", sum := "c7d584f46e4edce621678f4af7cbdc73d9c4358b3e626fc68e3ecf08f1c4b5e4", func := "example.com/quorumwire/internal/node.LawS2541AAllClosed", spec := "lawS2541AAllClosed", plainKeys := false, apart := false }
def LawS2541AAllClosedSaid : Prop := lawS2541AAllClosedRow.holds Yba.pinned (OpenSpec.ofChange lawS2541AAllClosedSpec)

/-- ITS FALSE NEIGHBOUR: 'it returns false'. Refute it at one input. -/
def lawS2541AAllClosedWrong : ChangeSpec := { name := "lawS2541AAllClosed", fn := fun _ => fun
  | [d1, d2, d3] => { results := [.lit (.bool false)], args := [d1, d2, d3] }
  | _ => none }
def LawS2541AAllClosedWrongFalsely : Prop := lawS2541AAllClosedRow.holds Yba.pinned (OpenSpec.ofChange lawS2541AAllClosedWrong)

/-- 'sim.LawS2541BReach': WHATEVER THE INPUT: true; the input reads as it did. -/
def lawS2541BReachSpec : ChangeSpec := { name := "lawS2541BReach", fn := fun _ => fun
  | [d] => { results := [.lit (.bool true)], args := [d] }
  | _ => none }
def lawS2541BReachRow : OpenClaim := { program := "ybulkazpg", sum := "c7d584f46e4edce621678f4af7cbdc73d9c4358b3e626fc68e3ecf08f1c4b5e4", func := "example.com/quorumwire/internal/sim.LawS2541BReach", spec := "lawS2541BReach", plainKeys := false, apart := false }
def LawS2541BReachSaid : Prop := lawS2541BReachRow.holds Yba.pinned (OpenSpec.ofChange lawS2541BReachSpec)

/-- ITS FALSE NEIGHBOUR: 'it returns false'. Refute it at one input. -/
def lawS2541BReachWrong : ChangeSpec := { name := "lawS2541BReach", fn := fun _ => fun
  | [d] => { results := [.lit (.bool false)], args := [d] }
  | _ => none }
def LawS2541BReachWrongFalsely : Prop := lawS2541BReachRow.holds Yba.pinned (OpenSpec.ofChange lawS2541BReachWrong)

/-- 'sim.LawS2541BKeepsPeers': WHATEVER THE INPUT: true; the input reads as it did. -/
def lawS2541BKeepsPeersSpec : ChangeSpec := { name := "lawS2541BKeepsPeers", fn := fun _ => fun
  | [d] => { results := [.lit (.bool true)], args := [d] }
  | _ => none }
def lawS2541BKeepsPeersRow : OpenClaim := { program := "ybulkazpg", sum := "c7d584f46e4edce621678f4af7cbdc73d9c4358b3e626fc68e3ecf08f1c4b5e4", func := "example.com/quorumwire/internal/sim.LawS2541BKeepsPeers", spec := "lawS2541BKeepsPeers", plainKeys := false, apart := false }
def LawS2541BKeepsPeersSaid : Prop := lawS2541BKeepsPeersRow.holds Yba.pinned (OpenSpec.ofChange lawS2541BKeepsPeersSpec)

/-- ITS FALSE NEIGHBOUR: 'it returns false'. Refute it at one input. -/
def lawS2541BKeepsPeersWrong : ChangeSpec := { name := "lawS2541BKeepsPeers", fn := fun _ => fun
  | [d] => { results := [.lit (.bool false)], args := [d] }
  | _ => none }
def LawS2541BKeepsPeersWrongFalsely : Prop := lawS2541BKeepsPeersRow.holds Yba.pinned (OpenSpec.ofChange lawS2541BKeepsPeersWrong)

end Rows
end Go.Proofs.Ybulkazpg
