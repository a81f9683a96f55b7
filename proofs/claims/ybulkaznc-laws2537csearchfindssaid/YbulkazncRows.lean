/-
  No cell of these rows narrows 'for every input' (looked for: loops, veiled, ifaces, maps, wideKeys, modest, calm, conditions, laid).
  DERIVED. THE GIVEN ROWS OF THIS SEAT. 2 by the template 'for every input the law returns true; each argument reads behind the call as it read before'; 0 by the template 'total and deterministic' (their statements: YbulkazncTotals.lean).
  GIVEN WITH THE SEED: the statements are not yours to turn. If you find one false, say at which input.
  Laid BY PROGRAM, IN A SANDBOX (cutbox-rows.mjs): the forced cells as the released guide's own fill.sh prints them over the translation 0aac0828d705a347… (all of the seat's roots in one cut). By AI agents, Wed Nov 11 2026. No macro, syntax, notation, axiom, sorry.
-/
import Derived.Test.YbulkazncChecked
import GoSem.Claim
import GoSem.ClaimJoined
import GoSem.ClaimMapViews
import Derived.JoinedTies
import Derived.KernelRfl
namespace Go.Proofs.Ybulkaznc
/- THE CELL 'sum', in the pinned program and in every row, IS THE sha256 OF THE DUMP (.gsa) THAT YbulkazncProg.lean LOADS. Nothing in Lean hashes anything: it is a label: what it is worth is what the hold of that sum in a sandbox is worth. -/
noncomputable def Yba.pinned : Pinned := { name := "ybulkaznc", sum := "0aac0828d705a34729995f7a57cd5e43e2ea7f49eca702e56c5c7bcf1d4be3d2", checked := Yba.checked }
namespace Rows
def none {H : Type} : Left H := { results := [], args := [] }

/-- 'store.LawS2537CRoundTrip': WHATEVER THE INPUT: true; the input reads as it did. -/
def lawS2537CRoundTripSpec : ChangeSpec := { name := "lawS2537CRoundTrip", fn := fun _ => fun
  | [d] => { results := [.lit (.bool true)], args := [d] }
  | _ => none }
def lawS2537CRoundTripRow : OpenClaim := { program := "ybulkaznc", sum := "0aac0828d705a34729995f7a57cd5e43e2ea7f49eca702e56c5c7bcf1d4be3d2", func := "example.com/querent/querent/internal/store.LawS2537CRoundTrip", spec := "lawS2537CRoundTrip", apart := false }
def LawS2537CRoundTripSaid : Prop := lawS2537CRoundTripRow.holds Yba.pinned (OpenSpec.ofChange lawS2537CRoundTripSpec)

/-- ITS FALSE NEIGHBOUR: 'it returns false'. Refute it at one input. -/
def lawS2537CRoundTripWrong : ChangeSpec := { name := "lawS2537CRoundTrip", fn := fun _ => fun
  | [d] => { results := [.lit (.bool false)], args := [d] }
  | _ => none }
def LawS2537CRoundTripWrongFalsely : Prop := lawS2537CRoundTripRow.holds Yba.pinned (OpenSpec.ofChange lawS2537CRoundTripWrong)

/-- 'store.LawS2537CSearchFinds': WHATEVER THE INPUT: true; the input reads as it did. -/
def lawS2537CSearchFindsSpec : ChangeSpec := { name := "lawS2537CSearchFinds", fn := fun _ => fun
  | [d] => { results := [.lit (.bool true)], args := [d] }
  | _ => none }
def lawS2537CSearchFindsRow : OpenClaim := { program := "ybulkaznc", sum := "0aac0828d705a34729995f7a57cd5e43e2ea7f49eca702e56c5c7bcf1d4be3d2", func := "example.com/querent/querent/internal/store.LawS2537CSearchFinds", spec := "lawS2537CSearchFinds", recurses := true, apart := false }
def LawS2537CSearchFindsSaid : Prop := lawS2537CSearchFindsRow.holds Yba.pinned (OpenSpec.ofChange lawS2537CSearchFindsSpec)

/-- ITS FALSE NEIGHBOUR: 'it returns false'. Refute it at one input. -/
def lawS2537CSearchFindsWrong : ChangeSpec := { name := "lawS2537CSearchFinds", fn := fun _ => fun
  | [d] => { results := [.lit (.bool false)], args := [d] }
  | _ => none }
def LawS2537CSearchFindsWrongFalsely : Prop := lawS2537CSearchFindsRow.holds Yba.pinned (OpenSpec.ofChange lawS2537CSearchFindsWrong)

end Rows
end Go.Proofs.Ybulkaznc
