/-
  No cell of these rows narrows 'for every input' (looked for: loops, veiled, ifaces, maps, wideKeys, modest, calm, conditions, laid).
  DERIVED. THE GIVEN ROWS OF THIS SEAT. 2 by the template 'for every input the law returns true; each argument reads behind the call as it read before'; 0 by the template 'total and deterministic' (their statements: YbulkcivsTotals.lean).
  GIVEN WITH THE SEED: the statements are not yours to turn. If you find one false, say at which input.
  Laid BY PROGRAM, IN A SANDBOX (cutbox-rows.mjs): the forced cells as the released guide's own fill.sh prints them over the translation ca130ad88aa4f6b5… (all of the seat's roots in one cut). By AI agents, Wed Nov 11 2026. No macro, syntax, notation, axiom, sorry.
-/
import Derived.Test.YbulkcivsChecked
import GoSem.Claim
import GoSem.ClaimJoined
import GoSem.ClaimMapViews
import Derived.JoinedTies
import Derived.KernelRfl
namespace Go.Proofs.Ybulkcivs
/- THE CELL 'sum', in the pinned program and in every row, IS THE sha256 OF THE DUMP (.gsa) THAT YbulkcivsProg.lean LOADS. Nothing in Lean hashes anything: it is a label: what it is worth is what the hold of that sum in a sandbox is worth. -/
noncomputable def Yba.pinned : Pinned := { name := "ybulkcivs", sum := "ca130ad88aa4f6b5eddbf1f389b7f89d7e2fb6824c2e91eac483918326e9fbfb", checked := Yba.checked }
namespace Rows
def none {H : Type} : Left H := { results := [], args := [] }

/-- 'planner.LawS4243AEcho': WHATEVER THE INPUT: true; the input reads as it did. -/
def lawS4243AEchoSpec : ChangeSpec := { name := "lawS4243AEcho", fn := fun _ => fun
  | [d1, d2, d3, d4] => { results := [.lit (.bool true)], args := [d1, d2, d3, d4] }
  | _ => none }
def lawS4243AEchoRow : OpenClaim := { program := "ybulkcivs", sum := "ca130ad88aa4f6b5eddbf1f389b7f89d7e2fb6824c2e91eac483918326e9fbfb", func := "example.com/strandcast/strandcast/internal/planner.LawS4243AEcho", spec := "lawS4243AEcho", apart := false }
def LawS4243AEchoSaid : Prop := lawS4243AEchoRow.holds Yba.pinned (OpenSpec.ofChange lawS4243AEchoSpec)

/-- ITS FALSE NEIGHBOUR: 'it returns false'. Refute it at one input. -/
def lawS4243AEchoWrong : ChangeSpec := { name := "lawS4243AEcho", fn := fun _ => fun
  | [d1, d2, d3, d4] => { results := [.lit (.bool false)], args := [d1, d2, d3, d4] }
  | _ => none }
def LawS4243AEchoWrongFalsely : Prop := lawS4243AEchoRow.holds Yba.pinned (OpenSpec.ofChange lawS4243AEchoWrong)

/-- 'rights.LawS4243BCut': WHATEVER THE INPUT: true; the input reads as it did. -/
def lawS4243BCutSpec : ChangeSpec := { name := "lawS4243BCut", fn := fun _ => fun
  | [d1, d2] => { results := [.lit (.bool true)], args := [d1, d2] }
  | _ => none }
def lawS4243BCutRow : OpenClaim := { program := "ybulkcivs", sum := "ca130ad88aa4f6b5eddbf1f389b7f89d7e2fb6824c2e91eac483918326e9fbfb", func := "example.com/strandcast/strandcast/internal/rights.LawS4243BCut", spec := "lawS4243BCut", apart := false }
def LawS4243BCutSaid : Prop := lawS4243BCutRow.holds Yba.pinned (OpenSpec.ofChange lawS4243BCutSpec)

/-- ITS FALSE NEIGHBOUR: 'it returns false'. Refute it at one input. -/
def lawS4243BCutWrong : ChangeSpec := { name := "lawS4243BCut", fn := fun _ => fun
  | [d1, d2] => { results := [.lit (.bool false)], args := [d1, d2] }
  | _ => none }
def LawS4243BCutWrongFalsely : Prop := lawS4243BCutRow.holds Yba.pinned (OpenSpec.ofChange lawS4243BCutWrong)

end Rows
end Go.Proofs.Ybulkcivs
