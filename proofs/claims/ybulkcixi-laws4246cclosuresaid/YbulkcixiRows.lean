/-
  No cell of these rows narrows 'for every input' (looked for: loops, veiled, ifaces, maps, wideKeys, modest, calm, conditions, laid).
  DERIVED. THE GIVEN ROWS OF THIS SEAT. 4 by the template 'for every input the law returns true; each argument reads behind the call as it read before'; 0 by the template 'total and deterministic' (their statements: YbulkcixiTotals.lean).
  GIVEN WITH THE SEED: the statements are not yours to turn. If you find one false, say at which input.
  Laid BY PROGRAM, IN A SANDBOX (cutbox-rows.mjs): the forced cells as the released guide's own fill.sh prints them over the translation 7e9be3284cb5ad91… (all of the seat's roots in one cut). By AI agents, Wed Nov 11 2026. No macro, syntax, notation, axiom, sorry.
-/
import Derived.Test.YbulkcixiChecked
import GoSem.Claim
import GoSem.ClaimJoined
import GoSem.ClaimMapViews
import Derived.JoinedTies
import Derived.KernelRfl
namespace Go.Proofs.Ybulkcixi
/- THE CELL 'sum', in the pinned program and in every row, IS THE sha256 OF THE DUMP (.gsa) THAT YbulkcixiProg.lean LOADS. Nothing in Lean hashes anything: it is a label: what it is worth is what the hold of that sum in a sandbox is worth. -/
noncomputable def Yba.pinned : Pinned := { name := "ybulkcixi", sum := "7e9be3284cb5ad91e477c3bd20386cad2ba6db9469cb40d799b9b4cb29be198f", checked := Yba.checked }
namespace Rows
def none {H : Type} : Left H := { results := [], args := [] }

/-- 'history.LawS4246AAllBytes': WHATEVER THE INPUT: true; the input reads as it did. -/
def lawS4246AAllBytesSpec : ChangeSpec := { name := "lawS4246AAllBytes", fn := fun _ => fun
  | [] => { results := [.lit (.bool true)], args := [] }
  | _ => none }
def lawS4246AAllBytesRow : OpenClaim := { program := "ybulkcixi", sum := "7e9be3284cb5ad91e477c3bd20386cad2ba6db9469cb40d799b9b4cb29be198f", func := "example.com/clew/clew/history.LawS4246AAllBytes", spec := "lawS4246AAllBytes", plainKeys := false, apart := false }
def LawS4246AAllBytesSaid : Prop := lawS4246AAllBytesRow.holds Yba.pinned (OpenSpec.ofChange lawS4246AAllBytesSpec)

/-- ITS FALSE NEIGHBOUR: 'it returns false'. Refute it at one input. -/
def lawS4246AAllBytesWrong : ChangeSpec := { name := "lawS4246AAllBytes", fn := fun _ => fun
  | [] => { results := [.lit (.bool false)], args := [] }
  | _ => none }
def LawS4246AAllBytesWrongFalsely : Prop := lawS4246AAllBytesRow.holds Yba.pinned (OpenSpec.ofChange lawS4246AAllBytesWrong)

/-- 'history.LawS4246AEncode': WHATEVER THE INPUT: true; the input reads as it did. -/
def lawS4246AEncodeSpec : ChangeSpec := { name := "lawS4246AEncode", fn := fun _ => fun
  | [d] => { results := [.lit (.bool true)], args := [d] }
  | _ => none }
def lawS4246AEncodeRow : OpenClaim := { program := "ybulkcixi", sum := "7e9be3284cb5ad91e477c3bd20386cad2ba6db9469cb40d799b9b4cb29be198f", func := "example.com/clew/clew/history.LawS4246AEncode", spec := "lawS4246AEncode", plainKeys := false, apart := false }
def LawS4246AEncodeSaid : Prop := lawS4246AEncodeRow.holds Yba.pinned (OpenSpec.ofChange lawS4246AEncodeSpec)

/-- ITS FALSE NEIGHBOUR: 'it returns false'. Refute it at one input. -/
def lawS4246AEncodeWrong : ChangeSpec := { name := "lawS4246AEncode", fn := fun _ => fun
  | [d] => { results := [.lit (.bool false)], args := [d] }
  | _ => none }
def LawS4246AEncodeWrongFalsely : Prop := lawS4246AEncodeRow.holds Yba.pinned (OpenSpec.ofChange lawS4246AEncodeWrong)

/-- 'consistency.LawS4246CClosure': WHATEVER THE INPUT: true; the input reads as it did. -/
def lawS4246CClosureSpec : ChangeSpec := { name := "lawS4246CClosure", fn := fun _ => fun
  | [d] => { results := [.lit (.bool true)], args := [d] }
  | _ => none }
def lawS4246CClosureRow : OpenClaim := { program := "ybulkcixi", sum := "7e9be3284cb5ad91e477c3bd20386cad2ba6db9469cb40d799b9b4cb29be198f", func := "example.com/clew/clew/consistency.LawS4246CClosure", spec := "lawS4246CClosure", plainKeys := false, apart := false }
def LawS4246CClosureSaid : Prop := lawS4246CClosureRow.holds Yba.pinned (OpenSpec.ofChange lawS4246CClosureSpec)

/-- ITS FALSE NEIGHBOUR: 'it returns false'. Refute it at one input. -/
def lawS4246CClosureWrong : ChangeSpec := { name := "lawS4246CClosure", fn := fun _ => fun
  | [d] => { results := [.lit (.bool false)], args := [d] }
  | _ => none }
def LawS4246CClosureWrongFalsely : Prop := lawS4246CClosureRow.holds Yba.pinned (OpenSpec.ofChange lawS4246CClosureWrong)

/-- 'consistency.LawS4246CSettledAndUntouched': WHATEVER THE INPUT: true; the input reads as it did. -/
def lawS4246CSettledAndUntouchedSpec : ChangeSpec := { name := "lawS4246CSettledAndUntouched", fn := fun _ => fun
  | [d] => { results := [.lit (.bool true)], args := [d] }
  | _ => none }
def lawS4246CSettledAndUntouchedRow : OpenClaim := { program := "ybulkcixi", sum := "7e9be3284cb5ad91e477c3bd20386cad2ba6db9469cb40d799b9b4cb29be198f", func := "example.com/clew/clew/consistency.LawS4246CSettledAndUntouched", spec := "lawS4246CSettledAndUntouched", plainKeys := false, apart := false }
def LawS4246CSettledAndUntouchedSaid : Prop := lawS4246CSettledAndUntouchedRow.holds Yba.pinned (OpenSpec.ofChange lawS4246CSettledAndUntouchedSpec)

/-- ITS FALSE NEIGHBOUR: 'it returns false'. Refute it at one input. -/
def lawS4246CSettledAndUntouchedWrong : ChangeSpec := { name := "lawS4246CSettledAndUntouched", fn := fun _ => fun
  | [d] => { results := [.lit (.bool false)], args := [d] }
  | _ => none }
def LawS4246CSettledAndUntouchedWrongFalsely : Prop := lawS4246CSettledAndUntouchedRow.holds Yba.pinned (OpenSpec.ofChange lawS4246CSettledAndUntouchedWrong)

end Rows
end Go.Proofs.Ybulkcixi
