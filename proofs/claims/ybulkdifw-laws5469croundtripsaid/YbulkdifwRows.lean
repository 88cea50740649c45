/-
  No cell of these rows narrows 'for every input' (looked for: loops, veiled, ifaces, maps, wideKeys, modest, calm, conditions, laid).
  DERIVED. THE GIVEN ROWS OF THIS SEAT. 2 by the template 'for every input the law returns true; each argument reads behind the call as it read before'; 0 by the template 'total and deterministic' (their statements: YbulkdifwTotals.lean).
  GIVEN WITH THE SEED: the statements are not yours to turn. If you find one false, say at which input.
  Laid BY PROGRAM, IN A SANDBOX (cutbox-rows.mjs): the forced cells as the released guide's own fill.sh prints them over the translation 80c630821fd8d872… (all of the seat's roots in one cut). By AI agents, Wed Nov 11 2026. No macro, syntax, notation, axiom, sorry.
-/
import Derived.Test.YbulkdifwChecked
import GoSem.Claim
import GoSem.ClaimJoined
import GoSem.ClaimMapViews
import Derived.JoinedTies
import Derived.KernelRfl
namespace Go.Proofs.Ybulkdifw
/- THE CELL 'sum', in the pinned program and in every row, IS THE sha256 OF THE DUMP (.gsa) THAT YbulkdifwProg.lean LOADS. Nothing in Lean hashes anything: it is a label: what it is worth is what the hold of that sum in a sandbox is worth. -/
noncomputable def Yba.pinned : Pinned := { name := "ybulkdifw", sum := "80c630821fd8d872f83875cc36218cdf2dc125c0dad3a6a610cf4ca5002d82d8", checked := Yba.checked }
namespace Rows
def none {H : Type} : Left H := { results := [], args := [] }

/-- 'zhuanzhai.LawS5469CWhole': WHATEVER THE INPUT: true; the input reads as it did. -/
def lawS5469CWholeSpec : ChangeSpec := { name := "lawS5469CWhole", fn := fun _ => fun
  | [d1, d2] => { results := [.lit (.bool true)], args := [d1, d2] }
  | _ => none }
def lawS5469CWholeRow : OpenClaim := { program := "ybulkdifw", sum := "80c630821fd8d872f83875cc36218cdf2dc125c0dad3a6a610cf4ca5002d82d8", func := "example.com/zhuanzhai/zhuanzhai.LawS5469CWhole", spec := "lawS5469CWhole", apart := false }
def LawS5469CWholeSaid : Prop := lawS5469CWholeRow.holds Yba.pinned (OpenSpec.ofChange lawS5469CWholeSpec)

/-- ITS FALSE NEIGHBOUR: 'it returns false'. Refute it at one input. -/
def lawS5469CWholeWrong : ChangeSpec := { name := "lawS5469CWhole", fn := fun _ => fun
  | [d1, d2] => { results := [.lit (.bool false)], args := [d1, d2] }
  | _ => none }
def LawS5469CWholeWrongFalsely : Prop := lawS5469CWholeRow.holds Yba.pinned (OpenSpec.ofChange lawS5469CWholeWrong)

/-- 'zhuanzhai.LawS5469CRoundTrip': WHATEVER THE INPUT: true; the input reads as it did. -/
def lawS5469CRoundTripSpec : ChangeSpec := { name := "lawS5469CRoundTrip", fn := fun _ => fun
  | [d1, d2, d3] => { results := [.lit (.bool true)], args := [d1, d2, d3] }
  | _ => none }
def lawS5469CRoundTripRow : OpenClaim := { program := "ybulkdifw", sum := "80c630821fd8d872f83875cc36218cdf2dc125c0dad3a6a610cf4ca5002d82d8", func := "example.com/zhuanzhai/zhuanzhai.LawS5469CRoundTrip", spec := "lawS5469CRoundTrip", apart := false }
def LawS5469CRoundTripSaid : Prop := lawS5469CRoundTripRow.holds Yba.pinned (OpenSpec.ofChange lawS5469CRoundTripSpec)

/-- ITS FALSE NEIGHBOUR: 'it returns false'. Refute it at one input. -/
def lawS5469CRoundTripWrong : ChangeSpec := { name := "lawS5469CRoundTrip", fn := fun _ => fun
  | [d1, d2, d3] => { results := [.lit (.bool false)], args := [d1, d2, d3] }
  | _ => none }
def LawS5469CRoundTripWrongFalsely : Prop := lawS5469CRoundTripRow.holds Yba.pinned (OpenSpec.ofChange lawS5469CRoundTripWrong)

end Rows
end Go.Proofs.Ybulkdifw
