/-
  No cell of these rows narrows 'for every input' (looked for: loops, veiled, ifaces, maps, wideKeys, modest, calm, conditions, laid).
  DERIVED. THE GIVEN ROWS OF THIS SEAT. 1 by the template 'for every input the law returns true; each argument reads behind the call as it read before'; 0 by the template 'total and deterministic' (their statements: YbulkdigyTotals.lean).
  GIVEN WITH THE SEED: the statements are not yours to turn. If you find one false, say at which input.
  Laid BY PROGRAM, IN A SANDBOX (cutbox-rows.mjs): the forced cells as the released guide's own fill.sh prints them over the translation e99b6349de26a68e… (all of the seat's roots in one cut). By AI agents, Wed Nov 11 2026. No macro, syntax, notation, axiom, sorry.
-/
import Derived.Test.YbulkdigyChecked
import GoSem.Claim
import GoSem.ClaimJoined
import GoSem.ClaimMapViews
import Derived.JoinedTies
import Derived.KernelRfl
namespace Go.Proofs.Ybulkdigy
/- THE CELL 'sum', in the pinned program and in every row, IS THE sha256 OF THE DUMP (.gsa) THAT YbulkdigyProg.lean LOADS. Nothing in Lean hashes anything: it is a label: what it is worth is what the hold of that sum in a sandbox is worth. -/
noncomputable def Yba.pinned : Pinned := { name := "ybulkdigy", sum := "e99b6349de26a68e30486dfd7d42193c7bf888d0497b47f23e3704ca2f66018f", checked := Yba.checked }
namespace Rows
def none {H : Type} : Left H := { results := [], args := [] }

/-- 'verifier.LawS5471AWhole': WHATEVER THE INPUT: true; the input reads as it did. -/
def lawS5471AWholeSpec : ChangeSpec := { name := "lawS5471AWhole", fn := fun _ => fun
  | [d] => { results := [.lit (.bool true)], args := [d] }
  | _ => none }
def lawS5471AWholeRow : OpenClaim := { program := "ybulkdigy", sum := "e99b6349de26a68e30486dfd7d42193c7bf888d0497b47f23e3704ca2f66018f", func := "example.com/tessera/tessera/verifier.LawS5471AWhole", spec := "lawS5471AWhole", inPlace := ["sync/atomic.StorePointer", "sync/atomic.LoadPointer"], apart := false }
def LawS5471AWholeSaid : Prop := lawS5471AWholeRow.holds Yba.pinned (OpenSpec.ofChange lawS5471AWholeSpec)

/-- ITS FALSE NEIGHBOUR: 'it returns false'. Refute it at one input. -/
def lawS5471AWholeWrong : ChangeSpec := { name := "lawS5471AWhole", fn := fun _ => fun
  | [d] => { results := [.lit (.bool false)], args := [d] }
  | _ => none }
def LawS5471AWholeWrongFalsely : Prop := lawS5471AWholeRow.holds Yba.pinned (OpenSpec.ofChange lawS5471AWholeWrong)

end Rows
end Go.Proofs.Ybulkdigy
