/-
  No cell of these rows narrows 'for every input' (looked for: loops, veiled, ifaces, maps, wideKeys, modest, calm, conditions, laid).
  DERIVED. THE GIVEN ROWS OF THIS SEAT. 2 by the template 'for every input the law returns true; each argument reads behind the call as it read before'; 0 by the template 'total and deterministic' (their statements: YbulkdifiTotals.lean).
  GIVEN WITH THE SEED: the statements are not yours to turn. If you find one false, say at which input.
  Laid BY PROGRAM, IN A SANDBOX (cutbox-rows.mjs): the forced cells as the released guide's own fill.sh prints them over the translation 10fec959487ece94… (all of the seat's roots in one cut). By AI agents, Wed Nov 11 2026. No macro, syntax, notation, axiom, sorry.
-/
import Derived.Test.YbulkdifiChecked
import GoSem.Claim
import GoSem.ClaimJoined
import GoSem.ClaimMapViews
import Derived.JoinedTies
import Derived.KernelRfl
namespace Go.Proofs.Ybulkdifi
/- THE CELL 'sum', in the pinned program and in every row, IS THE sha256 OF THE DUMP (.gsa) THAT YbulkdifiProg.lean LOADS. Nothing in Lean hashes anything: it is a label: what it is worth is what the hold of that sum in a sandbox is worth. -/
noncomputable def Yba.pinned : Pinned := { name := "ybulkdifi", sum := "10fec959487ece94483c816730938b1d285ac4a6bc96d8f30c0b782e239e467a", checked := Yba.checked }
namespace Rows
def none {H : Type} : Left H := { results := [], args := [] }

/-- 'ballast.LawS5468AWhole': WHATEVER THE INPUT: true; the input reads as it did. -/
def lawS5468AWholeSpec : ChangeSpec := { name := "lawS5468AWhole", fn := fun _ => fun
  | [d1, d2, d3] => { results := [.lit (.bool true)], args := [d1, d2, d3] }
  | _ => none }
def lawS5468AWholeRow : OpenClaim := { program := "ybulkdifi", sum := "10fec959487ece94483c816730938b1d285ac4a6bc96d8f30c0b782e239e467a", func := "example.com/ballast/ballast.LawS5468AWhole", spec := "lawS5468AWhole", inPlace := ["sync/atomic.LoadPointer", "sync/atomic.StorePointer"], apart := false }
def LawS5468AWholeSaid : Prop := lawS5468AWholeRow.holds Yba.pinned (OpenSpec.ofChange lawS5468AWholeSpec)

/-- ITS FALSE NEIGHBOUR: 'it returns false'. Refute it at one input. -/
def lawS5468AWholeWrong : ChangeSpec := { name := "lawS5468AWhole", fn := fun _ => fun
  | [d1, d2, d3] => { results := [.lit (.bool false)], args := [d1, d2, d3] }
  | _ => none }
def LawS5468AWholeWrongFalsely : Prop := lawS5468AWholeRow.holds Yba.pinned (OpenSpec.ofChange lawS5468AWholeWrong)

/-- 'ballast.LawS5468BWhole': WHATEVER THE INPUT: true; the input reads as it did. -/
def lawS5468BWholeSpec : ChangeSpec := { name := "lawS5468BWhole", fn := fun _ => fun
  | [d1, d2, d3, d4, d5] => { results := [.lit (.bool true)], args := [d1, d2, d3, d4, d5] }
  | _ => none }
def lawS5468BWholeRow : OpenClaim := { program := "ybulkdifi", sum := "10fec959487ece94483c816730938b1d285ac4a6bc96d8f30c0b782e239e467a", func := "example.com/ballast/ballast.LawS5468BWhole", spec := "lawS5468BWhole", apart := false }
def LawS5468BWholeSaid : Prop := lawS5468BWholeRow.holds Yba.pinned (OpenSpec.ofChange lawS5468BWholeSpec)

/-- ITS FALSE NEIGHBOUR: 'it returns false'. Refute it at one input. -/
def lawS5468BWholeWrong : ChangeSpec := { name := "lawS5468BWhole", fn := fun _ => fun
  | [d1, d2, d3, d4, d5] => { results := [.lit (.bool false)], args := [d1, d2, d3, d4, d5] }
  | _ => none }
def LawS5468BWholeWrongFalsely : Prop := lawS5468BWholeRow.holds Yba.pinned (OpenSpec.ofChange lawS5468BWholeWrong)

end Rows
end Go.Proofs.Ybulkdifi
