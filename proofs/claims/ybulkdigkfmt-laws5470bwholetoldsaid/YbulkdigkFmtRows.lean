/-
  NARROWER THAN 'FOR EVERY INPUT', by the rows' own cells (each row's printed sentence says how): LawS5470CWhole: laid.
  DERIVED. THE GIVEN ROWS OF THIS SEAT. 2 by the template 'for every input the law returns true; each argument reads behind the call as it read before'; 0 by the template 'total and deterministic' (their statements: YbulkdigkFmtTotals.lean).
  GIVEN WITH THE SEED: the statements are not yours to turn. If you find one false, say at which input.
  Laid BY PROGRAM, IN A SANDBOX (cutbox-rows.mjs): the forced cells as the released guide's own fill.sh prints them over the translation 2c52817023fdac63… (all of the seat's roots in one cut). By AI agents, Wed Nov 11 2026. No macro, syntax, notation, axiom, sorry.
-/
import Derived.Test.YbulkdigkFmtChecked
import GoSem.Claim
import GoSem.ClaimJoined
import GoSem.ClaimMapViews
import Derived.JoinedTies
import Derived.KernelRfl
namespace Go.Proofs.YbulkdigkFmt
/- THE CELL 'sum', in the pinned program and in every row, IS THE sha256 OF THE DUMP (.gsa) THAT YbulkdigkFmtProg.lean LOADS. Nothing in Lean hashes anything: it is a label: what it is worth is what the hold of that sum in a sandbox is worth. -/
noncomputable def Ybaf.pinned : Pinned := { name := "ybulkdigkfmt", sum := "2c52817023fdac630bd8701d48d184333cb2e2c500e6cb3aedc5885ebd9ab4e0", checked := Ybaf.checked }
namespace Rows
def none {H : Type} : Left H := { results := [], args := [] }

/- WHAT THE LISTED PACKAGE-LEVEL VARIABLES READ AS WHEN THE CALL BEGINS. Each datum BY PROGRAM (the guide's laid-datum.mjs) off the statement by which the dump's own 'gosem.cut.vars' lays the variable. In a bare row this is a premise. The card (YbulkdigkFmtCards.lean) ties it to the program's text. -/
def laid_errors_errorType {H : Type} : DataW H := .iface "internal/reflectlite.rtype" (.agg [.ptr (.lit (.string [101, 114, 114, 111, 114]))])

/-- 'insist.LawS5470BWhole': WHATEVER THE INPUT: true; the input reads as it did. -/
def lawS5470BWholeSpec : ChangeSpec := { name := "lawS5470BWhole", fn := fun _ => fun
  | [d1, d2, d3, d4, d5, d6] => { results := [.lit (.bool true)], args := [d1, d2, d3, d4, d5, d6] }
  | _ => none }
def lawS5470BWholeRow : OpenClaim := { program := "ybulkdigkfmt", sum := "2c52817023fdac630bd8701d48d184333cb2e2c500e6cb3aedc5885ebd9ab4e0", func := "example.com/insist/insist.LawS5470BWhole", spec := "lawS5470BWhole", stops := ["fmt.Sprintf, its operands' methods called"], inPlace := ["fmt.Sprintf"], unfollowed := true, recurses := true, apart := false }
/-- NO THEOREM (fmt's text is open here; it may be false): for the released tool's asking of the row's closed facts alone. THE STATEMENT IS 'LawS5470BWholeToldSaid' (YbulkdigkFmtCards.lean). -/
def LawS5470BWholeFormAsk : Prop := lawS5470BWholeRow.holds Ybaf.pinned (OpenSpec.ofChange lawS5470BWholeSpec)

/-- ITS FALSE NEIGHBOUR: 'it returns false'. Refute it at one input. -/
def lawS5470BWholeWrong : ChangeSpec := { name := "lawS5470BWhole", fn := fun _ => fun
  | [d1, d2, d3, d4, d5, d6] => { results := [.lit (.bool false)], args := [d1, d2, d3, d4, d5, d6] }
  | _ => none }
def LawS5470BWholeWrongFormAsk : Prop := lawS5470BWholeRow.holds Ybaf.pinned (OpenSpec.ofChange lawS5470BWholeWrong)

/-- 'insist.LawS5470CWhole': WHATEVER THE INPUT: true; the input reads as it did. -/
def lawS5470CWholeSpec : ChangeSpec := { name := "lawS5470CWhole", fn := fun _ => fun
  | [d] => { results := [.lit (.bool true)], args := [d] }
  | _ => none }
def lawS5470CWholeRow : OpenClaim := { program := "ybulkdigkfmt", sum := "2c52817023fdac630bd8701d48d184333cb2e2c500e6cb3aedc5885ebd9ab4e0", func := "example.com/insist/insist.LawS5470CWhole", spec := "lawS5470CWhole", stops := ["fmt.Sprintf, its operands' methods called"], inPlace := ["fmt.Sprintf", "internal/reflectlite.ValueOf", "(internal/reflectlite.Value).Type", "(internal/reflectlite.Value).IsNil", "internal/reflectlite.TypeOf", "(internal/reflectlite.Value).Elem", "(internal/reflectlite.Value).Set"], unfollowed := true, recurses := true, named := ["errors.errorType"], apart := false, laid := [("errors.errorType", laid_errors_errorType)] }
/-- NO THEOREM (fmt's text is open here; it may be false): for the released tool's asking of the row's closed facts alone. THE STATEMENT IS 'LawS5470CWholeToldSaid' (YbulkdigkFmtCards.lean). -/
def LawS5470CWholeFormAsk : Prop := lawS5470CWholeRow.holds Ybaf.pinned (OpenSpec.ofChange lawS5470CWholeSpec)

/-- ITS FALSE NEIGHBOUR: 'it returns false'. Refute it at one input. -/
def lawS5470CWholeWrong : ChangeSpec := { name := "lawS5470CWhole", fn := fun _ => fun
  | [d] => { results := [.lit (.bool false)], args := [d] }
  | _ => none }
def LawS5470CWholeWrongFormAsk : Prop := lawS5470CWholeRow.holds Ybaf.pinned (OpenSpec.ofChange lawS5470CWholeWrong)

end Rows
end Go.Proofs.YbulkdigkFmt
