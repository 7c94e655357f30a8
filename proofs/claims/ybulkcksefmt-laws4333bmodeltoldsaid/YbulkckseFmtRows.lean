/-
  NARROWER THAN 'FOR EVERY INPUT', by the rows' own cells (each row's printed sentence says how): LawS4333BModel: ifaces, laid.
  DERIVED. THE GIVEN ROWS OF THIS SEAT. 1 by the template 'for every input the law returns true; each argument reads behind the call as it read before'; 0 by the template 'total and deterministic' (their statements: YbulkckseFmtTotals.lean).
  GIVEN WITH THE SEED: the statements are not yours to turn. If you find one false, say at which input.
  Laid BY PROGRAM, IN A SANDBOX (cutbox-rows.mjs): the forced cells as the released guide's own fill.sh prints them over the translation a877f0044fc50e04… (all of the seat's roots in one cut). By AI agents, Wed Nov 11 2026. No macro, syntax, notation, axiom, sorry.
-/
import Derived.Test.YbulkckseFmtChecked
import GoSem.Claim
import GoSem.ClaimJoined
import GoSem.ClaimMapViews
import Derived.JoinedTies
import Derived.KernelRfl
namespace Go.Proofs.YbulkckseFmt
/- THE CELL 'sum', in the pinned program and in every row, IS THE sha256 OF THE DUMP (.gsa) THAT YbulkckseFmtProg.lean LOADS. Nothing in Lean hashes anything: it is a label: what it is worth is what the hold of that sum in a sandbox is worth. -/
noncomputable def Ybaf.pinned : Pinned := { name := "ybulkcksefmt", sum := "a877f0044fc50e0473c2726d261f6361d64f99fbaeb95718f2473786a1d54477", checked := Ybaf.checked }
namespace Rows
def none {H : Type} : Left H := { results := [], args := [] }

/- WHAT THE LISTED PACKAGE-LEVEL VARIABLES READ AS WHEN THE CALL BEGINS. Each datum BY PROGRAM (the guide's laid-datum.mjs) off the statement by which the dump's own 'gosem.cut.vars' lays the variable. In a bare row this is a premise. The card (YbulkckseFmtCards.lean) ties it to the program's text. -/
def laid_example_com_rivulet_rivulet_ErrNoField {H : Type} : DataW H := .iface "*errors.errorString" (.ptr (.agg [.lit (.string [110, 111, 32, 115, 117, 99, 104, 32, 102, 105, 101, 108, 100])]))

/-- 'rivulet.LawS4333BModel': WHATEVER THE INPUT: true; the input reads as it did. -/
def lawS4333BModelSpec : ChangeSpec := { name := "lawS4333BModel", vars := ["example.com/rivulet/rivulet.ErrNoField"], fn := fun _ => fun
  | [d1, d2, d3, g1] => { results := [.lit (.bool true)], args := [d1, d2, d3], vars := [g1] }
  | _ => none }
def lawS4333BModelRow : OpenClaim := { program := "ybulkcksefmt", sum := "a877f0044fc50e0473c2726d261f6361d64f99fbaeb95718f2473786a1d54477", func := "example.com/rivulet/rivulet.LawS4333BModel", spec := "lawS4333BModel", stops := ["fmt.errorf, its operands' methods called", "fmt.Sprintf, its operands' methods called"], inPlace := ["fmt.errorf", "internal/reflectlite.TypeOf"], unfollowed := true, recurses := true, named := ["example.com/rivulet/rivulet.ErrNoField"], ifaces := true, apart := false, laid := [("example.com/rivulet/rivulet.ErrNoField", laid_example_com_rivulet_rivulet_ErrNoField)] }
/-- NO THEOREM (fmt's text is open here; it may be false): for the released tool's asking of the row's closed facts alone. THE STATEMENT IS 'LawS4333BModelToldSaid' (YbulkckseFmtCards.lean). -/
def LawS4333BModelFormAsk : Prop := lawS4333BModelRow.holds Ybaf.pinned (OpenSpec.ofChange lawS4333BModelSpec)

/-- ITS FALSE NEIGHBOUR: 'it returns false'. Refute it at one input. -/
def lawS4333BModelWrong : ChangeSpec := { name := "lawS4333BModel", vars := ["example.com/rivulet/rivulet.ErrNoField"], fn := fun _ => fun
  | [d1, d2, d3, g1] => { results := [.lit (.bool false)], args := [d1, d2, d3], vars := [g1] }
  | _ => none }
def LawS4333BModelWrongFormAsk : Prop := lawS4333BModelRow.holds Ybaf.pinned (OpenSpec.ofChange lawS4333BModelWrong)

end Rows
end Go.Proofs.YbulkckseFmt
