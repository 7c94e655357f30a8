/-
  No cell of these rows narrows 'for every input' (looked for: loops, veiled, ifaces, maps, wideKeys, modest, calm, conditions, laid).
  DERIVED. THE GIVEN ROWS OF THIS SEAT. 4 by the template 'for every input the law returns true; each argument reads behind the call as it read before'; 0 by the template 'total and deterministic' (their statements: YbulkckseTotals.lean).
  GIVEN WITH THE SEED: the statements are not yours to turn. If you find one false, say at which input.
  Laid BY PROGRAM, IN A SANDBOX (cutbox-rows.mjs): the forced cells as the released guide's own fill.sh prints them over the translation 8d70ceeec36fa59e… (all of the seat's roots in one cut). By AI agents, Wed Nov 11 2026. No macro, syntax, notation, axiom, sorry.
-/
import Derived.Test.YbulkckseChecked
import GoSem.Claim
import GoSem.ClaimJoined
import GoSem.ClaimMapViews
import Derived.JoinedTies
import Derived.KernelRfl
namespace Go.Proofs.Ybulkckse
/- THE CELL 'sum', in the pinned program and in every row, IS THE sha256 OF THE DUMP (.gsa) THAT YbulkckseProg.lean LOADS. Nothing in Lean hashes anything: it is a label: what it is worth is what the hold of that sum in a sandbox is worth. -/
noncomputable def Yba.pinned : Pinned := { name := "ybulkckse", sum := "8d70ceeec36fa59e6f5eaf0c81f2942e4d6d56dd8421246fab3e2d8bc98956a0", checked := Yba.checked }
namespace Rows
def none {H : Type} : Left H := { results := [], args := [] }

/-- 'rivulet.LawS4333AOrder': WHATEVER THE INPUT: true; the input reads as it did. -/
def lawS4333AOrderSpec : ChangeSpec := { name := "lawS4333AOrder", fn := fun _ => fun
  | [d] => { results := [.lit (.bool true)], args := [d] }
  | _ => none }
def lawS4333AOrderRow : OpenClaim := { program := "ybulkckse", sum := "8d70ceeec36fa59e6f5eaf0c81f2942e4d6d56dd8421246fab3e2d8bc98956a0", func := "example.com/rivulet/rivulet.LawS4333AOrder", spec := "lawS4333AOrder", unfollowed := true, recurses := true, apart := false }
def LawS4333AOrderSaid : Prop := lawS4333AOrderRow.holds Yba.pinned (OpenSpec.ofChange lawS4333AOrderSpec)

/-- ITS FALSE NEIGHBOUR: 'it returns false'. Refute it at one input. -/
def lawS4333AOrderWrong : ChangeSpec := { name := "lawS4333AOrder", fn := fun _ => fun
  | [d] => { results := [.lit (.bool false)], args := [d] }
  | _ => none }
def LawS4333AOrderWrongFalsely : Prop := lawS4333AOrderRow.holds Yba.pinned (OpenSpec.ofChange lawS4333AOrderWrong)

/-- 'rivulet.LawS4333AStops': WHATEVER THE INPUT: true; the input reads as it did. -/
def lawS4333AStopsSpec : ChangeSpec := { name := "lawS4333AStops", fn := fun _ => fun
  | [d1, d2] => { results := [.lit (.bool true)], args := [d1, d2] }
  | _ => none }
def lawS4333AStopsRow : OpenClaim := { program := "ybulkckse", sum := "8d70ceeec36fa59e6f5eaf0c81f2942e4d6d56dd8421246fab3e2d8bc98956a0", func := "example.com/rivulet/rivulet.LawS4333AStops", spec := "lawS4333AStops", unfollowed := true, recurses := true, apart := false }
def LawS4333AStopsSaid : Prop := lawS4333AStopsRow.holds Yba.pinned (OpenSpec.ofChange lawS4333AStopsSpec)

/-- ITS FALSE NEIGHBOUR: 'it returns false'. Refute it at one input. -/
def lawS4333AStopsWrong : ChangeSpec := { name := "lawS4333AStops", fn := fun _ => fun
  | [d1, d2] => { results := [.lit (.bool false)], args := [d1, d2] }
  | _ => none }
def LawS4333AStopsWrongFalsely : Prop := lawS4333AStopsRow.holds Yba.pinned (OpenSpec.ofChange lawS4333AStopsWrong)

/-- 'rivulet.LawS4333CValues': WHATEVER THE INPUT: true; the input reads as it did. -/
def lawS4333CValuesSpec : ChangeSpec := { name := "lawS4333CValues", fn := fun _ => fun
  | [d1, d2, d3, d4, d5, d6] => { results := [.lit (.bool true)], args := [d1, d2, d3, d4, d5, d6] }
  | _ => none }
def lawS4333CValuesRow : OpenClaim := { program := "ybulkckse", sum := "8d70ceeec36fa59e6f5eaf0c81f2942e4d6d56dd8421246fab3e2d8bc98956a0", func := "example.com/rivulet/rivulet.LawS4333CValues", spec := "lawS4333CValues", unfollowed := true, recurses := true, apart := false }
def LawS4333CValuesSaid : Prop := lawS4333CValuesRow.holds Yba.pinned (OpenSpec.ofChange lawS4333CValuesSpec)

/-- ITS FALSE NEIGHBOUR: 'it returns false'. Refute it at one input. -/
def lawS4333CValuesWrong : ChangeSpec := { name := "lawS4333CValues", fn := fun _ => fun
  | [d1, d2, d3, d4, d5, d6] => { results := [.lit (.bool false)], args := [d1, d2, d3, d4, d5, d6] }
  | _ => none }
def LawS4333CValuesWrongFalsely : Prop := lawS4333CValuesRow.holds Yba.pinned (OpenSpec.ofChange lawS4333CValuesWrong)

/-- 'rivulet.LawS4333CCut': WHATEVER THE INPUT: true; the input reads as it did. -/
def lawS4333CCutSpec : ChangeSpec := { name := "lawS4333CCut", fn := fun _ => fun
  | [d1, d2, d3, d4] => { results := [.lit (.bool true)], args := [d1, d2, d3, d4] }
  | _ => none }
def lawS4333CCutRow : OpenClaim := { program := "ybulkckse", sum := "8d70ceeec36fa59e6f5eaf0c81f2942e4d6d56dd8421246fab3e2d8bc98956a0", func := "example.com/rivulet/rivulet.LawS4333CCut", spec := "lawS4333CCut", unfollowed := true, recurses := true, apart := false }
def LawS4333CCutSaid : Prop := lawS4333CCutRow.holds Yba.pinned (OpenSpec.ofChange lawS4333CCutSpec)

/-- ITS FALSE NEIGHBOUR: 'it returns false'. Refute it at one input. -/
def lawS4333CCutWrong : ChangeSpec := { name := "lawS4333CCut", fn := fun _ => fun
  | [d1, d2, d3, d4] => { results := [.lit (.bool false)], args := [d1, d2, d3, d4] }
  | _ => none }
def LawS4333CCutWrongFalsely : Prop := lawS4333CCutRow.holds Yba.pinned (OpenSpec.ofChange lawS4333CCutWrong)

end Rows
end Go.Proofs.Ybulkckse
