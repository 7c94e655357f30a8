/-
  No cell of these rows narrows 'for every input' (looked for: loops, veiled, ifaces, maps, wideKeys, modest, calm, conditions, laid).
  DERIVED. THE GIVEN ROWS OF THIS SEAT. 2 by the template 'for every input the law returns true; each argument reads behind the call as it read before'; 0 by the template 'total and deterministic' (their statements: YbulkcktuTotals.lean).
  GIVEN WITH THE SEED: the statements are not yours to turn. If you find one false, say at which input.
  Laid BY PROGRAM, IN A SANDBOX (cutbox-rows.mjs): the forced cells as the released guide's own fill.sh prints them over the translation 589a158d8ad44a30… (all of the seat's roots in one cut). By AI agents, Wed Nov 11 2026. No macro, syntax, notation, axiom, sorry.
-/
import Derived.Test.YbulkcktuChecked
import GoSem.Claim
import GoSem.ClaimJoined
import GoSem.ClaimMapViews
import Derived.JoinedTies
import Derived.KernelRfl
namespace Go.Proofs.Ybulkcktu
/- THE CELL 'sum', in the pinned program and in every row, IS THE sha256 OF THE DUMP (.gsa) THAT YbulkcktuProg.lean LOADS. Nothing in Lean hashes anything: it is a label: what it is worth is what the hold of that sum in a sandbox is worth. -/
noncomputable def Yba.pinned : Pinned := { name := "ybulkcktu", sum := "589a158d8ad44a3007fb447f9bfa77d84a5c9e9d20354b2e6ed0c49728c0e5b1", checked := Yba.checked }
namespace Rows
def none {H : Type} : Left H := { results := [], args := [] }

/-- 'store.LawS4336CRemoves': WHATEVER THE INPUT: true; the input reads as it did. -/
def lawS4336CRemovesSpec : ChangeSpec := { name := "lawS4336CRemoves", fn := fun _ => fun
  | [d1, d2, d3] => { results := [.lit (.bool true)], args := [d1, d2, d3] }
  | _ => none }
def lawS4336CRemovesRow : OpenClaim := { program := "ybulkcktu", sum := "589a158d8ad44a3007fb447f9bfa77d84a5c9e9d20354b2e6ed0c49728c0e5b1", func := "example.com/satchel/satchel/pkg/store.LawS4336CRemoves", spec := "lawS4336CRemoves", apart := false }
def LawS4336CRemovesSaid : Prop := lawS4336CRemovesRow.holds Yba.pinned (OpenSpec.ofChange lawS4336CRemovesSpec)

/-- ITS FALSE NEIGHBOUR: 'it returns false'. Refute it at one input. -/
def lawS4336CRemovesWrong : ChangeSpec := { name := "lawS4336CRemoves", fn := fun _ => fun
  | [d1, d2, d3] => { results := [.lit (.bool false)], args := [d1, d2, d3] }
  | _ => none }
def LawS4336CRemovesWrongFalsely : Prop := lawS4336CRemovesRow.holds Yba.pinned (OpenSpec.ofChange lawS4336CRemovesWrong)

/-- 'store.LawS4336CForeign': WHATEVER THE INPUT: true; the input reads as it did. -/
def lawS4336CForeignSpec : ChangeSpec := { name := "lawS4336CForeign", fn := fun _ => fun
  | [d1, d2, d3, d4] => { results := [.lit (.bool true)], args := [d1, d2, d3, d4] }
  | _ => none }
def lawS4336CForeignRow : OpenClaim := { program := "ybulkcktu", sum := "589a158d8ad44a3007fb447f9bfa77d84a5c9e9d20354b2e6ed0c49728c0e5b1", func := "example.com/satchel/satchel/pkg/store.LawS4336CForeign", spec := "lawS4336CForeign", apart := false }
def LawS4336CForeignSaid : Prop := lawS4336CForeignRow.holds Yba.pinned (OpenSpec.ofChange lawS4336CForeignSpec)

/-- ITS FALSE NEIGHBOUR: 'it returns false'. Refute it at one input. -/
def lawS4336CForeignWrong : ChangeSpec := { name := "lawS4336CForeign", fn := fun _ => fun
  | [d1, d2, d3, d4] => { results := [.lit (.bool false)], args := [d1, d2, d3, d4] }
  | _ => none }
def LawS4336CForeignWrongFalsely : Prop := lawS4336CForeignRow.holds Yba.pinned (OpenSpec.ofChange lawS4336CForeignWrong)

end Rows
end Go.Proofs.Ybulkcktu
