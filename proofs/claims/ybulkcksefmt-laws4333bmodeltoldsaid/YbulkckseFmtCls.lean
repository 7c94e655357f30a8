import Derived.Test.YbulkckseFmtEq
import Derived.BigQuiet
namespace Go.Proofs.YbulkckseFmt
open Go Go.RowKit

/-- A region whose order is open, whose operations read and whose callees leave a world of the kind that U tells: one walk. -/
theorem wp_region_cls {P : Program} {X : Type} (U : X → World) {id : Nat} {Q : Exit → Act → World → Prop} {a : Act} {w : World} {l : List Oper} (hm : P.follows .mixedOrders = true) (hB : Region.lexB .any l.toArray = true) (hC : ∃ x, w.drew = U x)
    (h : wpQuiet P l.toArray (fun w' => ∃ x, w' = U x) (fun a' => ∀ w', (∃ x, w' = U x) → Q .normal a' w') l a) : (Code.region id l.toArray true).wp P Q a w :=
  wp_region_quiet (C := fun w' => ∃ x, w' = U x) hm hB hC (by simpa using h)

theorem cls_of (W : World) : ∃ (X : Type) (U : X → World), (∀ x, Below W.heap.size W (U x)) ∧ (∀ w', Below W.heap.size W w' → ∃ x, w' = U x) :=
  ⟨{w' // Below W.heap.size W w'}, Subtype.val, fun x => x.2, fun w' h => ⟨⟨w', h⟩, rfl⟩⟩
end Go.Proofs.YbulkckseFmt
