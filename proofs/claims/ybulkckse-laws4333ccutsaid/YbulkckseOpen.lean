/- What a walk is told of a slice of strings that came in. -/
import Derived.Test.YbulkckseChecked
import Derived.WalkKit
import Derived.ProofKit
import Derived.OpenShut
import Derived.SliceStrings
namespace Go.Proofs.Ybulkckse
open Go Go.ChangeShapes Go.WideShapes Go.ChangeAt Go.RowKit

/-- It is nil; or it leads to a row of 'cap' cells, the strings 'ss'. -/
def IsStrs (w : World) (a : Option Addr) (len cap : Nat) (ss : List ByteArray) : Prop :=
  (a = none ∧ len = 0 ∧ cap = 0 ∧ ss = []) ∨
  ∃ x, a = some x ∧ len ≤ cap ∧ cap ≤ maxLen ∧ ss.length = cap ∧ (∀ i, i < ss.length → w.cell? (x.add i) = some (.string (ss.getD i ByteArray.empty))) ∧ ∀ s ∈ ss, s.size ≤ maxLen

theorem strs_at {w : World} {a : Addr} {ss : List ByteArray} (h : ∀ i, i < ss.length → w.cell? (a.add i) = some (.string (ss.getD i ByteArray.empty))) (hp : 0 < ss.length) :
    ∃ b off, a = ⟨b, off, none⟩ ∧ b < w.heap.size ∧ ∀ j, j < ss.length → w.cell? ⟨b, off + j, none⟩ = some (.string (ss[j]?.getD ByteArray.empty)) := by
  obtain ⟨b, off, spot⟩ := a
  have hspot : spot = none := by simpa [Addr.add] using World.cell?_spot (h 0 hp)
  subst hspot
  have hc : ∀ j, j < ss.length → w.cell? ⟨b, off + j, none⟩ = some (.string (ss[j]?.getD ByteArray.empty)) := fun j hj => by
    rw [← Go.WideShapes.add_plain]; simpa using h j hj
  exact ⟨b, off, rfl, World.block_lt_of_cell? _ _ (hc 0 hp), hc⟩

/-- THE SHAPE THAT THE WALKS TAKE: the first 'len' cells; an address only where there is one to read. -/
theorem IsStrs.rows {w : World} {a : Option Addr} {len cap : Nat} {ss : List ByteArray} (h : IsStrs w a len cap ss) :
    len ≤ maxLen ∧ (len = 0 ∨ ∃ b off, a = some ⟨b, off, none⟩ ∧ b < w.heap.size ∧ len ≤ ss.length ∧ (∀ j, j < len → w.cell? ⟨b, off + j, none⟩ = some (.string (ss[j]?.getD ByteArray.empty)))) ∧ ∀ s ∈ ss, s.size ≤ maxLen := by
  rcases h with ⟨rfl, rfl, rfl, rfl⟩ | ⟨x, rfl, hl, hm, hz, hc, hs⟩
  · exact ⟨by simp, .inl rfl, by simp⟩
  · refine ⟨Nat.le_trans hl hm, ?_, hs⟩
    by_cases h0 : len = 0
    · exact .inl h0
    · obtain ⟨b, off, rfl, hb, hcc⟩ := strs_at hc (by omega)
      exact .inr ⟨b, off, rfl, hb, by omega, fun j hj => hcc j (by omega)⟩

end Go.Proofs.Ybulkckse
