/- A region of seven operations whose order is open: one step an operation, not one an order. -/
import Derived.Test.YbulkckseFmtFilt
namespace Go.Proofs.YbulkckseFmt
open Go

theorem wpAnyIn_inv {F : Fence} {n : Nat} {P : Program} {md : Region.Mode} {ops : Array Oper} {Q : Exit → Act → World → Prop} (St : Array Bool → Act → World → Prop) (m : Array Bool → Nat)
    (hm : ∀ f a w, St f a w → ∀ i ∈ Region.ready md ops f, m (f.setIfInBounds i true) < m f)
    (hstep : ∀ f a w, St f a w → ∀ i ∈ Region.ready md ops f, ∀ K : Act → World → Prop, (∀ a' w', St (f.setIfInBounds i true) a' w' → K a' w') → wpOpIn F n P ops Q i K a w)
    (hdone : ∀ f a w, St f a w → Region.ready md ops f = [] → Q .normal a w) :
    ∀ fuel f a w, m f ≤ fuel → St f a w → wpAnyIn F n P md ops Q fuel f a w := by
  intro fuel
  induction fuel with
  | zero =>
    intro f a w h0 hs
    have hr : Region.ready md ops f = [] := by
      cases hr : Region.ready md ops f with
      | nil => rfl
      | cons x xs =>
        have := hm f a w hs x (by rw [hr]; simp)
        omega
    exact ⟨hr, hdone f a w hs hr⟩
  | succ fuel ih =>
    intro f a w h0 hs
    refine ⟨hdone f a w hs, fun i hi => hstep f a w hs i hi _ fun a' w' h' => ih _ _ _ ?_ h'⟩
    have := hm f a w hs i hi
    omega

def okR (f : Array Bool) (i : Nat) : Bool :=
  match i with
  | 0 => !f.getD 0 true
  | 1 => !f.getD 1 true
  | 2 => !f.getD 2 true
  | 3 => !f.getD 3 true
  | 4 => !f.getD 4 true
  | 5 => !f.getD 5 true && f.getD 2 false && f.getD 3 false && f.getD 4 false
  | 6 => !f.getD 6 true && f.getD 0 false && f.getD 1 false && f.getD 5 false
  | _ => false
def falses (f : Array Bool) : Nat := (f.toList.filter (!·)).length
def okAll (md : Region.Mode) (ops : Array Oper) (b : Bool) : Bool :=
  [false, true].all fun b0 => [false, true].all fun b1 => [false, true].all fun b2 => [false, true].all fun b3 => [false, true].all fun b4 => [false, true].all fun b5 => [false, true].all fun b6 =>
    ((Region.ready md ops #[b0, b1, b2, b3, b4, b5, b6]).all fun i => okR #[b0, b1, b2, b3, b4, b5, b6] i && decide (falses (#[b0, b1, b2, b3, b4, b5, b6].setIfInBounds i true) < falses #[b0, b1, b2, b3, b4, b5, b6])) && (!(Region.ready md ops #[b0, b1, b2, b3, b4, b5, b6]).isEmpty || b6 == b)

theorem okAll_at {md : Region.Mode} {ops : Array Oper} (h : okAll md ops true = true) (b0 b1 b2 b3 b4 b5 b6 : Bool) :
    (∀ i ∈ Region.ready md ops #[b0, b1, b2, b3, b4, b5, b6], okR #[b0, b1, b2, b3, b4, b5, b6] i = true ∧ falses (#[b0, b1, b2, b3, b4, b5, b6].setIfInBounds i true) < falses #[b0, b1, b2, b3, b4, b5, b6]) ∧ (Region.ready md ops #[b0, b1, b2, b3, b4, b5, b6] = [] → b6 = true) := by
  have e : ∀ b : Bool, b ∈ [false, true] := by decide
  simp only [okAll, List.all_eq_true] at h
  have h := h b0 (e b0) b1 (e b1) b2 (e b2) b3 (e b3) b4 (e b4) b5 (e b5) b6 (e b6)
  simp only [Bool.and_eq_true, List.all_eq_true, decide_eq_true_eq, Bool.or_eq_true, Bool.not_eq_true', beq_iff_eq] at h
  refine ⟨h.1, fun hr => ?_⟩
  rcases h.2 with h2 | h2
  · rw [hr] at h2; simp at h2
  · exact h2
end Go.Proofs.YbulkckseFmt
