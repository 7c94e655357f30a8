/-
  A law for 'for v := range seq { .. }' where the iterator keeps state of its own in cells that lay ahead of the call (captured variables), and the loop's body never leaves early.
  It is drawn out of the kit's base law 'wpIn_rangeFunc'; the book-keeping goes as in the kit's own laws of the family.
-/
import Derived.RangeFuncNested
import Derived.RangeFuncBound
import Derived.RangeFuncCalls
import Derived.RangeFuncLeaves
namespace Go.Proofs.Ybulkckse
open Go Go.RowKit

/-- WHAT THE ITERATOR OWES: for whatever invariant J of the loop's that a store into a cell below n₀ does not touch. -/
def SeqState {α : Type} (F : Fence) (n : Nat) (P : Program) (gf : Nat) (lb : Array Value) (encs : α → Array Value) (n₀ : Nat) (S : List α → World → Prop) (N : Nat) (w : World) : Prop :=
  ∀ (l : Nat) (J : List α → World → Prop) (W : World), Below n₀ w W →
    (∀ s (W1 : World) b v, b < n₀ → J s W1 → J s (W1.setCell ⟨b, 0, none⟩ v)) →
    (∀ pre x W1, J pre W1 → pre.length < N → YieldAt F (n - 1) P l (encs x) W1 fun e W' => e = .returned (.bool true) ∧ J (pre ++ [x]) W' ∧ Below n₀ W1 W') →
    J [] W →
    CallsIn F n P gf (#[.func (.yield l) #[] #[]] ++ lb) W fun e W' => (∃ v, e = .returned v) ∧ ∃ xs, S xs W' ∧ J xs W'

theorem wpIn_rangeFunc_state {F : Fence} {n : Nat} {P : Program} {α : Type} {g : Operand} {ps : Array Tmp} {assign body : Code} {Q : Exit → Act → World → Prop} {a : Act} {w : World}
    (hro : F.round = none) (h1 : 1 ≤ n) {gf : Nat} {lb : Array Value} (hg : a.eval g = .func (.func gf) #[] lb) (hFg : F.fn gf) (eg : ∀ args w, (callFunc gf args).run P w = .ok (.enter gf args) w)
    {encs : α → Array Value} {n₀ : Nat} (hn₀ : n₀ ≤ w.heap.size) {S : List α → World → Prop} {N : Nat} {w0 : World} (hb0 : Below n₀ w0 w) (hseq : SeqState F (n - 1) P gf lb encs n₀ S N w0)
    (hS : ∀ xs (W : World) (l : Nat) (o o' : Obj), w.heap.size ≤ l → W.heap[l]? = some o → S xs W → S xs (W.putObj l o')) (hps : ∀ x, (encs x).size = ps.size)
    (I : List α → World → Prop) (hI : OwnFrom w.heap.size I) (hIs : ∀ s (W : World) b v, b < n₀ → I s W → I s (W.setCell ⟨b, 0, none⟩ v)) (h0 : I [] w) (a₁ : α → Act)
    (hassign : ∀ (l : Nat) (x : α) (W : World) (K : Act → World → Prop), K (a₁ x) W →
      assign.wpIn (F.inRound l) (n - 1 - 1) P (Exit.then K (fun _ _ _ => False)) { tmps := (ps.zip (encs x)).foldl (fun t (p, v) => t.setIfInBounds p v) a.tmps, defers := [] } W)
    (hbody : ∀ (l : Nat) (pre : List α) (x : α) (W : World), I pre W → pre.length < N → body.wpIn (F.inRound l) (n - 1 - 1) P (ownPostG w.heap.size (Below n₀) I (fun _ _ _ => False) (pre ++ [x]) W) (a₁ x) W)
    (hdone : ∀ (D : Nat) (xs : List α) (W : World), w.heap.size ≤ D → S xs W → I xs W → W.heap[D]? = some (.deferred (some [])) → Q .normal { a with defers := { target := .collected D, args := #[] } :: a.defers } W) :
    (Code.rangeFunc g ps assign body).wpIn F n P Q a w := by
  refine wpIn_rangeFunc ?_
  intro fn hfn
  rw [hro]
  obtain ⟨rc, hrc⟩ : ∃ rc : LoopState → Option Code → Loop, rc = fun st pe => { state := st, pending := pe, fn, tmps := a.tmps, params := ps, assign, body, defers := w.heap.size } := ⟨_, rfl⟩
  obtain ⟨W1, hW1⟩ : ∃ W1, (w.alloc (.deferred (some []))).alloc (.loop (rc .ready none)) = W1 := ⟨_, rfl⟩
  have hL1 : W1.heap[w.heap.size + 1]? = some (.loop (rc .ready none)) := by
    rw [← hW1]; have := World.alloc_heap_new (w.alloc (.deferred (some []))) (.loop (rc .ready none)); rwa [World.size_alloc] at this
  have hK1 : W1.heap[w.heap.size]? = some (.deferred (some [])) := by
    rw [← hW1]; exact (Below.heap_alloc _ _ _ (by simp)).trans (World.alloc_heap_new w _)
  have hI1 : I [] W1 := by rw [← hW1]; exact hI.alloc _ (hI.alloc _ h0)
  have hb1 : Below n₀ w0 W1 := by
    rw [← hW1]; exact hb0.trans (((Below.refl _ w).alloc hn₀ _).alloc (by simp; omega) _)
  refine ⟨w.heap.size + 1, [{ target := .collected w.heap.size, args := #[] }], W1, { target := .fn (.func gf) lb, args := #[.func (.yield (w.heap.size + 1)) #[] #[]] }, W1, gf,
    #[.func (.yield (w.heap.size + 1)) #[] #[]] ++ lb, W1, ?_, ?_, ?_, ?_, fun _ => h1, ?_⟩
  · rw [← hW1, hrc]; exact run_enterLoop_outer _ _ _ _ _
  · simp only [resolve, hg]
    simp [go_sem]
  · intro f' hf'; simp [Target.leads] at hf'; subst hf'; exact hFg
  · simp [invoke, go_sem, eg]
  · refine (hseq (w.heap.size + 1)
      (fun pre W => I pre W ∧ W.heap[w.heap.size + 1]? = some (.loop (rc .ready none)) ∧ W.heap[w.heap.size]? = some (.deferred (some [])))
      W1 hb1
      (fun s W2 b v hb hs => ⟨hIs s W2 b v hb hs.1, (Below.heap_setCell _ _ _ _ (by simp; omega)).trans hs.2.1, (Below.heap_setCell _ _ _ _ (by simp; omega)).trans hs.2.2⟩)
      ?_ ⟨hI1, hL1, hK1⟩).mono ?_
    · rintro pre x W ⟨hi, hl, hk⟩ hlen
      have hlt : w.heap.size + 1 < W.heap.size := (Array.getElem?_eq_some_iff.1 hl).1
      have hy := run_yield (P := P) (args := encs x) hl (by rw [hrc]; exact hps x)
      rw [hrc] at hy
      refine ⟨fn, _, assign, body, hy, roundIn_of_wpIn hfn (hassign _ x W _ ⟨_, run_beginRound hl (by rw [hrc]), ?_⟩)⟩
      have hl2 : (W.putObj (w.heap.size + 1) (.loop { rc .ready none with state := .busy })).heap[w.heap.size + 1]? = some (.loop { rc .ready none with state := .busy }) := World.putObj_heap_same hlt
      have hk2 : (W.putObj (w.heap.size + 1) (.loop { rc .ready none with state := .busy })).heap[w.heap.size]? = some (.deferred (some [])) := (World.putObj_heap_other (by omega)).trans hk
      have hw2 : Below n₀ W (W.putObj (w.heap.size + 1) (.loop { rc .ready none with state := .busy })) := belowK_b hn₀ _ _ _ _ (by omega) hl rfl rfl
      refine wpIn_mono (hbody _ pre x _ (hI.putObj _ hi (by omega) hl rfl) hlen) ?_
      rintro e a3 W3 hp
      cases e with
      | normal =>
        obtain ⟨hk3, hkp3, hi3⟩ := hp
        have hl3 := hk3.same _ _ (by omega) hl2 rfl
        have hend := run_endRound (P := P) none hl3
        rw [hrc] at hend hl3
        exact ⟨_, _, hend, rfl, ⟨hI.putObj _ hi3 (by omega) hl3 rfl, by rw [hrc]; exact World.putObj_heap_same (Array.getElem?_eq_some_iff.1 hl3).1, (World.putObj_heap_other (by omega)).trans (hk3.same _ _ (Nat.le_refl _) hk2 rfl)⟩, (hw2.trans hkp3).trans (belowK_b hn₀ _ _ _ _ (by omega) hl3 rfl rfl)⟩
      | ret => exact hp.2.elim
      | exit id => exact hp.2.elim
      | goto t => exact hp.2.elim
      | panic ch => exact hp.elim
      | outgrown => exact hp.elim
    · rintro e W2 ⟨⟨v, rfl⟩, ⟨xs, hSx, hi, hl, hk⟩⟩
      exact ⟨none, _, by have := run_endLoop (P := P) hl (by rw [hrc]; simp); rw [hrc] at this; exact this, hdone _ xs _ (Nat.le_refl _) (hS _ _ _ _ _ (by omega) hl hSx) (hI.putObj _ hi (by omega) hl rfl) ((World.putObj_heap_other (by omega)).trans hk)⟩

end Go.Proofs.Ybulkckse
