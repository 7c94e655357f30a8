/-
  A law for 'for .. := range seq { .. }' whose iterator may write whatever it likes but for the loop's own two blocks, and whose body may leave by 'return'. Predicates on worlds are the caller's; nothing is asked of them but that the loop's record may turn.
  It is drawn out of the kit's base law 'wpIn_rangeFunc'.
-/
import Derived.RangeFuncNested
import Derived.RangeFuncBound
import Derived.RangeFuncCalls
import Derived.RangeFuncLeaves
namespace Go.Proofs.YbulkckseFmt
open Go Go.RowKit

/-- WHAT THE ITERATOR OWES. A0: at its start; A i: where it yields for the i-th time; A' i: behind that, where yield said true; X i: where yield said false; E: at its end. Ry, Rn: what it is not to look into (the loop's record: ready; done). -/
def SeqFree {I : Type} (F : Fence) (n : Nat) (P : Program) (gf : Nat) (lb : Array Value) (l D : Nat) (args : I → Array Value) (A0 : World → Prop) (A A' X : I → World → Prop) (E : World → Prop) : Prop :=
  ∀ (Ry Rn : World → Prop),
    (∀ W W', W'.heap[l]? = W.heap[l]? → W'.heap[D]? = W.heap[D]? → Ry W → Ry W') →
    (∀ W W', W'.heap[l]? = W.heap[l]? → W'.heap[D]? = W.heap[D]? → Rn W → Rn W') →
    (∀ i W, A i W → Ry W → YieldAt F (n - 1) P l (args i) W fun e W' => (e = .returned (.bool true) ∧ A' i W' ∧ Ry W') ∨ (e = .returned (.bool false) ∧ X i W' ∧ Rn W')) →
    ∀ W, A0 W → Ry W → CallsIn F n P gf (#[.func (.yield l) #[] #[]] ++ lb) W fun e W' => (∃ v, e = .returned v) ∧ ((E W' ∧ Ry W') ∨ ∃ i, X i W' ∧ Rn W')

/-- How a round may end. -/
def freePost (l D : Nat) (A' X : World → Prop) (W : World) : Exit → Act → World → Prop
  | .normal, _, W' => (W'.heap[l]? = W.heap[l]? ∧ W'.heap[D]? = W.heap[D]?) ∧ A' W'
  | .ret, _, W' => (W'.heap[l]? = W.heap[l]? ∧ W'.heap[D]? = W.heap[D]?) ∧ X W'
  | _, _, _ => False

theorem wpIn_rangeFunc_free {I : Type} {F : Fence} {n : Nat} {P : Program} {g : Operand} {ps : Array Tmp} {assign body : Code} {Q : Exit → Act → World → Prop} {a : Act} {w : World}
    (hro : F.round = none) (h1 : 1 ≤ n) {gf : Nat} {lb : Array Value} (hg : a.eval g = .func (.func gf) #[] lb) (hFg : F.fn gf) (eg : ∀ args w, (callFunc gf args).run P w = .ok (.enter gf args) w)
    {args : I → Array Value} (hps : ∀ i, (args i).size = ps.size) {A0 : World → Prop} {A A' X : I → World → Prop} {E : World → Prop}
    (hseq : SeqFree F (n - 1) P gf lb (w.heap.size + 1) w.heap.size args A0 A A' X E)
    (h0 : ∀ o, A0 ((w.alloc (.deferred (some []))).alloc o))
    (hA' : ∀ i W o, A' i W → A' i (W.putObj (w.heap.size + 1) o)) (hX : ∀ i W o, X i W → X i (W.putObj (w.heap.size + 1) o)) (hE : ∀ W o, E W → E (W.putObj (w.heap.size + 1) o))
    (hround : ∀ i W, A i W → assign.wpIn (F.inRound (w.heap.size + 1)) (n - 1 - 1) P
      (Exit.then (fun a₁ W₁ => (W₁.heap[w.heap.size + 1]? = W.heap[w.heap.size + 1]? ∧ W₁.heap[w.heap.size]? = W.heap[w.heap.size]?) ∧
        ∀ o, body.wpIn (F.inRound (w.heap.size + 1)) (n - 1 - 1) P (freePost (w.heap.size + 1) w.heap.size (A' i) (X i) (W₁.putObj (w.heap.size + 1) o)) a₁ (W₁.putObj (w.heap.size + 1) o)) (fun _ _ _ => False))
      { tmps := (ps.zip (args i)).foldl (fun t (p, v) => t.setIfInBounds p v) a.tmps, defers := [] } W)
    (hdone : ∀ W, E W → W.heap[w.heap.size]? = some (.deferred (some [])) → Q .normal { a with defers := { target := .collected w.heap.size, args := #[] } :: a.defers } W)
    (hleft : ∀ i W, X i W → W.heap[w.heap.size]? = some (.deferred (some [])) → Q .ret { a with defers := { target := .collected w.heap.size, args := #[] } :: a.defers } W) :
    (Code.rangeFunc g ps assign body).wpIn F n P Q a w := by
  refine wpIn_rangeFunc ?_
  intro fn hfn
  rw [hro]
  obtain ⟨rc, hrc⟩ : ∃ rc : LoopState → Option Code → Loop, rc = fun st pe => { state := st, pending := pe, fn, tmps := a.tmps, params := ps, assign, body, defers := w.heap.size } := ⟨_, rfl⟩
  obtain ⟨W1, hW1⟩ : ∃ W1, (w.alloc (.deferred (some []))).alloc (.loop (rc .ready none)) = W1 := ⟨_, rfl⟩
  have hL1 : W1.heap[w.heap.size + 1]? = some (.loop (rc .ready none)) := by
    rw [← hW1]; have := World.alloc_heap_new (w.alloc (.deferred (some []))) (.loop (rc .ready none)); rwa [World.size_alloc] at this
  have hK1 : W1.heap[w.heap.size]? = some (.deferred (some [])) := by
    rw [← hW1]; exact (Below.heap_alloc _ _ _ (by simp)).trans (World.alloc_heap_new w _)
  have hA1 : A0 W1 := by rw [← hW1]; exact h0 _
  refine ⟨w.heap.size + 1, [{ target := .collected w.heap.size, args := #[] }], W1, { target := .fn (.func gf) lb, args := #[.func (.yield (w.heap.size + 1)) #[] #[]] }, W1, gf,
    #[.func (.yield (w.heap.size + 1)) #[] #[]] ++ lb, W1, ?_, ?_, ?_, ?_, fun _ => h1, ?_⟩
  · rw [← hW1, hrc]; exact run_enterLoop_outer _ _ _ _ _
  · simp only [resolve, hg]
    simp [go_sem]
  · intro f' hf'; simp [Target.leads] at hf'; subst hf'; exact hFg
  · simp [invoke, go_sem, eg]
  · refine (hseq (fun W => W.heap[w.heap.size + 1]? = some (.loop (rc .ready none)) ∧ W.heap[w.heap.size]? = some (.deferred (some [])))
      (fun W => W.heap[w.heap.size + 1]? = some (.loop (rc .done (some .ret))) ∧ W.heap[w.heap.size]? = some (.deferred (some [])))
      (fun W W' e1 e2 h => ⟨e1.trans h.1, e2.trans h.2⟩) (fun W W' e1 e2 h => ⟨e1.trans h.1, e2.trans h.2⟩) ?_ W1 hA1 ⟨hL1, hK1⟩).mono ?_
    · rintro i W hi ⟨hl, hk⟩
      have hlt : w.heap.size + 1 < W.heap.size := (Array.getElem?_eq_some_iff.1 hl).1
      have hy := run_yield (P := P) (args := args i) hl (by rw [hrc]; exact hps i)
      rw [hrc] at hy
      refine ⟨fn, _, assign, body, hy, roundIn_of_wpIn hfn ?_⟩
      refine wpIn_mono (hround i W hi) ?_
      rintro e a₁ W₁ hp
      cases e with
      | normal =>
        obtain ⟨⟨s1, s2⟩, hb⟩ := hp
        have hl1 := s1.trans hl
        have hk1 := s2.trans hk
        have hlt1 : w.heap.size + 1 < W₁.heap.size := (Array.getElem?_eq_some_iff.1 hl1).1
        refine ⟨_, run_beginRound hl1 (by rw [hrc]), ?_⟩
        have hl2 : (W₁.putObj (w.heap.size + 1) (.loop { rc .ready none with state := .busy })).heap[w.heap.size + 1]? = some (.loop { rc .ready none with state := .busy }) := World.putObj_heap_same hlt1
        have hk2 : (W₁.putObj (w.heap.size + 1) (.loop { rc .ready none with state := .busy })).heap[w.heap.size]? = some (.deferred (some [])) := (World.putObj_heap_other (by omega)).trans hk1
        refine wpIn_mono (hb _) ?_
        rintro e a3 W3 hp
        cases e with
        | normal =>
          obtain ⟨⟨t1, t2⟩, ha3⟩ := hp
          have hl3 := t1.trans hl2
          have hlt3 := (Array.getElem?_eq_some_iff.1 hl3).1
          have hend := run_endRound (P := P) none hl3
          rw [hrc] at hend hl3
          exact ⟨_, _, hend, .inl ⟨rfl, hA' i _ _ ha3, by rw [hrc]; exact World.putObj_heap_same hlt3, (World.putObj_heap_other (by omega)).trans (t2.trans hk2)⟩⟩
        | ret =>
          obtain ⟨⟨t1, t2⟩, ha3⟩ := hp
          have hl3 := t1.trans hl2
          have hlt3 := (Array.getElem?_eq_some_iff.1 hl3).1
          have hend := run_endRound (P := P) (some .ret) hl3
          rw [hrc] at hend hl3
          exact ⟨_, _, hend, .inr ⟨rfl, hX i _ _ ha3, by rw [hrc]; exact World.putObj_heap_same hlt3, (World.putObj_heap_other (by omega)).trans (t2.trans hk2)⟩⟩
        | exit id => exact hp.elim
        | goto t => exact hp.elim
        | panic ch => exact hp.elim
        | outgrown => exact hp.elim
      | ret => exact hp.elim
      | exit id => exact hp.elim
      | goto t => exact hp.elim
      | panic ch => exact hp.elim
      | outgrown => exact hp.elim
    · rintro e W2 ⟨⟨v, rfl⟩, ⟨hEx, hl, hk⟩ | ⟨i, hXx, hl, hk⟩⟩
      · exact ⟨none, _, by have := run_endLoop (P := P) hl (by rw [hrc]; simp); rw [hrc] at this; exact this, hdone _ (hE _ _ hEx) ((World.putObj_heap_other (by omega)).trans hk)⟩
      · refine ⟨some .ret, _, by have := run_endLoop (P := P) hl (by rw [hrc]; simp); rw [hrc] at this; exact this, ?_⟩
        exact wpIn_ret (hleft i _ (hX _ _ _ hXx) ((World.putObj_heap_other (by omega)).trans hk))
end Go.Proofs.YbulkckseFmt
