import Derived.Test.YbulkckseFmtSrc
namespace Go.Proofs.YbulkckseFmt
open Go Go.RowKit Go.Maps Go.Stop

/-- The numbers and the data of one run of the stream. -/
structure Env where
  n : Nat
  R : Nat → RC
  L : List ByteArray
  lim : Nat
  V : Nat → Option Addr × Option Addr × Nat × Nat
  ra : Option Addr
  rcap : Nat
  bRecs : Nat
  bErr : Nat
  bB : Nat
  bb : Nat
  aS : Addr
  aE : Addr
  sE : ByteArray
  bP : Nat
  bS : Nat
  bL : Nat
  bR : Nat
  bE : Nat
  bM : Nat
  mapn : Nat
  bN : Nat
  bW : Nat
  bm : Nat
  bq : Nat
  bf : Nat
  bs : Nat
  bk : Nat
  w : World

namespace Env
variable (E : Env)
/-- The heap's size where FilterErr$1 comes to its loop. -/
def H : Nat := E.w.heap.size
def base : Nat := E.w.heap.size + 7
def five (b : Nat) : Prop := b = E.bP ∨ b = E.bS ∨ b = E.bL ∨ b = E.bR ∨ b = E.bE
def caps9 : Array Value := #[.pointer (some ⟨E.bS, 0, none⟩), .pointer (some ⟨E.bL, 0, none⟩), .pointer (some ⟨E.bR, 0, none⟩), .pointer (some ⟨E.bE, 0, none⟩), .pointer (some ⟨E.bM, 0, none⟩)]
def vOf (j : Nat) : ByteArray := if (E.R j).has then bvalS (E.R j).val else ⟨#[]⟩
def kept (j : Nat) : Bool := inL E.L (E.vOf j)
def keptTo (i : Nat) : List Nat := (List.range i).filter E.kept
def cellsOf (j : Nat) : List Value := cells5 ((j : Int) + 1) ((j : Int) + 2) ⟨#[116]⟩ (E.V j).1 (.slice (E.V j).2.1 (E.V j).2.2.1 (E.V j).2.2.2)
def rs (i : Nat) : List Value := (E.keptTo i).flatMap E.cellsOf
def es (i : Nat) : List Value := (E.keptTo i).map fun _ => Value.nilIface
def k (i : Nat) : Nat := (E.keptTo i).length
/-- The first i items have gone by, and the stream goes on. -/
def Run (i : Nat) : Prop := (∀ j, j < i → (E.R j).fail = false ∧ (E.R j).has = true) ∧ (E.lim = 0 ∨ E.k i < E.lim)
end Env

theorem Env.keptTo_succ (E : Env) (i : Nat) : E.keptTo (i + 1) = E.keptTo i ++ (if E.kept i then [i] else []) := by
  simp only [Env.keptTo, List.range_succ, List.filter_append]
  congr 1
  simp only [List.filter_cons, List.filter_nil]
theorem Env.k_le (E : Env) (i : Nat) : E.k i ≤ i := by
  have := List.length_filter_le E.kept (List.range i)
  rw [List.length_range] at this
  exact this
theorem Env.k_yes (E : Env) {i : Nat} (h : E.kept i = true) : E.k (i + 1) = E.k i + 1 := by simp [Env.k, E.keptTo_succ, h]
theorem Env.k_no (E : Env) {i : Nat} (h : E.kept i = false) : E.k (i + 1) = E.k i := by simp [Env.k, E.keptTo_succ, h]
theorem Env.rs_yes (E : Env) {i : Nat} (h : E.kept i = true) : E.rs (i + 1) = E.rs i ++ E.cellsOf i := by simp [Env.rs, E.keptTo_succ, h]
theorem Env.rs_no (E : Env) {i : Nat} (h : E.kept i = false) : E.rs (i + 1) = E.rs i := by simp [Env.rs, E.keptTo_succ, h]
theorem Env.es_yes (E : Env) {i : Nat} (h : E.kept i = true) : E.es (i + 1) = E.es i ++ [.nilIface] := by simp [Env.es, E.keptTo_succ, h]
theorem Env.es_no (E : Env) {i : Nat} (h : E.kept i = false) : E.es (i + 1) = E.es i := by simp [Env.es, E.keptTo_succ, h]
theorem Env.Run.succ {E : Env} {i : Nat} (h : E.Run i) (hf : (E.R i).fail = false) (hh : (E.R i).has = true) (hl : E.lim = 0 ∨ E.k (i + 1) < E.lim) : E.Run (i + 1) :=
  ⟨fun j hj => by
    by_cases e : j = i
    · subst e; exact ⟨hf, hh⟩
    · exact h.1 j (by omega), hl⟩

/-- What stands fast. -/
structure Env.Good (E : Env) (F : Interp) : Prop where
  max : E.n ≤ 1024
  lim8 : E.lim < 8
  stat : Stat E.n E.R E.ra E.rcap E.bRecs E.bErr E.bB E.bb E.aS E.V E.w
  rest : Rest E.mapn E.L (.func 6) (srcCaps E.bRecs E.bP E.bErr E.bB) E.bN E.bW E.bm E.bq E.bf E.bs E.bk E.w
  M : Boxed E.w E.bM 3 (.int .i64 (E.lim : Nat))
  Y : Boxed E.w (E.w.heap.size - 1) 35 (.func (.func 9) #[] E.caps9)
  glob : E.w.cell? ⟨0, 0, none⟩ = some (.iface 49 (.pointer (some E.aE)))
  globS : E.w.cell? E.aE = some (.string E.sE)
  ans : F.answers E.w.tape
  vlen : ∀ j, (E.vOf j).size ≤ maxLen
  look : ∀ j, j < E.n → ∀ W, Only E.five E.w W → Calls Ybaf.prog 16 #[recOf E.V j, .string sK] W fun e W2 => e = .returned (.tuple #[.string (E.vOf j), .bool (E.R j).has]) ∧ Below W.heap.size W W2
  lt : ∀ b, E.five b → b < E.w.heap.size
  sl : E.bS ≠ E.bL
  pnot : E.bP ≠ E.bS ∧ E.bP ≠ E.bL ∧ E.bP ≠ E.bR ∧ E.bP ≠ E.bE
  rowN : ∀ br off, 0 < E.n → E.ra = some ⟨br, off, none⟩ → ¬ E.five br
  nots : ¬ E.five E.bRecs ∧ ¬ E.five E.bErr ∧ ¬ E.five E.bB ∧ ¬ E.five E.bb ∧ ¬ E.five E.bM ∧ ¬ E.five E.bN ∧ ¬ E.five E.bW ∧ ¬ E.five E.bm ∧ ¬ E.five E.bq ∧ ¬ E.five E.bf ∧ ¬ E.five E.bs ∧ ¬ E.five E.bk ∧ ¬ E.five (E.w.heap.size - 1) ∧ ¬ E.five 0 ∧ ¬ E.five E.aE.block

theorem Only.map {H : Type} {P : Program} {k : TypeId} {R : Value → Option (DataW H × List MemPlace)} {S : Nat → Prop} {W W' : World} {b n : Nat} {D : DataW H} (h : W.ownsMap P k R b n D) (ho : Only S W W') (hs : ¬ S b) : W'.ownsMap P k R b n D := by
  obtain ⟨es, clock, h1, F, hs', hD⟩ := h
  exact ⟨es, clock, ho.at h1 hs, F, hs', hD⟩

theorem Env.Good.stat' {E : Env} {F : Interp} (g : E.Good F) {W : World} (h : Only E.five E.w W) : Stat E.n E.R E.ra E.rcap E.bRecs E.bErr E.bB E.bb E.aS E.V W := by
  obtain ⟨n1, n2, n3, n4, _⟩ := g.nots
  refine ⟨h.at g.stat.recs n1, fun j hj => ?_, h.at g.stat.err n2, h.at g.stat.built n3, fun j hj => ?_⟩
  · obtain ⟨br, off, e, c0, c1, c2, c3⟩ := g.stat.row j hj
    have hn := g.rowN br off (by omega) e
    exact ⟨br, off, e, h.cell c0 hn, h.cell c1 hn, h.cell c2 hn, h.cell c3 hn⟩
  · obtain ⟨c0, c1, c2, c3, c4⟩ := g.stat.brow j hj
    exact ⟨h.cell c0 n4, h.cell c1 n4, h.cell c2 n4, h.cell c3 n4, h.cell c4 n4⟩
theorem Env.Good.rest' {E : Env} {F : Interp} (g : E.Good F) {W : World} (h : Only E.five E.w W) : Rest E.mapn E.L (.func 6) (srcCaps E.bRecs E.bP E.bErr E.bB) E.bN E.bW E.bm E.bq E.bf E.bs E.bk W := by
  obtain ⟨_, _, _, _, _, n1, n2, n3, n4, n5, n6, n7, _⟩ := g.nots
  exact ⟨h.at g.rest.N n1, h.at g.rest.M n2, h.map g.rest.own n3, h.at g.rest.q n4, h.at g.rest.f n5, h.at g.rest.s n6, h.at g.rest.k n7⟩
theorem Env.Good.M' {E : Env} {F : Interp} (g : E.Good F) {W : World} (h : Only E.five E.w W) : Boxed W E.bM 3 (.int .i64 (E.lim : Nat)) := h.at g.M g.nots.2.2.2.2.1
theorem Env.Good.Y' {E : Env} {F : Interp} (g : E.Good F) {W : World} (h : Only E.five E.w W) : Boxed W (E.w.heap.size - 1) 35 (.func (.func 9) #[] E.caps9) := h.at g.Y g.nots.2.2.2.2.2.2.2.2.2.2.2.2.1
theorem Env.Good.glob' {E : Env} {F : Interp} (g : E.Good F) {W : World} (h : Only E.five E.w W) : W.cell? ⟨0, 0, none⟩ = some (.iface 49 (.pointer (some E.aE))) := h.cell g.glob g.nots.2.2.2.2.2.2.2.2.2.2.2.2.2.1
theorem Env.Good.globS' {E : Env} {F : Interp} (g : E.Good F) {W : World} (h : Only E.five E.w W) : W.cell? E.aE = some (.string E.sE) := h.cell g.globS g.nots.2.2.2.2.2.2.2.2.2.2.2.2.2.2

/-- The state: p pulled, what the first i items gave. -/
structure Core (E : Env) (p i : Nat) (W : World) : Prop where
  only : Only E.five E.w W
  P : Boxed W E.bP 3 (.int .i64 (p : Nat))
  got : Got E.base E.bS E.bL E.bR E.bE (E.rs i) (E.es i) (E.k i) false W

theorem Only.putObj {S : Nat → Prop} {a w : World} (h : Only S a w) {l : Nat} (hl : l < a.heap.size → S l) (o : Obj) : Only S a (w.putObj l o) :=
  ⟨h.os, h.tape, h.output, by rw [World.putObj_size]; exact h.size, fun i hi hs => (World.putObj_heap_other (fun e => by subst e; exact hs (hl hi))).trans (h.block i hi hs)⟩

/-- A step that turns nothing but blocks between the static ones and the base. -/
theorem Core.step {E : Env} {F : Interp} (g : E.Good F) {p i : Nat} {S : Nat → Prop} {W W' : World} (h : Core E p i W) (ho : Only S W W') (hS : ∀ b, S b → E.w.heap.size ≤ b ∧ b < E.base) : Core E p i W' := by
  have nf : ∀ b, E.five b → ¬ S b := fun b hb hs => by have := g.lt b hb; have := (hS b hs).1; omega
  refine ⟨h.only.andThen ho (fun b hb hs => by have := (hS b hs).1; omega), ho.at h.P (nf _ (.inl rfl)), h.got.only ho (nf _ (.inr (.inl rfl))) (nf _ (.inr (.inr (.inl rfl)))) (nf _ (.inr (.inr (.inr (.inl rfl))))) (nf _ (.inr (.inr (.inr (.inr rfl))))) (fun b hb hs => ?_)⟩
  have := hb.1
  have := (hS b hs).2
  omega
theorem Core.below {E : Env} {F : Interp} (g : E.Good F) {p i : Nat} {W W' : World} (h : Core E p i W) (ho : Below W.heap.size W W') : Core E p i W' := h.step g (Only.of_below ho (fun _ => False)) (fun _ hf => hf.elim)
theorem Core.put {E : Env} {F : Interp} (g : E.Good F) {p i l : Nat} {W : World} (h : Core E p i W) (h1 : E.w.heap.size ≤ l) (h2 : l < E.base) (o : Obj) : Core E p i (W.putObj l o) :=
  h.step g (S := fun b => b = l) (Only.putObj (S := fun b => b = l) (Only.refl _ W) (fun _ => rfl) o) (fun b hb => by subst hb; exact ⟨h1, h2⟩)

/-- How the stream may have been left. -/
structure Fin (E : Env) (W : World) : Prop where
  only : Only E.five E.w W
  out : ∃ i, i < E.n ∧ E.Run i ∧ Boxed W E.bP 3 (.int .i64 ((i : Int) + 1)) ∧
    (((E.R i).fail = true ∧ Got E.base E.bS E.bL E.bR E.bE (E.rs i ++ cells5 0 0 ⟨#[]⟩ none (.slice none 0 0)) (E.es i ++ [.iface 49 (.pointer (some E.aS))]) (E.k i + 1) true W) ∨
     ((E.R i).fail = false ∧ (E.R i).has = false ∧ ∃ b c t, Got E.base E.bS E.bL E.bR E.bE (E.rs i ++ cells5 0 0 ⟨#[]⟩ none (.slice none 0 0)) (E.es i ++ [.iface 41 (.pointer (some ⟨b, 0, none⟩))]) (E.k i + 1) true W ∧ E.base ≤ b ∧ E.base ≤ c ∧
        W.heap[b]? = some (.cells #[.int .i64 ((i : Int) + 1), .int .i64 ((i : Int) + 2), .iface 76 (.pointer (some ⟨c, 0, none⟩))] 44 (0, 0)) ∧ W.heap[c]? = some (.cells #[.string t, .iface 49 (.pointer (some E.aE))] 117 (0, 0))) ∨
     ((E.R i).fail = false ∧ (E.R i).has = true ∧ E.kept i = true ∧ 0 < E.lim ∧ E.k i + 1 = E.lim ∧ Got E.base E.bS E.bL E.bR E.bE (E.rs (i + 1)) (E.es (i + 1)) (E.k i + 1) true W))

theorem Fin.put {E : Env} {F : Interp} (g : E.Good F) {l : Nat} {W : World} (h : Fin E W) (h1 : E.w.heap.size ≤ l) (h2 : l < E.base) (o : Obj) : Fin E (W.putObj l o) := by
  have ho : Only (fun b => b = l) W (W.putObj l o) := Only.putObj (S := fun b => b = l) (Only.refl _ W) (fun _ => rfl) o
  have nf : ∀ b, E.five b → ¬ b = l := fun b hb hs => by have := g.lt b hb; omega
  have kg : ∀ {rs es : List Value} {k : Nat}, Got E.base E.bS E.bL E.bR E.bE rs es k true W → Got E.base E.bS E.bL E.bR E.bE rs es k true (W.putObj l o) := fun hg =>
    hg.only ho (nf _ (.inr (.inl rfl))) (nf _ (.inr (.inr (.inl rfl)))) (nf _ (.inr (.inr (.inr (.inl rfl))))) (nf _ (.inr (.inr (.inr (.inr rfl))))) (fun b hb hs => by have := hb.1; omega)
  obtain ⟨i, hi, hr, hp, hc⟩ := h.out
  refine ⟨h.only.andThen ho (fun b hb hs => by omega), i, hi, hr, ho.at hp (nf _ (.inl rfl)), ?_⟩
  rcases hc with ⟨h1, h2⟩ | ⟨h1, h2, b, c, t, h3, h4, h5, h6, h7⟩ | ⟨h1, h2, h3, h4, h5, h6⟩
  · exact .inl ⟨h1, kg h2⟩
  · exact .inr (.inl ⟨h1, h2, b, c, t, kg h3, h4, h5, ho.at h6 (by omega), ho.at h7 (by omega)⟩)
  · exact .inr (.inr ⟨h1, h2, h3, h4, h5, kg h6⟩)
end Go.Proofs.YbulkckseFmt
