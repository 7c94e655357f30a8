/- What a step may turn; a doubly linked ring in memory (container/list), told by its blocks and its values. No Go text is walked here. -/
import Derived.RangeFuncBox
import Derived.Below
import Derived.Deep.OwnRows
import Derived.Maps.OwnSet
namespace Go.Proofs.Ybulkcktu
open Go Go.RowKit

/-! ### What a step may turn -/
/-- Nothing but blocks of S has turned (and new blocks have come). -/
structure Only (S : Nat → Prop) (w w' : World) : Prop where
  os : w'.os = w.os
  tape : w'.tape = w.tape
  output : w'.output = w.output
  size : w.heap.size ≤ w'.heap.size
  block : ∀ k, k < w.heap.size → ¬ S k → w'.heap[k]? = w.heap[k]?

theorem Only.refl (S : Nat → Prop) (w : World) : Only S w w := ⟨rfl, rfl, rfl, Nat.le_refl _, fun _ _ _ => rfl⟩
theorem Only.trans {S : Nat → Prop} {a b c : World} (h : Only S a b) (k : Only S b c) : Only S a c :=
  ⟨k.os.trans h.os, k.tape.trans h.tape, k.output.trans h.output, Nat.le_trans h.size k.size, fun i hi hs => (k.block i (Nat.lt_of_lt_of_le hi h.size) hs).trans (h.block i hi hs)⟩
theorem Only.andThen {S T : Nat → Prop} {a b c : World} (h : Only S a b) (k : Only T b c) (hst : ∀ i, i < a.heap.size → T i → S i) : Only S a c :=
  ⟨k.os.trans h.os, k.tape.trans h.tape, k.output.trans h.output, Nat.le_trans h.size k.size, fun i hi hs => (k.block i (Nat.lt_of_lt_of_le hi h.size) (fun ht => hs (hst i hi ht))).trans (h.block i hi hs)⟩
theorem Only.mono {S T : Nat → Prop} {a b : World} (h : Only S a b) (hst : ∀ k, k < a.heap.size → S k → T k) : Only T a b :=
  ⟨h.os, h.tape, h.output, h.size, fun i hi hs => h.block i hi (fun hS => hs (hst i hi hS))⟩
theorem Only.alloc {S : Nat → Prop} {a w : World} (h : Only S a w) (o : Obj) : Only S a (w.alloc o) :=
  ⟨h.os, h.tape, h.output, Nat.le_trans h.size (by simp), fun i hi hs => (Below.heap_alloc _ _ _ (Nat.lt_of_lt_of_le hi h.size)).trans (h.block i hi hs)⟩
theorem Only.setCell {S : Nat → Prop} {a w : World} (h : Only S a w) {p : Addr} (hp : p.block < a.heap.size → S p.block) (u : Value) : Only S a (w.setCell p u) :=
  ⟨h.os, h.tape, h.output, Nat.le_trans h.size (by simp [World.setCell]), fun i hi hs => (Below.heap_setCell _ _ _ _ (fun e => by subst e; exact hs (hp hi))).trans (h.block i hi hs)⟩
theorem Only.drew {S : Nat → Prop} {a w : World} (h : Only S a w) : Only S a w.drew := ⟨h.os, h.tape, h.output, h.size, h.block⟩
theorem Only.grown {S : Nat → Prop} {a w w' : World} {row : Option Nat} (h : Only S a w) (hg : w.grownBy w' row) (hr : ∀ k, row = some k → k < a.heap.size → S k) : Only S a w' :=
  ⟨hg.os.trans h.os, hg.tape.trans h.tape, hg.output.trans h.output, Nat.le_trans h.size hg.size, fun i hi hs => (hg.block i (Nat.lt_of_lt_of_le hi h.size) (fun e => hs (hr i e.symm hi))).trans (h.block i hi hs)⟩
theorem Only.below {S : Nat → Prop} {a w : World} (h : Only S a w) {n₀ : Nat} (hn : n₀ ≤ a.heap.size) (hS : ∀ k, k < a.heap.size → S k → n₀ ≤ k) : Below n₀ a w :=
  ⟨h.os, h.tape, h.output, h.size, fun k hk => h.block k (by omega) (fun hs => by have := hS k (by omega) hs; omega)⟩
theorem Only.of_below {a w : World} (h : Below a.heap.size a w) (S : Nat → Prop) : Only S a w := ⟨h.os, h.tape, h.output, h.size, fun k hk _ => h.block k hk⟩
/-- A block that is not of S lies as it lay. -/
theorem Only.at {S : Nat → Prop} {a w : World} (h : Only S a w) {k : Nat} {o : Obj} (hk : a.heap[k]? = some o) (hs : ¬ S k) : w.heap[k]? = some o :=
  (h.block k (Array.getElem?_eq_some_iff.1 hk).1 hs).trans hk

theorem heap_set {W : World} {b : Nat} {cs : Array Value} {t : TypeId} (h : W.heap[b]? = some (.cells cs t (0, 0))) (i : Nat) (v : Value) : (W.setCell ⟨b, i, none⟩ v).heap[b]? = some (.cells (cs.setIfInBounds i v) t (0, 0)) := by
  obtain ⟨hlt, hk⟩ := Array.getElem?_eq_some_iff.1 h
  show (W.heap.modify b _)[b]? = _
  rw [Array.getElem?_eq_getElem (by rw [Array.size_modify]; exact hlt), Array.getElem_modify_self, hk]
  rfl
theorem heap_set_other {W : World} {b c : Nat} {o : Obj} (h : W.heap[b]? = some o) (hne : b ≠ c) (i : Nat) (v : Value) : (W.setCell ⟨c, i, none⟩ v).heap[b]? = some o := (Below.heap_setCell _ _ _ _ hne).trans h
theorem frozen_of {W : World} {b : Nat} {cs : Array Value} {t : TypeId} (h : W.heap[b]? = some (.cells cs t (0, 0))) (i : Nat) : W.frozen? ⟨b, i, none⟩ = false := by simp [World.frozen?, h]
theorem cell_of {W : World} {b : Nat} {cs : Array Value} {t : TypeId} (h : W.heap[b]? = some (.cells cs t (0, 0))) {i : Nat} {v : Value} (hv : cs[i]? = some v) : W.cell? ⟨b, i, none⟩ = some v := by simp [World.cell?, h, hv]

/-! ### A ring -/
/-- The list's own block: next, prev, list, Value, len. -/
def LRoot (W : World) (Bl first last len : Nat) : Prop :=
  W.heap[Bl]? = some (.cells #[.pointer (some ⟨first, 0, none⟩), .pointer (some ⟨last, 0, none⟩), .pointer none, .nilIface, .int .i64 len] 44 (0, 0))
/-- An element's block. -/
def LNode (W : World) (b next prev Bl : Nat) (v : Int) : Prop :=
  W.heap[b]? = some (.cells #[.pointer (some ⟨next, 0, none⟩), .pointer (some ⟨prev, 0, none⟩), .pointer (some ⟨Bl, 0, none⟩), .iface 3 (.int .i64 v)] 38 (0, 0))

/-- THE LIST AT BLOCK Bl HAS THE ELEMENTS bs (their blocks, in order) WITH THE VALUES vs. -/
structure IsL (W : World) (Bl : Nat) (bs : List Nat) (vs : List Int) : Prop where
  len : bs.length = vs.length
  root : LRoot W Bl (bs[0]?.getD Bl) ((Bl :: bs)[bs.length]?.getD Bl) bs.length
  node : ∀ i, i < bs.length → LNode W (bs[i]?.getD 0) (bs[i + 1]?.getD Bl) ((Bl :: bs)[i]?.getD 0) Bl (vs[i]?.getD 0)
  nodup : bs.Nodup

theorem IsL.at {W : World} {Bl : Nat} {bs : List Nat} {vs : List Int} (h : IsL W Bl bs vs) {b : Nat} (hb : b ∈ bs) : ∃ n p v, LNode W b n p Bl v := by
  obtain ⟨i, hi, rfl⟩ := List.mem_iff_getElem.1 hb
  have := h.node i hi
  rw [List.getElem?_eq_getElem hi] at this
  exact ⟨_, _, _, this⟩
theorem IsL.ne {W : World} {Bl : Nat} {bs : List Nat} {vs : List Int} (h : IsL W Bl bs vs) {b : Nat} (hb : b ∈ bs) : b ≠ Bl := by
  rintro rfl
  obtain ⟨n, p, v, hn⟩ := h.at hb
  have := hn.symm.trans h.root
  simp at this
theorem IsL.lt {W : World} {Bl : Nat} {bs : List Nat} {vs : List Int} (h : IsL W Bl bs vs) : Bl < W.heap.size := (Array.getElem?_eq_some_iff.1 h.root).1
theorem IsL.lts {W : World} {Bl : Nat} {bs : List Nat} {vs : List Int} (h : IsL W Bl bs vs) {b : Nat} (hb : b ∈ bs) : b < W.heap.size := by
  obtain ⟨n, p, v, hn⟩ := h.at hb
  exact (Array.getElem?_eq_some_iff.1 hn).1
/-- The list lies as it lay where none of its blocks may turn. -/
theorem IsL.only {W W' : World} {Bl : Nat} {bs : List Nat} {vs : List Int} (h : IsL W Bl bs vs) {S : Nat → Prop} (ho : Only S W W') (h0 : ¬ S Bl) (h1 : ∀ b ∈ bs, ¬ S b) : IsL W' Bl bs vs :=
  ⟨h.len, ho.at h.root h0, fun i hi => ho.at (h.node i hi) (h1 _ (by rw [List.getElem?_eq_getElem hi]; simp)), h.nodup⟩
/-- Two lists at two places share no block. -/
theorem IsL.apart {W : World} {Bl Bl' : Nat} {bs bs' : List Nat} {vs vs' : List Int} (h : IsL W Bl bs vs) (h' : IsL W Bl' bs' vs') (hne : Bl ≠ Bl') {b : Nat} (hb : b ∈ bs) : b ≠ Bl' ∧ b ∉ bs' := by
  obtain ⟨n, p, v, hn⟩ := h.at hb
  refine ⟨?_, fun hb' => ?_⟩
  · rintro rfl
    have := hn.symm.trans h'.root
    simp at this
  · obtain ⟨n', p', v', hn'⟩ := h'.at hb'
    have := hn.symm.trans hn'
    simp at this
    exact hne this.2.2.1
theorem IsL.root_apart {W : World} {Bl Bl' : Nat} {bs bs' : List Nat} {vs vs' : List Int} (h : IsL W Bl bs vs) (h' : IsL W Bl' bs' vs') : Bl' ∉ bs := by
  intro hb
  obtain ⟨n, p, v, hn⟩ := h.at hb
  have := hn.symm.trans h'.root
  simp at this

/-- A list's own blocks. -/
def Mine (Bl : Nat) (bs : List Nat) (k : Nat) : Prop := k = Bl ∨ k ∈ bs

end Go.Proofs.Ybulkcktu
