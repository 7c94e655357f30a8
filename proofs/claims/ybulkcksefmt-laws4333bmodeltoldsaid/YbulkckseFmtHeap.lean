/- What a step may turn. No Go text is walked here. -/
import Derived.RangeFuncBox
import Derived.Below
import Derived.Deep.OwnRows
import Derived.Maps.OwnSet
namespace Go.Proofs.YbulkckseFmt
open Go Go.RowKit

/-! ### What a step may turn -/
/-- Nothing but blocks of S has turned (and new blocks have come). -/
structure Only (S : Nat → Prop) (w w' : World) : Prop where
  os : w'.os = w.os
  tape : w'.tape = w.tape
  output : w'.output = w.output
  size : w.heap.size ≤ w'.heap.size
  block : ∀ k, k < w.heap.size → ¬ S k → w'.heap[k]? = w.heap[k]?

theorem Only.refl (S : Nat → Prop) (w : World) : Only S w w := ⟨rfl, rfl, rfl, Nat.le_refl _, fun _ _ _ => rfl⟩
theorem Only.trans {S : Nat → Prop} {a b c : World} (h : Only S a b) (k : Only S b c) : Only S a c :=
  ⟨k.os.trans h.os, k.tape.trans h.tape, k.output.trans h.output, Nat.le_trans h.size k.size, fun i hi hs => (k.block i (Nat.lt_of_lt_of_le hi h.size) hs).trans (h.block i hi hs)⟩
theorem Only.andThen {S T : Nat → Prop} {a b c : World} (h : Only S a b) (k : Only T b c) (hst : ∀ i, i < a.heap.size → T i → S i) : Only S a c :=
  ⟨k.os.trans h.os, k.tape.trans h.tape, k.output.trans h.output, Nat.le_trans h.size k.size, fun i hi hs => (k.block i (Nat.lt_of_lt_of_le hi h.size) (fun ht => hs (hst i hi ht))).trans (h.block i hi hs)⟩
theorem Only.mono {S T : Nat → Prop} {a b : World} (h : Only S a b) (hst : ∀ k, k < a.heap.size → S k → T k) : Only T a b :=
  ⟨h.os, h.tape, h.output, h.size, fun i hi hs => h.block i hi (fun hS => hs (hst i hi hS))⟩
theorem Only.alloc {S : Nat → Prop} {a w : World} (h : Only S a w) (o : Obj) : Only S a (w.alloc o) :=
  ⟨h.os, h.tape, h.output, Nat.le_trans h.size (by simp), fun i hi hs => (Below.heap_alloc _ _ _ (Nat.lt_of_lt_of_le hi h.size)).trans (h.block i hi hs)⟩
theorem Only.setCell {S : Nat → Prop} {a w : World} (h : Only S a w) {p : Addr} (hp : p.block < a.heap.size → S p.block) (u : Value) : Only S a (w.setCell p u) :=
  ⟨h.os, h.tape, h.output, Nat.le_trans h.size (by simp [World.setCell]), fun i hi hs => (Below.heap_setCell _ _ _ _ (fun e => by subst e; exact hs (hp hi))).trans (h.block i hi hs)⟩
theorem Only.drew {S : Nat → Prop} {a w : World} (h : Only S a w) : Only S a w.drew := ⟨h.os, h.tape, h.output, h.size, h.block⟩
theorem Only.grown {S : Nat → Prop} {a w w' : World} {row : Option Nat} (h : Only S a w) (hg : w.grownBy w' row) (hr : ∀ k, row = some k → k < a.heap.size → S k) : Only S a w' :=
  ⟨hg.os.trans h.os, hg.tape.trans h.tape, hg.output.trans h.output, Nat.le_trans h.size hg.size, fun i hi hs => (hg.block i (Nat.lt_of_lt_of_le hi h.size) (fun e => hs (hr i e.symm hi))).trans (h.block i hi hs)⟩
theorem Only.below {S : Nat → Prop} {a w : World} (h : Only S a w) {n₀ : Nat} (hn : n₀ ≤ a.heap.size) (hS : ∀ k, k < a.heap.size → S k → n₀ ≤ k) : Below n₀ a w :=
  ⟨h.os, h.tape, h.output, h.size, fun k hk => h.block k (by omega) (fun hs => by have := hS k (by omega) hs; omega)⟩
theorem Only.of_below {a w : World} (h : Below a.heap.size a w) (S : Nat → Prop) : Only S a w := ⟨h.os, h.tape, h.output, h.size, fun k hk _ => h.block k hk⟩
/-- A block that is not of S lies as it lay. -/
theorem Only.at {S : Nat → Prop} {a w : World} (h : Only S a w) {k : Nat} {o : Obj} (hk : a.heap[k]? = some o) (hs : ¬ S k) : w.heap[k]? = some o :=
  (h.block k (Array.getElem?_eq_some_iff.1 hk).1 hs).trans hk

theorem heap_set {W : World} {b : Nat} {cs : Array Value} {t : TypeId} (h : W.heap[b]? = some (.cells cs t (0, 0))) (i : Nat) (v : Value) : (W.setCell ⟨b, i, none⟩ v).heap[b]? = some (.cells (cs.setIfInBounds i v) t (0, 0)) := by
  obtain ⟨hlt, hk⟩ := Array.getElem?_eq_some_iff.1 h
  show (W.heap.modify b _)[b]? = _
  rw [Array.getElem?_eq_getElem (by rw [Array.size_modify]; exact hlt), Array.getElem_modify_self, hk]
  rfl
theorem heap_set_other {W : World} {b c : Nat} {o : Obj} (h : W.heap[b]? = some o) (hne : b ≠ c) (i : Nat) (v : Value) : (W.setCell ⟨c, i, none⟩ v).heap[b]? = some o := (Below.heap_setCell _ _ _ _ hne).trans h
theorem frozen_of {W : World} {b : Nat} {cs : Array Value} {t : TypeId} (h : W.heap[b]? = some (.cells cs t (0, 0))) (i : Nat) : W.frozen? ⟨b, i, none⟩ = false := by simp [World.frozen?, h]
theorem cell_of {W : World} {b : Nat} {cs : Array Value} {t : TypeId} (h : W.heap[b]? = some (.cells cs t (0, 0))) {i : Nat} {v : Value} (hv : cs[i]? = some v) : W.cell? ⟨b, i, none⟩ = some v := by simp [World.cell?, h, hv]


/-- A cell of a block that is not of S reads as it read. -/
theorem Only.cell {S : Nat → Prop} {a w : World} (h : Only S a w) {p : Addr} {v : Value} (hp : a.cell? p = some v) (hs : ¬ S p.block) : w.cell? p = some v := by
  have hlt : p.block < a.heap.size := by
    by_cases hk : p.block < a.heap.size
    · exact hk
    · simp [World.cell?, Array.getElem?_eq_none (Nat.le_of_not_lt hk)] at hp
  rw [← hp]
  simp only [World.cell?, h.block _ hlt hs]
theorem Only.frozen {S : Nat → Prop} {a w : World} (h : Only S a w) {p : Addr} (hlt : p.block < a.heap.size) (hs : ¬ S p.block) : w.frozen? p = a.frozen? p := by
  simp only [World.frozen?, h.block _ hlt hs]

theorem lt_of_cell {w : World} {p : Addr} {v : Value} (hp : w.cell? p = some v) : p.block < w.heap.size := by
  by_cases hk : p.block < w.heap.size
  · exact hk
  · simp [World.cell?, Array.getElem?_eq_none (Nat.le_of_not_lt hk)] at hp
theorem cell_set {w : World} {p : Addr} {u : Value} (h : w.cell? p = some u) (v : Value) : (w.setCell p v).cell? p = some v := World.cell?_setCell_same w p v h
theorem cell_set_off {w : World} {b i j : Nat} {u : Value} (h : w.cell? ⟨b, j, none⟩ = some u) (hne : i ≠ j) (v : Value) : (w.setCell ⟨b, i, none⟩ v).cell? ⟨b, j, none⟩ = some u :=
  (World.cell?_setCell_other w ⟨b, i, none⟩ ⟨b, j, none⟩ v (by intro e; cases e; exact hne rfl)).trans h

theorem cell_set_blk {w : World} {b c i : Nat} {j : Nat} {u : Value} (h : w.cell? ⟨b, j, none⟩ = some u) (hne : c ≠ b) (v : Value) : (w.setCell ⟨c, i, none⟩ v).cell? ⟨b, j, none⟩ = some u :=
  (World.cell?_setCell_other w ⟨c, i, none⟩ ⟨b, j, none⟩ v (by intro e; cases e; exact hne rfl)).trans h
theorem heap_up {w : World} {b : Nat} {o : Obj} (h : w.heap[b]? = some o) (o' : Obj) : (w.alloc o').heap[b]? = some o := (Below.heap_alloc _ _ _ (Array.getElem?_eq_some_iff.1 h).1).trans h
theorem heap_new (w : World) (o : Obj) {b : Nat} (h : b = w.heap.size) : (w.alloc o).heap[b]? = some o := by rw [h]; exact World.alloc_heap_new w o
end Go.Proofs.YbulkckseFmt
