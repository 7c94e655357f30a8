/- What a step may turn; the queue, the pool's wait list and the waiters in memory. No Go text is walked here. -/
import Derived.RangeFuncBox
import Derived.Conc.LoneCalls
import Derived.Laws.LoneSync
import Derived.Below
import Derived.Deep.OwnRows
import Derived.Maps.OwnSet
namespace Go.Proofs.Ybulkckze
open Go Go.RowKit

/-! ### What a step may turn -/
/-- Nothing but blocks of S has turned (and new blocks have come). -/
structure Only (S : Nat → Prop) (w w' : World) : Prop where
  os : w'.os = w.os
  tape : w'.tape = w.tape
  output : w'.output = w.output
  size : w.heap.size ≤ w'.heap.size
  block : ∀ k, k < w.heap.size → ¬ S k → w'.heap[k]? = w.heap[k]?

theorem Only.refl (S : Nat → Prop) (w : World) : Only S w w := ⟨rfl, rfl, rfl, Nat.le_refl _, fun _ _ _ => rfl⟩
theorem Only.trans {S : Nat → Prop} {a b c : World} (h : Only S a b) (k : Only S b c) : Only S a c :=
  ⟨k.os.trans h.os, k.tape.trans h.tape, k.output.trans h.output, Nat.le_trans h.size k.size, fun i hi hs => (k.block i (Nat.lt_of_lt_of_le hi h.size) hs).trans (h.block i hi hs)⟩
theorem Only.andThen {S T : Nat → Prop} {a b c : World} (h : Only S a b) (k : Only T b c) (hst : ∀ i, i < a.heap.size → T i → S i) : Only S a c :=
  ⟨k.os.trans h.os, k.tape.trans h.tape, k.output.trans h.output, Nat.le_trans h.size k.size, fun i hi hs => (k.block i (Nat.lt_of_lt_of_le hi h.size) (fun ht => hs (hst i hi ht))).trans (h.block i hi hs)⟩
theorem Only.mono {S T : Nat → Prop} {a b : World} (h : Only S a b) (hst : ∀ k, k < a.heap.size → S k → T k) : Only T a b :=
  ⟨h.os, h.tape, h.output, h.size, fun i hi hs => h.block i hi (fun hS => hs (hst i hi hS))⟩
theorem Only.alloc {S : Nat → Prop} {a w : World} (h : Only S a w) (o : Obj) : Only S a (w.alloc o) :=
  ⟨h.os, h.tape, h.output, Nat.le_trans h.size (by simp), fun i hi hs => (Below.heap_alloc _ _ _ (Nat.lt_of_lt_of_le hi h.size)).trans (h.block i hi hs)⟩
theorem Only.setCell {S : Nat → Prop} {a w : World} (h : Only S a w) {p : Addr} (hp : p.block < a.heap.size → S p.block) (u : Value) : Only S a (w.setCell p u) :=
  ⟨h.os, h.tape, h.output, Nat.le_trans h.size (by simp [World.setCell]), fun i hi hs => (Below.heap_setCell _ _ _ _ (fun e => by subst e; exact hs (hp hi))).trans (h.block i hi hs)⟩
theorem Only.drew {S : Nat → Prop} {a w : World} (h : Only S a w) : Only S a w.drew := ⟨h.os, h.tape, h.output, h.size, h.block⟩
theorem Only.grown {S : Nat → Prop} {a w w' : World} {row : Option Nat} (h : Only S a w) (hg : w.grownBy w' row) (hr : ∀ k, row = some k → k < a.heap.size → S k) : Only S a w' :=
  ⟨hg.os.trans h.os, hg.tape.trans h.tape, hg.output.trans h.output, Nat.le_trans h.size hg.size, fun i hi hs => (hg.block i (Nat.lt_of_lt_of_le hi h.size) (fun e => hs (hr i e.symm hi))).trans (h.block i hi hs)⟩
theorem Only.below {S : Nat → Prop} {a w : World} (h : Only S a w) {n₀ : Nat} (hn : n₀ ≤ a.heap.size) (hS : ∀ k, k < a.heap.size → S k → n₀ ≤ k) : Below n₀ a w :=
  ⟨h.os, h.tape, h.output, h.size, fun k hk => h.block k (by omega) (fun hs => by have := hS k (by omega) hs; omega)⟩
theorem Only.of_below {a w : World} (h : Below a.heap.size a w) (S : Nat → Prop) : Only S a w := ⟨h.os, h.tape, h.output, h.size, fun k hk _ => h.block k hk⟩
/-- A block that is not of S lies as it lay. -/
theorem Only.at {S : Nat → Prop} {a w : World} (h : Only S a w) {k : Nat} {o : Obj} (hk : a.heap[k]? = some o) (hs : ¬ S k) : w.heap[k]? = some o :=
  (h.block k (Array.getElem?_eq_some_iff.1 hk).1 hs).trans hk

theorem heap_set {W : World} {b : Nat} {cs : Array Value} {t : TypeId} (h : W.heap[b]? = some (.cells cs t (0, 0))) (i : Nat) (v : Value) : (W.setCell ⟨b, i, none⟩ v).heap[b]? = some (.cells (cs.setIfInBounds i v) t (0, 0)) := by
  obtain ⟨hlt, hk⟩ := Array.getElem?_eq_some_iff.1 h
  show (W.heap.modify b _)[b]? = _
  rw [Array.getElem?_eq_getElem (by rw [Array.size_modify]; exact hlt), Array.getElem_modify_self, hk]
  rfl
theorem heap_set_other {W : World} {b c : Nat} {o : Obj} (h : W.heap[b]? = some o) (hne : b ≠ c) (i : Nat) (v : Value) : (W.setCell ⟨c, i, none⟩ v).heap[b]? = some o := (Below.heap_setCell _ _ _ _ hne).trans h
theorem frozen_of {W : World} {b : Nat} {cs : Array Value} {t : TypeId} (h : W.heap[b]? = some (.cells cs t (0, 0))) (i : Nat) : W.frozen? ⟨b, i, none⟩ = false := by simp [World.frozen?, h]
theorem cell_of {W : World} {b : Nat} {cs : Array Value} {t : TypeId} (h : W.heap[b]? = some (.cells cs t (0, 0))) {i : Nat} {v : Value} (hv : cs[i]? = some v) : W.cell? ⟨b, i, none⟩ = some v := by simp [World.cell?, h, hv]


theorem Only.setChan {S : Nat → Prop} {a w : World} (h : Only S a w) {c : Nat} (hp : c < a.heap.size → S c) (cap : Nat) (buf : Array Value) (cl : Bool) (s r : Nat) (tm : Bool) : Only S a (w.setChan c cap buf cl s r tm) :=
  ⟨h.os, h.tape, h.output, Nat.le_trans h.size (by simp [World.setChan]), fun i hi hs => by
    have hne : c ≠ i := fun e => by subst e; exact hs (hp hi)
    have : (w.setChan c cap buf cl s r tm).heap[i]? = w.heap[i]? := by simp [World.setChan, Array.getElem?_setIfInBounds_ne hne]
    exact this.trans (h.block i hi hs)⟩
/-- A cell of a block that is not of S reads as it read. -/
theorem Only.cell {S : Nat → Prop} {a w : World} (h : Only S a w) {p : Addr} {v : Value} (hp : a.cell? p = some v) (hs : ¬ S p.block) : w.cell? p = some v := by
  have hlt : p.block < a.heap.size := by
    by_cases hk : p.block < a.heap.size
    · exact hk
    · simp [World.cell?, Array.getElem?_eq_none (Nat.le_of_not_lt hk)] at hp
  rw [← hp]
  simp only [World.cell?, h.block _ hlt hs]
theorem Only.frozen {S : Nat → Prop} {a w : World} (h : Only S a w) {p : Addr} (hlt : p.block < a.heap.size) (hs : ¬ S p.block) : w.frozen? p = a.frozen? p := by
  simp only [World.frozen?, h.block _ hlt hs]

/-! ### The pool's lists and queue -/
/-- The pool's block: the idle list is empty; the room list counts n, its lock's word is mu. -/
structure PoolIs (w : World) (p q : Nat) (n mu : Int) (first last : Option Addr) : Prop where
  idleN : w.cell? ⟨p, 185, none⟩ = some (.int .i64 0)
  idleF : w.cell? ⟨p, 188, none⟩ = some (.pointer none)
  n : w.cell? ⟨p, 190, none⟩ = some (.int .i64 n)
  mu : w.cell? ⟨p, 191, none⟩ = some (.int .i32 mu)
  first : w.cell? ⟨p, 193, none⟩ = some (.pointer first)
  last : w.cell? ⟨p, 194, none⟩ = some (.pointer last)
  queue : w.cell? ⟨p, 195, none⟩ = some (.pointer (some ⟨q, 0, none⟩))
  fz : ∀ i, w.frozen? ⟨p, i, none⟩ = false

structure QueueIs (w : World) (q : Nat) (head tail : Int) (s i n : Nat) : Prop where
  head : w.cell? ⟨q, 0, none⟩ = some (.int .u64 head)
  tail : w.cell? ⟨q, 121, none⟩ = some (.int .u64 tail)
  seqs : w.cell? ⟨q, 242, none⟩ = some (.slice (some ⟨s, 0, none⟩) n n)
  items : w.cell? ⟨q, 243, none⟩ = some (.slice (some ⟨i, 0, none⟩) n n)
  fz : ∀ i, w.frozen? ⟨q, i, none⟩ = false

def WaiterIs (w : World) (b c : Nat) (prev next : Option Addr) (listed : Bool) : Prop :=
  w.heap[b]? = some (.cells #[.chan (some c), .pointer prev, .pointer next, .bool listed] 69 (0, 0))

theorem lt_of_cell {w : World} {p : Addr} {v : Value} (hp : w.cell? p = some v) : p.block < w.heap.size := by
  by_cases hk : p.block < w.heap.size
  · exact hk
  · simp [World.cell?, Array.getElem?_eq_none (Nat.le_of_not_lt hk)] at hp
theorem PoolIs.lt {w : World} {p q : Nat} {n mu : Int} {f l : Option Addr} (h : PoolIs w p q n mu f l) : p < w.heap.size := lt_of_cell h.n
theorem QueueIs.lt {w : World} {q : Nat} {hd tl : Int} {s i n : Nat} (h : QueueIs w q hd tl s i n) : q < w.heap.size := lt_of_cell h.head
theorem PoolIs.only {w w' : World} {p q : Nat} {n mu : Int} {f l : Option Addr} (h : PoolIs w p q n mu f l) {S : Nat → Prop} (ho : Only S w w') (hs : ¬ S p) : PoolIs w' p q n mu f l :=
  ⟨ho.cell h.idleN hs, ho.cell h.idleF hs, ho.cell h.n hs, ho.cell h.mu hs, ho.cell h.first hs, ho.cell h.last hs, ho.cell h.queue hs, fun i => (ho.frozen (p := ⟨p, i, none⟩) h.lt hs).trans (h.fz i)⟩
theorem QueueIs.only {w w' : World} {q : Nat} {hd tl : Int} {s i n : Nat} (h : QueueIs w q hd tl s i n) {S : Nat → Prop} (ho : Only S w w') (hs : ¬ S q) : QueueIs w' q hd tl s i n :=
  ⟨ho.cell h.head hs, ho.cell h.tail hs, ho.cell h.seqs hs, ho.cell h.items hs, fun i => (ho.frozen (p := ⟨q, i, none⟩) h.lt hs).trans (h.fz i)⟩
theorem PoolIs.drew {w : World} {p q : Nat} {n mu : Int} {f l : Option Addr} (h : PoolIs w p q n mu f l) : PoolIs w.drew p q n mu f l := h.only (S := fun _ => False) (Only.refl _ w).drew id

theorem cell_set {w : World} {p : Addr} {u : Value} (h : w.cell? p = some u) (v : Value) : (w.setCell p v).cell? p = some v := World.cell?_setCell_same w p v h
theorem cell_set_off {w : World} {b i j : Nat} {u : Value} (h : w.cell? ⟨b, j, none⟩ = some u) (hne : i ≠ j) (v : Value) : (w.setCell ⟨b, i, none⟩ v).cell? ⟨b, j, none⟩ = some u :=
  (World.cell?_setCell_other w ⟨b, i, none⟩ ⟨b, j, none⟩ v (by intro e; cases e; exact hne rfl)).trans h

theorem PoolIs.setN {w : World} {p q : Nat} {n mu : Int} {f l : Option Addr} (h : PoolIs w p q n mu f l) (n' : Int) : PoolIs (w.setCell ⟨p, 190, none⟩ (.int .i64 n')) p q n' mu f l :=
  ⟨cell_set_off h.idleN (by decide) _, cell_set_off h.idleF (by decide) _, cell_set h.n _, cell_set_off h.mu (by decide) _, cell_set_off h.first (by decide) _, cell_set_off h.last (by decide) _, cell_set_off h.queue (by decide) _, fun i => by simpa using h.fz i⟩
theorem PoolIs.setMu {w : World} {p q : Nat} {n mu : Int} {f l : Option Addr} (h : PoolIs w p q n mu f l) (mu' : Int) : PoolIs (w.setCell ⟨p, 191, none⟩ (.int .i32 mu')) p q n mu' f l :=
  ⟨cell_set_off h.idleN (by decide) _, cell_set_off h.idleF (by decide) _, cell_set_off h.n (by decide) _, cell_set h.mu _, cell_set_off h.first (by decide) _, cell_set_off h.last (by decide) _, cell_set_off h.queue (by decide) _, fun i => by simpa using h.fz i⟩
theorem PoolIs.setFirst {w : World} {p q : Nat} {n mu : Int} {f l : Option Addr} (h : PoolIs w p q n mu f l) (f' : Option Addr) : PoolIs (w.setCell ⟨p, 193, none⟩ (.pointer f')) p q n mu f' l :=
  ⟨cell_set_off h.idleN (by decide) _, cell_set_off h.idleF (by decide) _, cell_set_off h.n (by decide) _, cell_set_off h.mu (by decide) _, cell_set h.first _, cell_set_off h.last (by decide) _, cell_set_off h.queue (by decide) _, fun i => by simpa using h.fz i⟩
theorem PoolIs.setLast {w : World} {p q : Nat} {n mu : Int} {f l : Option Addr} (h : PoolIs w p q n mu f l) (l' : Option Addr) : PoolIs (w.setCell ⟨p, 194, none⟩ (.pointer l')) p q n mu f l' :=
  ⟨cell_set_off h.idleN (by decide) _, cell_set_off h.idleF (by decide) _, cell_set_off h.n (by decide) _, cell_set_off h.mu (by decide) _, cell_set_off h.first (by decide) _, cell_set h.last _, cell_set_off h.queue (by decide) _, fun i => by simpa using h.fz i⟩
theorem PoolIs.setOther {w : World} {p q : Nat} {n mu : Int} {f l : Option Addr} (h : PoolIs w p q n mu f l) {b : Nat} (hne : b ≠ p) (i : Nat) (v : Value) : PoolIs (w.setCell ⟨b, i, none⟩ v) p q n mu f l :=
  h.only (S := fun k => k = b) ((Only.refl (fun k => k = b) w).setCell (p := ⟨b, i, none⟩) (fun _ => rfl) v) (fun e => hne e.symm)
theorem WaiterIs.bell {w : World} {b c : Nat} {pr nx : Option Addr} {li : Bool} (h : WaiterIs w b c pr nx li) : w.cell? ⟨b, 0, none⟩ = some (.chan (some c)) := cell_of h rfl
theorem WaiterIs.prev {w : World} {b c : Nat} {pr nx : Option Addr} {li : Bool} (h : WaiterIs w b c pr nx li) : w.cell? ⟨b, 1, none⟩ = some (.pointer pr) := cell_of h rfl
theorem WaiterIs.next {w : World} {b c : Nat} {pr nx : Option Addr} {li : Bool} (h : WaiterIs w b c pr nx li) : w.cell? ⟨b, 2, none⟩ = some (.pointer nx) := cell_of h rfl
theorem WaiterIs.listed {w : World} {b c : Nat} {pr nx : Option Addr} {li : Bool} (h : WaiterIs w b c pr nx li) : w.cell? ⟨b, 3, none⟩ = some (.bool li) := cell_of h rfl
theorem WaiterIs.fz {w : World} {b c : Nat} {pr nx : Option Addr} {li : Bool} (h : WaiterIs w b c pr nx li) (i : Nat) : w.frozen? ⟨b, i, none⟩ = false := frozen_of h i
theorem WaiterIs.drew {w : World} {b c : Nat} {pr nx : Option Addr} {li : Bool} (h : WaiterIs w b c pr nx li) : WaiterIs w.drew b c pr nx li := h
theorem WaiterIs.only {w w' : World} {b c : Nat} {pr nx : Option Addr} {li : Bool} (h : WaiterIs w b c pr nx li) {S : Nat → Prop} (ho : Only S w w') (hs : ¬ S b) : WaiterIs w' b c pr nx li := ho.at h hs
end Go.Proofs.Ybulkckze
