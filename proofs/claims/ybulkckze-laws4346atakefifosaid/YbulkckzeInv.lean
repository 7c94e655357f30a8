import Derived.Test.YbulkckzePool
namespace Go.Proofs.Ybulkckze
open Go Go.RowKit

/-! ### The ring's slots -/
/-- Slot i of the ring holds the position h + jOf i of this lap. -/
def jOf (n h i : Nat) : Nat := (i + (n - h % n)) % n
theorem jOf_lt {n : Nat} (hn : 1 ≤ n) (h i : Nat) : jOf n h i < n := Nat.mod_lt _ hn
theorem jOf_at {n : Nat} (hn : 1 ≤ n) (h : Nat) {j : Nat} (hj : j < n) : jOf n h ((h + j) % n) = j := by
  have ha : h % n < n := Nat.mod_lt _ hn
  unfold jOf
  rw [Nat.add_mod h j n, Nat.mod_eq_of_lt hj]
  by_cases hc : h % n + j < n
  · rw [Nat.mod_eq_of_lt hc, show h % n + j + (n - h % n) = j + n by omega, Nat.add_mod_right, Nat.mod_eq_of_lt hj]
  · rw [Nat.mod_eq_sub_mod (a := h % n + j) (by omega), Nat.mod_eq_of_lt (show h % n + j - n < n by omega), show h % n + j - n + (n - h % n) = j by omega, Nat.mod_eq_of_lt hj]
theorem at_jOf {n : Nat} (hn : 1 ≤ n) (h : Nat) {i : Nat} (hi : i < n) : (h + jOf n h i) % n = i := by
  have ha : h % n < n := Nat.mod_lt _ hn
  unfold jOf
  rw [Nat.add_mod h _ n, Nat.mod_mod]
  by_cases hc : i + (n - h % n) < n
  · rw [Nat.mod_eq_of_lt hc, show h % n + (i + (n - h % n)) = i + n by omega, Nat.add_mod_right, Nat.mod_eq_of_lt hi]
  · rw [Nat.mod_eq_sub_mod (a := i + (n - h % n)) (by omega), Nat.mod_eq_of_lt (show i + (n - h % n) - n < n by omega), show h % n + (i + (n - h % n) - n) = i by omega, Nat.mod_eq_of_lt hi]
theorem jOf_iff {n : Nat} (hn : 1 ≤ n) (h : Nat) {i j : Nat} (hi : i < n) (hj : j < n) : i = (h + j) % n ↔ jOf n h i = j :=
  ⟨fun e => by rw [e, jOf_at hn h hj], fun e => by rw [← e, at_jOf hn h hi]⟩

/-- What the slot of the j-th position bears when t have been taken. -/
def seqv (n h k t j : Nat) : Int := if j < t then 2 * ((h : Int) + j + n) else if j < k then 2 * ((h : Int) + j) + 1 else 2 * ((h : Int) + j)
def itemv (k : Nat) (z : Nat → Int) (t j : Nat) : Int := if j < t then 0 else if j < k then z j else 0

def bell (B j : Nat) : Nat := B + 5 + 2 * j
def wtr (B j : Nat) : Nat := B + 6 + 2 * j
def ptr (B j : Nat) : Option Addr := some ⟨wtr B j, 0, none⟩
def prevOf (B t j : Nat) : Option Addr := if j ≤ t then none else ptr B (j - 1)
def nextOf (B m t j : Nat) : Option Addr := if j < t then none else if j + 1 < m then ptr B (j + 1) else none

structure Inv (B n h k m : Nat) (z : Nat → Int) (t : Nat) (w : World) : Prop where
  queue : QueueIs w (B + 2) ((h + t : Nat) : Int) ((h + k : Nat) : Int) B (B + 1) n
  seqs : w.rowIs B 24 n (fun i => .int .u64 (seqv n h k t (jOf n h i)))
  items : w.rowIs (B + 1) 3 n (fun i => .int .i64 (itemv k z t (jOf n h i)))
  pool : PoolIs w (B + 3) (B + 2) ((m - t : Nat) : Int) 0 (if t < m then ptr B t else none) (if t < m then ptr B (m - 1) else none)
  ws : w.rowIs (B + 4) 45 m (fun j => .pointer (ptr B j))
  wait : ∀ j, j < m → WaiterIs w (wtr B j) (bell B j) (prevOf B t j) (nextOf B m t j) (decide (t ≤ j))
  bells : ∀ j, j < m → BellIs w (bell B j) (decide (j < t))

theorem Inv.drew {B n h k m : Nat} {z : Nat → Int} {t : Nat} {w : World} (I : Inv B n h k m z t w) : Inv B n h k m z t w.drew :=
  ⟨⟨I.queue.head, I.queue.tail, I.queue.seqs, I.queue.items, I.queue.fz⟩, I.seqs, I.items, I.pool.drew, I.ws, I.wait, I.bells⟩

theorem rowIs_only {w w' : World} {b : Nat} {t : TypeId} {n : Nat} {f : Nat → Value} (h : w.rowIs b t n f) {S : Nat → Prop} (ho : Only S w w') (hs : ¬ S b) : w'.rowIs b t n f := h.of_block (ho.block _ h.lt hs)

/-- What lies behind a wake, put together. -/
theorem Inv.woken {B n h k m : Nat} {z : Nat → Int} {t : Nat} {w w1 w2 : World} (I : Inv B n h k m z t w) (htk : t < k) (hkn : k ≤ n)
    (hw1 : w1 = ((w.setCell ⟨B + 2, 0, none⟩ (.int .u64 (((h + t : Nat) : Int) + 1))).setCell ⟨B + 1, (h + t) % n, none⟩ (.int .i64 0)).setCell ⟨B, (h + t) % n, none⟩ (.int .u64 (2 * (((h + t : Nat) : Int) + n)))) 
    (ho : Only (fun k => B + 3 ≤ k ∧ k ≠ B + 4) w1 w2)
    (hp : PoolIs w2 (B + 3) (B + 2) ((m - (t + 1) : Nat) : Int) 0 (if t + 1 < m then ptr B (t + 1) else none) (if t + 1 < m then ptr B (m - 1) else none))
    (hwt : ∀ j, j < m → WaiterIs w2 (wtr B j) (bell B j) (prevOf B (t + 1) j) (nextOf B m (t + 1) j) (decide (t + 1 ≤ j)))
    (hbl : ∀ j, j < m → BellIs w2 (bell B j) (decide (j < t + 1))) : Inv B n h k m z (t + 1) w2 := by
  have hn : 1 ≤ n := by omega
  have htn : t < n := by omega
  refine ⟨?_, ?_, ?_, hp, ?_, hwt, hbl⟩
  · have hq : QueueIs w1 (B + 2) ((h + (t + 1) : Nat) : Int) ((h + k : Nat) : Int) B (B + 1) n := by
      have e : ((h + (t + 1) : Nat) : Int) = ((h + t : Nat) : Int) + 1 := by omega
      rw [e, hw1]
      have q := I.queue
      refine ⟨?_, ?_, ?_, ?_, fun i => by simpa using q.fz i⟩
      · exact cell_set_blk (cell_set_blk (cell_set q.head _) (by omega) _) (by omega) _
      · exact cell_set_blk (cell_set_blk (cell_set_off q.tail (by decide) _) (by omega) _) (by omega) _
      · exact cell_set_blk (cell_set_blk (cell_set_off q.seqs (by decide) _) (by omega) _) (by omega) _
      · exact cell_set_blk (cell_set_blk (cell_set_off q.items (by decide) _) (by omega) _) (by omega) _
    exact hq.only ho (by omega)
  · have hr : w1.rowIs B 24 n (fun i => .int .u64 (seqv n h k (t + 1) (jOf n h i))) := by
      rw [hw1]
      refine (((I.seqs.setOther (a := ⟨B + 2, 0, none⟩) (by simp) _).setOther (a := ⟨B + 1, (h + t) % n, none⟩) (by simp) _).set ((h + t) % n) _).congr (fun i hi => ?_)
      have hj := jOf_lt hn h i
      by_cases hc : i = (h + t) % n
      · have hjt := (jOf_iff hn h hi htn).1 hc
        simp only [hc, if_true, jOf_at hn h htn]
        have e : seqv n h k (t + 1) t = 2 * (((h + t : Nat) : Int) + n) := by
          simp only [seqv, show t < t + 1 by omega, if_true]
          omega
        rw [e]
      · have hjt : jOf n h i ≠ t := fun e => hc ((jOf_iff hn h hi htn).2 e)
        simp only [hc, if_false, seqv]
        have : (jOf n h i < t + 1) ↔ (jOf n h i < t) := by omega
        simp only [this]
    exact rowIs_only hr ho (by omega)
  · have hr : w1.rowIs (B + 1) 3 n (fun i => .int .i64 (itemv k z (t + 1) (jOf n h i))) := by
      rw [hw1]
      refine (((I.items.setOther (a := ⟨B + 2, 0, none⟩) (by simp) _).set ((h + t) % n) _).setOther (a := ⟨B, (h + t) % n, none⟩) (by simp) _).congr (fun i hi => ?_)
      have hj := jOf_lt hn h i
      by_cases hc : i = (h + t) % n
      · simp only [hc, if_true, jOf_at hn h htn]
        simp only [itemv, show t < t + 1 by omega, if_true]
      · have hjt : jOf n h i ≠ t := fun e => hc ((jOf_iff hn h hi htn).2 e)
        simp only [hc, if_false, itemv]
        have : (jOf n h i < t + 1) ↔ (jOf n h i < t) := by omega
        simp only [this]
    exact rowIs_only hr ho (by omega)
  · have hr : w1.rowIs (B + 4) 45 m (fun j => .pointer (ptr B j)) := by
      rw [hw1]
      exact ((I.ws.setOther (a := ⟨B + 2, 0, none⟩) (by simp) _).setOther (a := ⟨B + 1, (h + t) % n, none⟩) (by simp) _).setOther (a := ⟨B, (h + t) % n, none⟩) (by simp) _
    exact rowIs_only hr ho (by omega)
end Go.Proofs.Ybulkckze
