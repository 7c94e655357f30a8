import Derived.Test.YbulkckzeWake
import Derived.IntWalk
import Derived.LoopN
namespace Go.Proofs.Ybulkckze
open Go Go.RowKit

theorem loadu {w : World} {a : Addr} {x : Int} (h : w.cell? a = some (.int .u64 x)) : (callFunc 7 #[.pointer (some a)]).run Yba.prog w = .ok (.value (.int .u64 x)) w :=
  run_call_load (P := Yba.prog) Yba.func7 (by kernel_rfl) (by kernel_rfl) (by kernel_rfl) .u64 (by kernel_rfl) h
theorem casu {w : World} {a : Addr} {x : Int} (y : Int) (h : w.cell? a = some (.int .u64 x)) (hz : w.frozen? a = false) :
    (callFunc 8 #[.pointer (some a), .int .u64 x, .int .u64 y]).run Yba.prog w = .ok (.value (.bool true)) (w.setCell a (.int .u64 y)) :=
  run_call_cas_hit (P := Yba.prog) Yba.func8 (by kernel_rfl) (by kernel_rfl) (by kernel_rfl) .u64 (by kernel_rfl) h hz
theorem storeu {w : World} {a : Addr} {u : Value} (y : Int) (h : w.cell? a = some u) (hz : w.frozen? a = false) :
    (callFunc 9 #[.pointer (some a), .int .u64 y]).run Yba.prog w = .ok (.value (.tuple #[])) (w.setCell a (.int .u64 y)) :=
  run_call_store (P := Yba.prog) Yba.func9 (by kernel_rfl) (by kernel_rfl) (by kernel_rfl) (by kernel_rfl) h hz

set_option maxRecDepth 100000 in
set_option maxHeartbeats 1000000 in
/-- queue.take, no item there. -/
theorem qtake_miss (q s i n pos r : Nat) (sq : Nat) (tl : Int) (w : World) (hq : QueueIs w q pos tl s i n) (hn : 1 ≤ n) (hn2 : n ≤ 2000) (hpos : pos ≤ 100000)
    (hs : w.cell? ⟨s, r, none⟩ = some (.int .u64 sq)) (hr : (pos : Int) % (n : Int) = (r : Int)) (hrn : r < n) (hlt : sq < 2 * pos + 1) :
    Calls Yba.prog 5 #[.pointer (some ⟨q, 0, none⟩)] w fun e w' => e = .returned (.tuple #[.int .i64 0, .bool false]) ∧ w' = w := by
  have hl := loadu hq.head
  have hl2 := loadu hs
  have h4 := hq.seqs
  have hz : ((n : Int) == 0) = false := by simp; omega
  have hb : 0 ≤ (r : Int) ∧ (r : Int) < (n : Int) := by omega
  have hz2 : ¬ (n : Int) = 0 := by omega
  clear hq
  go_enter Yba.func5, Yba.ntmps5
  go_wp2_with fail
  refine wp_loop_rounds 1 ?_
  rw [rounds_succ]
  go_wp2_with fail
  go_ret2
  exact ⟨rfl, rfl⟩

theorem cell_set_blk {w : World} {b c i : Nat} {j : Nat} {u : Value} (h : w.cell? ⟨b, j, none⟩ = some u) (hne : c ≠ b) (v : Value) : (w.setCell ⟨c, i, none⟩ v).cell? ⟨b, j, none⟩ = some u :=
  (World.cell?_setCell_other w ⟨c, i, none⟩ ⟨b, j, none⟩ v (by intro e; cases e; exact hne rfl)).trans h

set_option maxRecDepth 100000 in
set_option maxHeartbeats 1000000 in
/-- queue.take, an item there. -/
theorem qtake_hit (q s i n pos r : Nat) (x : Int) (tl : Int) (w : World) (hq : QueueIs w q pos tl s i n) (hn : 1 ≤ n) (hn2 : n ≤ 2000) (hpos : pos ≤ 100000)
    (hs : w.cell? ⟨s, r, none⟩ = some (.int .u64 (2 * (pos : Int) + 1))) (hi : w.cell? ⟨i, r, none⟩ = some (.int .i64 x)) (hr : (pos : Int) % (n : Int) = (r : Int)) (hrn : r < n)
    (fs : w.frozen? ⟨s, r, none⟩ = false) (fi : w.frozen? ⟨i, r, none⟩ = false) (hqs : q ≠ s) (hqi : q ≠ i) (hsi : i ≠ s) :
    Calls Yba.prog 5 #[.pointer (some ⟨q, 0, none⟩)] w fun e w' => e = .returned (.tuple #[.int .i64 x, .bool true]) ∧
      w' = ((w.setCell ⟨q, 0, none⟩ (.int .u64 ((pos : Int) + 1))).setCell ⟨i, r, none⟩ (.int .i64 0)).setCell ⟨s, r, none⟩ (.int .u64 (2 * ((pos : Int) + n))) := by
  have hl := loadu hq.head
  have hl2 := loadu hs
  have h4 := hq.seqs
  have hcas := casu ((pos : Int) + 1) hq.head (hq.fz 0)
  have h5 := cell_set_off (i := 0) hq.items (by decide) (.int .u64 ((pos : Int) + 1))
  have i5 := cell_set_blk (i := 0) hi hqi (.int .u64 ((pos : Int) + 1))
  have f5 : (w.setCell ⟨q, 0, none⟩ (.int .u64 ((pos : Int) + 1))).frozen? ⟨i, r, none⟩ = false := by simpa using fi
  have h6 := cell_set_blk (i := r) (cell_set_off (i := 0) hq.seqs (by decide) (.int .u64 ((pos : Int) + 1))) (fun e => hqi e.symm) (.int .i64 0)
  have s6 := cell_set_blk (i := r) (cell_set_blk (i := 0) hs hqs (.int .u64 ((pos : Int) + 1))) hsi (.int .i64 0)
  have f6 : ((w.setCell ⟨q, 0, none⟩ (.int .u64 ((pos : Int) + 1))).setCell ⟨i, r, none⟩ (.int .i64 0)).frozen? ⟨s, r, none⟩ = false := by simpa using fs
  have hst := storeu (2 * ((pos : Int) + n)) s6 f6
  have hz : ((n : Int) == 0) = false := by simp; omega
  have hb : 0 ≤ (r : Int) ∧ (r : Int) < (n : Int) := by omega
  have hz2 : ¬ (n : Int) = 0 := by omega
  clear hq s6 f6 hs
  go_enter Yba.func5, Yba.ntmps5
  go_wp2_with fail
  refine wp_loop_rounds 1 ?_
  rw [rounds_succ]
  go_wp2_with fail
  go_ret2
  exact ⟨rfl, rfl⟩
end Go.Proofs.Ybulkckze
