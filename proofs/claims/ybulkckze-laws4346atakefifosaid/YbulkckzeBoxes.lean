import Derived.Test.YbulkckzeStep
import Derived.Laws.MakeOwn
import Derived.Conc.SmallLaws
namespace Go.Proofs.Ybulkckze
open Go Go.RowKit

/-! ### The queue and the pool, boxed -/
def qcells (a b c d : Value) : Array Value := #[a] ++ Array.replicate 120 (.int .u8 0) ++ #[b] ++ Array.replicate 120 (.int .u8 0) ++ #[c, d]
theorem q_built (a b : Int) (c d : Option Addr) (n : Nat) :
    Yba.prog.built 29 [(0, .int .u64 a), (2, .int .u64 b), (4, .slice c n n), (5, .slice d n n)] = some (qcells (.int .u64 a) (.int .u64 b) (.slice c n n) (.slice d n n)) := by kernel_rfl
def pcells (q : Value) : Array Value := #[.int .i64 0, .int .u64 0, .int .i32 0, .int .u32 0, .int .u32 0, .int .u32 0, .int .i32 0, .int .i32 0] ++ Array.replicate 88 (.int .u8 0) ++ #[.int .i64 0, .int .u64 0, .int .u64 0, .int .i64 0, .int .i64 0, .int .i64 0] ++ Array.replicate 80 (.int .u8 0) ++ #[.int .i64 0, .int .i64 0, .int .i64 0, .int .i64 0, .int .i32 0, .int .u32 0, .pointer none, .pointer none, .int .i64 0, .int .i32 0, .int .u32 0, .pointer none, .pointer none, q, .int .u64 0, .int .i64 0, .pointer none, .int .i64 0, .nilFunc, .nilFunc, .int .u64 0, .int .u32 0, .int .i32 0, .int .u32 0, .int .i32 0, .int .u32 0, .chan none, .chan none, .int .i32 0, .int .u32 0, .pointer none]
theorem p_built (q : Option Addr) : Yba.prog.built 66 [(16, .pointer q)] = some (pcells (.pointer q)) := by kernel_rfl
theorem run_box29 (w : World) (cs : Array Value) : (Instr.box 29 (.agg cs)).run Yba.prog w = .ok (.pointer (some ⟨w.heap.size, 0, none⟩)) (w.alloc (.cells cs 29)) := by
  simp [Instr.box, newVar, newRow, Value.cells]
theorem run_box66 (w : World) (cs : Array Value) : (Instr.box 66 (.agg cs)).run Yba.prog w = .ok (.pointer (some ⟨w.heap.size, 0, none⟩)) (w.alloc (.cells cs 66)) := by
  simp [Instr.box, newVar, newRow, Value.cells]
theorem build29 (a b : Int) (c d : Option Addr) (n : Nat) (w : World) :
    (Instr.build 29 #[(0, .int .u64 a), (2, .int .u64 b), (4, .slice c n n), (5, .slice d n n)]).run Yba.prog w = .ok (.agg (qcells (.int .u64 a) (.int .u64 b) (.slice c n n) (.slice d n n))) w := run_build w 29 _ _ (q_built a b c d n)
theorem build66 (q : Option Addr) (w : World) : (Instr.build 66 #[(16, .pointer q)]).run Yba.prog w = .ok (.agg (pcells (.pointer q))) w := run_build w 66 _ _ (p_built q)

theorem QueueIs.made {w : World} {q : Nat} {a b : Int} {s i n : Nat} (h : w.heap[q]? = some (.cells (qcells (.int .u64 a) (.int .u64 b) (.slice (some ⟨s, 0, none⟩) n n) (.slice (some ⟨i, 0, none⟩) n n)) 29 (0, 0))) : QueueIs w q a b s i n :=
  ⟨cell_of h (by kernel_rfl), cell_of h (by kernel_rfl), cell_of h (by kernel_rfl), cell_of h (by kernel_rfl), fun i => frozen_of h i⟩
theorem PoolIs.made {w : World} {p q : Nat} (h : w.heap[p]? = some (.cells (pcells (.pointer (some ⟨q, 0, none⟩))) 66 (0, 0))) : PoolIs w p q 0 0 none none :=
  ⟨cell_of h (by kernel_rfl), cell_of h (by kernel_rfl), cell_of h (by kernel_rfl), cell_of h (by kernel_rfl), cell_of h (by kernel_rfl), cell_of h (by kernel_rfl), cell_of h (by kernel_rfl), fun i => frozen_of h i⟩

theorem bytes31 : ∃ i, Yba.prog.info? 31 = some i ∧ i.bytes = 0 := by
  have h : (Yba.prog.info? 31).map (·.bytes) = some 0 := by kernel_rfl
  obtain ⟨i, hi, hb⟩ := Option.map_eq_some_iff.1 h
  exact ⟨i, hi, hb⟩
theorem mkchan (w : World) : (Instr.makeChan 63 (.int .i64 1)).run Yba.prog w = .ok (.chan (some w.heap.size)) (w.alloc (.chan 1 #[] false 0 0 false)) := by
  obtain ⟨i, hi, hb⟩ := bytes31
  simpa using Go.Conc.run_makeChan (P := Yba.prog) (w := w) Yba.underlying63 hi .i64 1 (by omega) (by rw [hb]; omega)
theorem info24 : ∃ i, Yba.prog.info? 24 = some i ∧ i.zero = some (.int .u64 0) ∧ i.size = 1 ∧ i.bytes = 8 := by
  have h : (Yba.prog.info? 24).map (fun i => (i.zero, i.size, i.bytes)) = some (some (.int .u64 0), 1, 8) := by kernel_rfl
  obtain ⟨i, hi, hb⟩ := Option.map_eq_some_iff.1 h
  simp at hb
  exact ⟨i, hi, hb.1, hb.2.1, hb.2.2⟩
theorem info3 : ∃ i, Yba.prog.info? 3 = some i ∧ i.zero = some (.int .i64 0) ∧ i.size = 1 ∧ i.bytes = 8 := by
  have h : (Yba.prog.info? 3).map (fun i => (i.zero, i.size, i.bytes)) = some (some (.int .i64 0), 1, 8) := by kernel_rfl
  obtain ⟨i, hi, hb⟩ := Option.map_eq_some_iff.1 h
  simp at hb
  exact ⟨i, hi, hb.1, hb.2.1, hb.2.2⟩
theorem info45 : ∃ i, Yba.prog.info? 45 = some i ∧ i.zero = some (.pointer none) ∧ i.size = 1 ∧ i.bytes = 8 := by
  have h : (Yba.prog.info? 45).map (fun i => (i.zero, i.size, i.bytes)) = some (some (.pointer none), 1, 8) := by kernel_rfl
  obtain ⟨i, hi, hb⟩ := Option.map_eq_some_iff.1 h
  simp at hb
  exact ⟨i, hi, hb.1, hb.2.1, hb.2.2⟩
theorem make25 (n : Nat) (hn : n ≤ 2000) (w : World) : (Instr.makeSlice 25 (.int .i64 n) (.int .i64 n)).run Yba.prog w = .ok (.slice (some ⟨w.heap.size, 0, none⟩) n n) (w.alloc (.cells (madeCells #[.int .u64 0] n) 24)) := by
  obtain ⟨i, hi, hz, hs, hb⟩ := info24
  have := run_makeSlice (P := Yba.prog) w 25 24 i _ Yba.underlying25 hi hz .i64 .i64 n n (by omega) (by omega) (by rw [hs]; omega) (by rw [hb]; omega) (by omega)
  simpa [hs, Value.cells] using this
theorem make22 (n : Nat) (hn : n ≤ 2000) (w : World) : (Instr.makeSlice 22 (.int .i64 n) (.int .i64 n)).run Yba.prog w = .ok (.slice (some ⟨w.heap.size, 0, none⟩) n n) (w.alloc (.cells (madeCells #[.int .i64 0] n) 3)) := by
  obtain ⟨i, hi, hz, hs, hb⟩ := info3
  have := run_makeSlice (P := Yba.prog) w 22 3 i _ Yba.underlying22 hi hz .i64 .i64 n n (by omega) (by omega) (by rw [hs]; omega) (by rw [hb]; omega) (by omega)
  simpa [hs, Value.cells] using this
theorem make67 (n : Nat) (hn : n ≤ 2000) (w : World) : (Instr.makeSlice 67 (.int .i64 n) (.int .i64 n)).run Yba.prog w = .ok (.slice (some ⟨w.heap.size, 0, none⟩) n n) (w.alloc (.cells (madeCells #[.pointer none] n) 45)) := by
  obtain ⟨i, hi, hz, hs, hb⟩ := info45
  have := run_makeSlice (P := Yba.prog) w 67 45 i _ Yba.underlying67 hi hz .i64 .i64 n n (by omega) (by omega) (by rw [hs]; omega) (by rw [hb]; omega) (by omega)
  simpa [hs, Value.cells] using this
end Go.Proofs.Ybulkckze
