import Derived.Test.YbulkckseFmtTry
import Derived.Test.YbulkckseFmtIs
import Derived.Deep.OwnRows
import Derived.Deep.DeepCutAuto
import Derived.LoopTactic
import Derived.BigQuiet
import Derived.BigRegion
namespace Go.Proofs.YbulkckseFmt
open Go Go.RowKit Go.Maps Go.Stop

abbrev VT := Nat → Option Addr × Option Addr × Nat × Nat

def zeroCell : Nat → Value
  | 0 => .int .i64 0
  | 1 => .int .i64 0
  | 2 => .string ⟨#[]⟩
  | 3 => .pointer none
  | _ => .slice none 0 0
def recCell (V : VT) (j : Nat) : Nat → Value
  | 0 => .int .i64 ((j : Int) + 1)
  | 1 => .int .i64 ((j : Int) + 2)
  | 2 => .string ⟨#[116]⟩
  | 3 => .pointer (V j).1
  | _ => .slice (V j).2.1 (V j).2.2.1 (V j).2.2.2
/-- The row 'built' behind i records. -/
def builtAt (V : VT) (i : Nat) (c : Nat) : Value := if c / 5 < i then recCell V (c / 5) (c % 5) else zeroCell (c % 5)

theorem run_make27 (n : Nat) (hn : n ≤ 1024) (w : World) : (Instr.makeSlice 27 (.int .i64 (n : Int)) (.int .i64 (n : Int))).run Ybaf.prog w = .ok (.slice (some ⟨w.heap.size, 0, none⟩) n n) (w.alloc (.cells (madeCells #[.int .i64 0, .int .i64 0, .string ⟨#[]⟩, .pointer none, .slice none 0 0] (n * 5)) 31)) := by
  obtain ⟨i31, hi31, hz31, hs31, hb31⟩ := info_parts info31
  have hr := run_make (P := Ybaf.prog) w 27 31 i31 zeroRec Ybaf.underlying27 hi31 hz31 .i64 .i64 n n (by omega) (Int.le_refl _) (by rw [hb31]; omega) (by omega)
  simp only [Int.toNat_natCast, hs31] at hr
  exact hr
theorem info9 : (Ybaf.prog.info? 9).map (fun i => (i.zero, i.size, i.bytes)) = some (some (.string ⟨#[]⟩), 1, 16) := by kernel_rfl
theorem run_make29 (n : Nat) (hn : n ≤ 1024) (w : World) : (Instr.makeSlice 29 (.int .i64 (n : Int)) (.int .i64 (n : Int))).run Ybaf.prog w = .ok (.slice (some ⟨w.heap.size, 0, none⟩) n n) (w.alloc (.cells (madeCells #[.string ⟨#[]⟩] n) 9)) :=
  run_make_row' 29 9 (.string ⟨#[]⟩) 16 Ybaf.underlying29 info9 rfl .i64 .i64 n (by omega) (by omega) w

theorem builtAt_zero (w : World) (V : VT) (n : Nat) : (w.alloc (.cells (madeCells #[.int .i64 0, .int .i64 0, .string ⟨#[]⟩, .pointer none, .slice none 0 0] (n * 5)) 31)).rowIs w.heap.size 31 (n * 5) (builtAt V 0) := by
  refine ⟨_, World.alloc_heap_new _ _, size_madeCells _ _, fun i hi => ?_⟩
  simp only [madeCells, builtAt, Nat.not_lt_zero, if_false]
  rw [Array.getElem?_map, Array.getElem?_range, if_pos hi]
  have h5 : i % 5 < 5 := Nat.mod_lt _ (by decide)
  simp only [Option.map_some]
  congr 1
  have : (#[Value.int .i64 0, .int .i64 0, .string ⟨#[]⟩, .pointer none, .slice none 0 0] : Array Value).size = 5 := rfl
  rw [this]
  generalize i % 5 = r at h5
  match r, h5 with
  | 0, _ => rfl
  | 1, _ => rfl
  | 2, _ => rfl
  | 3, _ => rfl
  | 4, _ => rfl

/-- V with a new value at k. -/
def VT.upd (V : VT) (k : Nat) (x : Option Addr × Option Addr × Nat × Nat) : VT := fun j => if j = k then x else V j

theorem builtAt_succ {w : World} {bb n k : Nat} {V : VT} (h : w.rowIs bb 31 (n * 5) (builtAt V k)) (x : Option Addr × Option Addr × Nat × Nat) :
    (((((w.setCell ⟨bb, k * 5, none⟩ (.int .i64 ((k : Int) + 1))).setCell ⟨bb, k * 5 + 1, none⟩ (.int .i64 ((k : Int) + 2))).setCell ⟨bb, k * 5 + 2, none⟩ (.string ⟨#[116]⟩)).setCell ⟨bb, k * 5 + 3, none⟩ (.pointer x.1)).setCell ⟨bb, k * 5 + 4, none⟩ (.slice x.2.1 x.2.2.1 x.2.2.2)).rowIs bb 31 (n * 5) (builtAt (V.upd k x) (k + 1)) := by
  refine (((((h.set (k * 5) _).set (k * 5 + 1) _).set (k * 5 + 2) _).set (k * 5 + 3) _).set (k * 5 + 4) _).congr ?_
  intro c hc
  have h5 : c % 5 < 5 := Nat.mod_lt _ (by decide)
  have hd : c = 5 * (c / 5) + c % 5 := (Nat.div_add_mod c 5).symm
  by_cases e : c / 5 = k
  · have e1 : c = k * 5 + c % 5 := by omega
    simp only [builtAt, e, Nat.lt_succ_self, if_true]
    generalize c % 5 = r at h5 e1
    match r, h5 with
    | 0, _ => simp [e1, recCell]
    | 1, _ => simp [e1, recCell]
    | 2, _ => simp [e1, recCell]
    | 3, _ => simp [e1, recCell, VT.upd]
    | 4, _ => simp [e1, recCell, VT.upd]
  · have n0 : c ≠ k * 5 := by omega
    have n1 : c ≠ k * 5 + 1 := by omega
    have n2 : c ≠ k * 5 + 2 := by omega
    have n3 : c ≠ k * 5 + 3 := by omega
    have n4 : c ≠ k * 5 + 4 := by omega
    simp only [n0, n1, n2, n3, n4, if_false, builtAt]
    by_cases hl : c / 5 < k
    · rw [if_pos hl, if_pos (by omega)]
      generalize c % 5 = r
      match r with
      | 0 => rfl
      | 1 => rfl
      | 2 => rfl
      | 3 => simp [recCell, VT.upd, e]
      | r + 4 => simp [recCell, VT.upd, e]
    · rw [if_neg hl, if_neg (by omega)]

theorem built_cells {w : World} {bb n : Nat} {V : VT} (h : w.rowIs bb 31 (n * 5) (builtAt V n)) (j : Nat) (hj : j < n) :
    w.cell? ⟨bb, j * 5, none⟩ = some (.int .i64 ((j : Int) + 1)) ∧ w.cell? ⟨bb, j * 5 + 1, none⟩ = some (.int .i64 ((j : Int) + 2)) ∧ w.cell? ⟨bb, j * 5 + 2, none⟩ = some (.string ⟨#[116]⟩) ∧ w.cell? ⟨bb, j * 5 + 3, none⟩ = some (.pointer (V j).1) ∧ w.cell? ⟨bb, j * 5 + 4, none⟩ = some (.slice (V j).2.1 (V j).2.2.1 (V j).2.2.2) := by
  have hc : ∀ q, q < 5 → w.cell? ⟨bb, j * 5 + q, none⟩ = some (recCell V j q) := fun q hq => by
    rw [h.cell (by omega)]
    have e1 : (j * 5 + q) / 5 = j := by omega
    have e2 : (j * 5 + q) % 5 = q := by omega
    simp only [builtAt, e1, e2, hj, if_true]
  exact ⟨hc 0 (by decide), hc 1 (by decide), hc 2 (by decide), hc 3 (by decide), hc 4 (by decide)⟩

theorem LookOK.same {lo hi : Nat} {w w' : World} {rv : Value} {v : ByteArray} {ok : Bool} (h : LookOK lo hi w rv v ok) (hs : ∀ k, lo ≤ k → k < hi → w'.heap[k]? = w.heap[k]?) : LookOK lo hi w' rv v ok :=
  fun W hW => h W (fun k h1 h2 => (hW k h1 h2).trans (hs k h1 h2))
end Go.Proofs.YbulkckseFmt
