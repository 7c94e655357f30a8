import Derived.Test.YbulkckseFmtErrf
import Derived.Laws.ResultCell
import Derived.Laws.Rows
namespace Go.Proofs.YbulkckseFmt
open Go Go.RowKit Go.Maps Go.Stop

theorem results_cell_row_tmp {P : Program} {fn : Func} {p u : Tmp} {ty : TypeId} (h : fn.results = #[.cell p ty, .tmp u]) (tmps : Array Value) (w : World) (g : Nat) (t : TypeId) (cs : Array Value) (fr : Nat × Nat) (d : TypeDesc)
    (hp : tmps.getD p undef = .pointer (some ⟨g, 0, none⟩)) (hg : w.heap[g]? = some (.cells cs t fr))
    (hu : P.underlying ty = some d) (hd : (match d with | .struct _ | .array _ _ => true | _ => false) = true) (hi : (P.info? ty).map (·.size) = some cs.size) :
    (results fn tmps).run P w = .ok (.tuple #[.agg cs, tmps.getD u undef]) w := by
  rw [results_cell_tmp h, hp]
  simp [asAddr, run_loadVar_row w g t ty cs fr d hg hu hd hi, Result.andThen]

set_option maxRecDepth 100000 in
set_option maxHeartbeats 1000000 in
/-- RestrictField$1 at a record that has the field: the record, nil. -/
theorem f15_hit (bN : Nat) (nr ln : Int) (text v : ByteArray) (p a : Option Addr) (l c : Nat) (W : World) (hN : Boxed W bN 9 (.string sK))
    (hlook : ∀ W', Below W.heap.size W W' → Calls Ybaf.prog 16 #[recV nr ln text p (.slice a l c), .string sK] W' fun e W2 => e = .returned (.tuple #[.string v, .bool true]) ∧ Below W'.heap.size W' W2) :
    Calls Ybaf.prog 15 #[recV nr ln text p (.slice a l c), .pointer (some ⟨bN, 0, none⟩)] W fun e W' => e = .returned (.tuple #[recV nr ln text p (.slice a l c), .nilIface]) ∧ Below W.heap.size W W' := by
  obtain ⟨W1, hW1⟩ : ∃ W1, W1 = (W.alloc (.cells #[.int .i64 nr, .int .i64 ln, .string text, .pointer p, .slice a l c] 31)).alloc (.cells #[.int .i64 0, .int .i64 0, .string ⟨#[]⟩, .pointer none, .slice none 0 0] 31) := ⟨_, rfl⟩
  have hB1 : Below W.heap.size W W1 := by rw [hW1]; exact ((Below.refl _ W).alloc (Nat.le_refl _) _).alloc (by simp) _
  have r0 : W1.heap[W.heap.size]? = some (.cells #[.int .i64 nr, .int .i64 ln, .string text, .pointer p, .slice a l c] 31 (0, 0)) := by rw [hW1]; exact heap_up (World.alloc_heap_new _ _) _
  have r1 : W1.heap[W.heap.size + 1]? = some (.cells #[.int .i64 0, .int .i64 0, .string ⟨#[]⟩, .pointer none, .slice none 0 0] 31 (0, 0)) := by rw [hW1]; exact heap_new _ _ (by simp)
  have cN : W1.cell? ⟨bN, 0, none⟩ = some (.string sK) := (hB1.cell (p := ⟨bN, 0, none⟩) hN.lt).trans hN.cell
  have hl := hlook W1 hB1
  clear hN hlook
  go_enter Ybaf.func15, Ybaf.ntmps15
  rw [hW1] at cN hl
  go_wp2_with fail
  refine hl.mono ?_
  rw [← hW1]
  rintro e W2 ⟨rfl, hB2⟩
  have l1 : W.heap.size + 1 < W1.heap.size := (Array.getElem?_eq_some_iff.1 r1).1
  have q0 := (hB2.block _ (by omega)).trans r0
  have q1 := (hB2.block _ l1).trans r1
  have hB := hB1.trans (hB2.mono (by omega))
  have c0 : W2.cell? ⟨W.heap.size, 0, none⟩ = some (.int .i64 nr) := cell_of q0 rfl
  have c1 : W2.cell? ⟨W.heap.size, 1, none⟩ = some (.int .i64 ln) := cell_of q0 rfl
  have c2 : W2.cell? ⟨W.heap.size, 2, none⟩ = some (.string text) := cell_of q0 rfl
  have c3 : W2.cell? ⟨W.heap.size, 3, none⟩ = some (.pointer p) := cell_of q0 rfl
  have c4 : W2.cell? ⟨W.heap.size, 4, none⟩ = some (.slice a l c) := cell_of q0 rfl
  have d0 : W2.cell? ⟨W.heap.size + 1, 0, none⟩ = some (.int .i64 0) := cell_of q1 rfl
  have d1 : W2.cell? ⟨W.heap.size + 1, 1, none⟩ = some (.int .i64 0) := cell_of q1 rfl
  have d2 : W2.cell? ⟨W.heap.size + 1, 2, none⟩ = some (.string ⟨#[]⟩) := cell_of q1 rfl
  have d3 : W2.cell? ⟨W.heap.size + 1, 3, none⟩ = some (.pointer none) := cell_of q1 rfl
  have d4 : W2.cell? ⟨W.heap.size + 1, 4, none⟩ = some (.slice none 0 0) := cell_of q1 rfl
  have fz := fun i => frozen_of q1 i
  have Q1 : Hid (W2.heap[W.heap.size + 1]? = some (.cells #[.int .i64 0, .int .i64 0, .string ⟨#[]⟩, .pointer none, .slice none 0 0] 31 (0, 0))) := q1
  clear r0 r1 q0 q1 hl cN hB2 hB1 hW1
  go_wp2_with fail
  have k5 := heap_set (heap_set (heap_set (heap_set (heap_set Q1.out 0 (.int .i64 nr)) 1 (.int .i64 ln)) 2 (.string text)) 3 (.pointer p)) 4 (.slice a l c)
  refine bodyPost_ret (results_cell_row_tmp rfl _ _ (W.heap.size + 1) 31 _ (0, 0) _ rfl k5 Ybaf.underlying31 rfl (by kernel_rfl)) rfl ?_
  exact ⟨rfl, ((((hB.setCell (by simp) _).setCell (by simp) _).setCell (by simp) _).setCell (by simp) _).setCell (by simp) _⟩

abbrev zeroRec : Value := recV 0 0 ⟨#[]⟩ none (.slice none 0 0)

set_option maxRecDepth 100000 in
set_option maxHeartbeats 1000000 in
/-- RestrictField$1 at a record that lacks the field: the zero record, a new error that wraps ErrNoField. -/
theorem f15_miss (F : Interp) (bN : Nat) (nr ln : Int) (text s : ByteArray) (p a : Option Addr) (l c : Nat) (aE : Addr) (W : World) (hF : F.answers W.tape) (hN : Boxed W bN 9 (.string sK))
    (hE : W.cell? ⟨0, 0, none⟩ = some (.iface 49 (.pointer (some aE)))) (hS : W.cell? aE = some (.string s))
    (hlook : ∀ W', Below W.heap.size W W' → Calls Ybaf.prog 16 #[recV nr ln text p (.slice a l c), .string sK] W' fun e W2 => e = .returned (.tuple #[.string ⟨#[]⟩, .bool false]) ∧ Below W'.heap.size W' W2) :
    Calls Ybaf.prog 15 #[recV nr ln text p (.slice a l c), .pointer (some ⟨bN, 0, none⟩)] W fun e W' => ∃ be t, e = .returned (.tuple #[zeroRec, .iface 76 (.pointer (some ⟨be, 0, none⟩))]) ∧ W.heap.size ≤ be ∧ W'.heap[be]? = some (.cells #[.string t, .iface 49 (.pointer (some aE))] 117 (0, 0)) ∧ Below W.heap.size W W' := by
  obtain ⟨W1, hW1⟩ : ∃ W1, W1 = (W.alloc (.cells #[.int .i64 nr, .int .i64 ln, .string text, .pointer p, .slice a l c] 31)).alloc (.cells #[.int .i64 0, .int .i64 0, .string ⟨#[]⟩, .pointer none, .slice none 0 0] 31) := ⟨_, rfl⟩
  have hB1 : Below W.heap.size W W1 := by rw [hW1]; exact ((Below.refl _ W).alloc (Nat.le_refl _) _).alloc (by simp) _
  have r1 : W1.heap[W.heap.size + 1]? = some (.cells #[.int .i64 0, .int .i64 0, .string ⟨#[]⟩, .pointer none, .slice none 0 0] 31 (0, 0)) := by rw [hW1]; exact heap_new _ _ (by simp)
  have cN : W1.cell? ⟨bN, 0, none⟩ = some (.string sK) := (hB1.cell (p := ⟨bN, 0, none⟩) hN.lt).trans hN.cell
  have hl := hlook W1 hB1
  have hbN := hN.lt
  have hcN := hN.cell
  have hE0 := lt_of_cell hE
  have hS0 := lt_of_cell hS
  clear hN hlook
  go_enter Ybaf.func15, Ybaf.ntmps15
  rw [hW1] at cN hl
  go_wp2_with fail
  refine hl.mono ?_
  rw [← hW1]
  rintro e W2 ⟨rfl, hB2⟩
  have l1 : W.heap.size + 1 < W1.heap.size := (Array.getElem?_eq_some_iff.1 r1).1
  have q1 := (hB2.block _ l1).trans r1
  have hB := hB1.trans (hB2.mono (by omega))
  have cN2 : W2.cell? ⟨bN, 0, none⟩ = some (.string sK) := (hB.cell (p := ⟨bN, 0, none⟩) hbN).trans hcN
  have cE2 : W2.cell? ⟨0, 0, none⟩ = some (.iface 49 (.pointer (some aE))) := (hB.cell (p := ⟨0, 0, none⟩) hE0).trans hE
  have cS2 : W2.cell? aE = some (.string s) := (hB.cell (p := aE) hS0).trans hS
  have hF2 : F.answers W2.tape := by rw [hB.tape]; exact hF
  have Q1 : Hid (W2.heap[W.heap.size + 1]? = some (.cells #[.int .i64 0, .int .i64 0, .string ⟨#[]⟩, .pointer none, .slice none 0 0] 31 (0, 0))) := q1
  clear r1 q1 hl cN hB2 hB1 hW1
  go_wp2_with fail
  have hsz := hB.size
  have lS := lt_of_cell cS2
  have hw3 : Below W2.heap.size W2 (W2.alloc (.cells #[.iface 49 (.pointer (some aE)), .iface 9 (.string sK)] 20)) := (Below.refl _ W2).alloc (Nat.le_refl _) _
  refine (errorf_any F s sK W2.heap.size aE (W2.alloc (.cells #[.iface 49 (.pointer (some aE)), .iface 9 (.string sK)] 20)) hF2 (cell_of (World.alloc_heap_new _ _) rfl) (cell_of (World.alloc_heap_new _ _) rfl) ((hw3.cell (p := aE) lS).trans cS2)).mono ?_
  rintro e W4 ⟨rfl, t, rfl⟩
  have l1 := (Array.getElem?_eq_some_iff.1 Q1.out).1
  have q1 : ((W2.alloc (.cells #[.iface 49 (.pointer (some aE)), .iface 9 (.string sK)] 20)).alloc (.cells #[.string t, .iface 49 (.pointer (some aE))] 117)).drew.heap[W.heap.size + 1]? = some (.cells #[.int .i64 0, .int .i64 0, .string ⟨#[]⟩, .pointer none, .slice none 0 0] 31 (0, 0)) := heap_up (heap_up Q1.out _) _
  have qe : ((W2.alloc (.cells #[.iface 49 (.pointer (some aE)), .iface 9 (.string sK)] 20)).alloc (.cells #[.string t, .iface 49 (.pointer (some aE))] 117)).drew.heap[W2.heap.size + 1]? = some (.cells #[.string t, .iface 49 (.pointer (some aE))] 117 (0, 0)) := heap_new _ _ (by simp)
  have hB4 : Below W.heap.size W ((W2.alloc (.cells #[.iface 49 (.pointer (some aE)), .iface 9 (.string sK)] 20)).alloc (.cells #[.string t, .iface 49 (.pointer (some aE))] 117)).drew := ((hB.alloc hsz _).alloc (by simp; omega) _).drew
  rw [World.size_alloc]
  generalize ((W2.alloc (.cells #[.iface 49 (.pointer (some aE)), .iface 9 (.string sK)] 20)).alloc (.cells #[.string t, .iface 49 (.pointer (some aE))] 117)).drew = W4 at q1 qe hB4 ⊢
  have d0 : W4.cell? ⟨W.heap.size + 1, 0, none⟩ = some (.int .i64 0) := cell_of q1 rfl
  have d1 : W4.cell? ⟨W.heap.size + 1, 1, none⟩ = some (.int .i64 0) := cell_of q1 rfl
  have d2 : W4.cell? ⟨W.heap.size + 1, 2, none⟩ = some (.string ⟨#[]⟩) := cell_of q1 rfl
  have d3 : W4.cell? ⟨W.heap.size + 1, 3, none⟩ = some (.pointer none) := cell_of q1 rfl
  have d4 : W4.cell? ⟨W.heap.size + 1, 4, none⟩ = some (.slice none 0 0) := cell_of q1 rfl
  have fz := fun i => frozen_of q1 i
  have Q4 : Hid (W4.heap[W.heap.size + 1]? = some (.cells #[.int .i64 0, .int .i64 0, .string ⟨#[]⟩, .pointer none, .slice none 0 0] 31 (0, 0))) := q1
  have QE : Hid (W4.heap[W2.heap.size + 1]? = some (.cells #[.string t, .iface 49 (.pointer (some aE))] 117 (0, 0))) := qe
  have hne : W2.heap.size + 1 ≠ W.heap.size + 1 := by omega
  clear q1 qe Q1 hw3 cN2 cE2 cS2
  go_wp2_with fail
  have k5 := heap_set (heap_set (heap_set (heap_set (heap_set Q4.out 0 (.int .i64 0)) 1 (.int .i64 0)) 2 (.string ⟨#[]⟩)) 3 (.pointer none)) 4 (.slice none 0 0)
  refine bodyPost_ret (results_cell_row_tmp rfl _ _ (W.heap.size + 1) 31 _ (0, 0) _ rfl k5 Ybaf.underlying31 rfl (by kernel_rfl)) rfl ?_
  exact ⟨W2.heap.size + 1, t, rfl, by omega, heap_set_other (heap_set_other (heap_set_other (heap_set_other (heap_set_other QE.out hne _ _) hne _ _) hne _ _) hne _ _) hne _ _, ((((hB4.setCell (by simp) _).setCell (by simp) _).setCell (by simp) _).setCell (by simp) _).setCell (by simp) _⟩
end Go.Proofs.YbulkckseFmt
