import Derived.Test.YbulkckzeHeap
import Derived.Test.YbulkckzeRing
import Derived.WalkKit
import Derived.WalkSpells
import Derived.WalkSmall
import Derived.OwnWalk
import Derived.Outline
import Derived.RegionTactic
import Derived.BigRegion
import Derived.Lib.Builder
namespace Go.Proofs.Ybulkckze
open Go Go.RowKit

theorem add64 (p q : Nat) {w : World} {n mu : Int} {f l : Option Addr} (h : PoolIs w p q n mu f l) (hn : 1 ≤ n ∧ n ≤ 16) :
    (callFunc 17 #[.pointer (some ⟨p, 190, none⟩), .int .i64 (-1)]).run Yba.prog w = .ok (.value (.int .i64 (n - 1))) (w.setCell ⟨p, 190, none⟩ (.int .i64 (n - 1))) :=
  run_call_add (P := Yba.prog) Yba.func17 (by kernel_rfl) (by kernel_rfl) (by kernel_rfl) .i64 (by kernel_rfl) (y := -1) (s := n - 1) h.n (h.fz _) (by simp [go_sem]; rw [IntKind.wrap_i64]; omega)

theorem ptr_eql_nil (w : World) (a : Addr) : (binOp .eql 45 (.pointer (some a)) (.pointer none)).run Yba.prog w = .ok (.bool false) w := by kernel_rfl
theorem nil_eql_nil (w : World) : (binOp .eql 45 (.pointer none) (.pointer none)).run Yba.prog w = .ok (.bool true) w := by kernel_rfl
theorem ptr_neq_nil (w : World) (a : Addr) : (binOp .neq 45 (.pointer (some a)) (.pointer none)).run Yba.prog w = .ok (.bool true) w := by kernel_rfl
theorem nil_neq_nil (w : World) : (binOp .neq 45 (.pointer none) (.pointer none)).run Yba.prog w = .ok (.bool false) w := by kernel_rfl

set_option maxRecDepth 100000 in
set_option maxHeartbeats 1000000 in
/-- unlink of the only waiter. -/
theorem unlink_last (p q b c : Nat) (n mu : Int) (f l : Option Addr) (w : World) (hp : PoolIs w p q n mu f l) (hn : 1 ≤ n ∧ n ≤ 16) (hw : WaiterIs w b c none none true) (hne : b ≠ p) :
    Calls Yba.prog 13 #[.pointer (some ⟨p, 190, none⟩), .pointer (some ⟨b, 0, none⟩)] w fun e w' => e = .returned (.tuple #[]) ∧
      PoolIs w' p q (n - 1) mu none none ∧ WaiterIs w' b c none none false ∧ Only (fun k => k = p ∨ k = b) w w' := by
  have e1 := hw.prev
  have e2 := hw.next
  have e3 := hw.listed
  have f1 := hw.fz 1
  have f2 := hw.fz 2
  have f3 := hw.fz 3
  have l0 := hp.first
  have l1 := hp.last
  have l4 := hp.n
  have g0 := hp.fz 193
  have g1 := hp.fz 194
  have g4 := hp.fz 190
  have hP := (((((hp.setFirst none).setLast none).setOther hne 1 (.pointer none)).setOther hne 2 (.pointer none)).setOther hne 3 (.bool false))
  have hadd := add64 p q hP hn
  have HP : Hid _ := hP.setN (n - 1)
  have Hw : Hid (WaiterIs w b c none none true) := hw
  clear hp hw hP
  have hnn := nil_eql_nil
  have hpn := ptr_eql_nil
  go_enter Yba.func13, Yba.ntmps13
  go_wp2_with fail
  go_end0
  refine ⟨rfl, HP, ?_, ?_⟩
  · exact heap_set_other (heap_set (heap_set (heap_set (heap_set_other (heap_set_other Hw hne _ _) hne _ _) _ _) _ _) _ _) hne _ _
  · exact ((((((Only.refl _ w).setCell (fun _ => .inl rfl) _).setCell (fun _ => .inl rfl) _).setCell (fun _ => .inr rfl) _).setCell (fun _ => .inr rfl) _).setCell (fun _ => .inr rfl) _).setCell (fun _ => .inl rfl) _

set_option maxRecDepth 100000 in
set_option maxHeartbeats 1000000 in
/-- unlink of the first waiter, another standing behind it. -/
theorem unlink_more (p q b c b2 c2 : Nat) (n mu : Int) (f l : Option Addr) (nx : Option Addr) (w : World) (hp : PoolIs w p q n mu f l) (hn : 1 ≤ n ∧ n ≤ 16)
    (hw : WaiterIs w b c none (some ⟨b2, 0, none⟩) true) (h2 : WaiterIs w b2 c2 (some ⟨b, 0, none⟩) nx true) (hne : b ≠ p) (hne2 : b2 ≠ p) (h12 : b ≠ b2) :
    Calls Yba.prog 13 #[.pointer (some ⟨p, 190, none⟩), .pointer (some ⟨b, 0, none⟩)] w fun e w' => e = .returned (.tuple #[]) ∧
      PoolIs w' p q (n - 1) mu (some ⟨b2, 0, none⟩) l ∧ WaiterIs w' b c none none false ∧ WaiterIs w' b2 c2 none nx true ∧ Only (fun k => k = p ∨ k = b ∨ k = b2) w w' := by
  have e1 := hw.prev
  have e2 := hw.next
  have e3 := hw.listed
  have f1 := hw.fz 1
  have f2 := hw.fz 2
  have f3 := hw.fz 3
  have d1 := h2.prev
  have k1 := h2.fz 1
  have l0 := hp.first
  have l1 := hp.last
  have l4 := hp.n
  have g0 := hp.fz 193
  have g1 := hp.fz 194
  have g4 := hp.fz 190
  have hP := (((((hp.setFirst (some ⟨b2, 0, none⟩)).setOther hne2 1 (.pointer none)).setOther hne 1 (.pointer none)).setOther hne 2 (.pointer none)).setOther hne 3 (.bool false))
  have hadd := add64 p q hP.drew hn
  have HP : Hid _ := (hP.setN (n - 1)).drew
  clear hP
  have Hw : Hid (WaiterIs w b c none (some ⟨b2, 0, none⟩) true) := hw
  have H2 : Hid (WaiterIs w b2 c2 (some ⟨b, 0, none⟩) nx true) := h2
  clear hp hw h2
  have hnn := nil_eql_nil
  have hpn := ptr_eql_nil
  go_enter Yba.func13, Yba.ntmps13
  go_wp2_with fail
  go_region
  go_wp2_with fail
  go_end0
  have h21 : b2 ≠ b := fun h => h12 h.symm
  refine ⟨rfl, HP, ?_, ?_, ?_⟩
  · have hx : WaiterIs _ b c none none false := heap_set_other (heap_set (heap_set (heap_set (heap_set_other (heap_set_other Hw hne 193 (.pointer (some ⟨b2, 0, none⟩))) h12 1 (.pointer none)) 1 (.pointer none)) 2 (.pointer none)) 3 (.bool false)) hne 190 (.int .i64 (n - 1))
    exact hx.drew
  · have hx : WaiterIs _ b2 c2 none nx true := heap_set_other (heap_set_other (heap_set_other (heap_set_other (heap_set (heap_set_other H2 hne2 193 (.pointer (some ⟨b2, 0, none⟩))) 1 (.pointer none)) h21 1 (.pointer none)) h21 2 (.pointer none)) h21 3 (.bool false)) hne2 190 (.int .i64 (n - 1))
    exact hx.drew
  · exact (((((((Only.refl _ w).setCell (fun _ => .inl rfl) _).setCell (fun _ => .inr (.inr rfl)) _).setCell (fun _ => .inr (.inl rfl)) _).setCell (fun _ => .inr (.inl rfl)) _).setCell (fun _ => .inr (.inl rfl)) _).setCell (fun _ => .inl rfl) _).drew
end Go.Proofs.Ybulkckze
