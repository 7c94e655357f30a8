import Derived.Test.YbulkckseFmtF15
namespace Go.Proofs.YbulkckseFmt
open Go Go.RowKit Go.Maps Go.Stop

theorem assert_rec (v : Value) (w : World) : (Instr.typeAssert (.iface 31 v) 20 31 true).run Ybaf.prog w = .ok (.tuple #[v, .bool true]) w := by kernel_rfl

set_option maxRecDepth 100000 in
set_option maxHeartbeats 1000000 in
/-- stepError of a Record: a new *RecordError. -/
theorem step_any (pos nr ln : Int) (text : ByteArray) (p a : Option Addr) (l c : Nat) (te : TypeId) (ve : Value) (W : World) :
    Calls Ybaf.prog 23 #[.int .i64 pos, recV nr ln text p (.slice a l c), .iface te ve] W fun e W' => ∃ b, e = .returned (.iface 41 (.pointer (some ⟨b, 0, none⟩))) ∧ W.heap.size ≤ b ∧ W'.heap[b]? = some (.cells #[.int .i64 nr, .int .i64 ln, .iface te ve] 44 (0, 0)) ∧ Below W.heap.size W W' := by
  have has := assert_rec
  go_enter Ybaf.func23, Ybaf.ntmps23
  go_wp2_with fail
  go_ret
  exact ⟨W.heap.size + 1 + 1, rfl, by omega, heap_new _ _ (by simp), (((Below.refl _ W).alloc (Nat.le_refl _) _).alloc (by simp) _).alloc (by simp; omega) _⟩
end Go.Proofs.YbulkckseFmt
