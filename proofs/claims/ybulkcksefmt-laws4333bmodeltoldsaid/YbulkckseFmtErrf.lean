/- The closed facts for fmt's front at this program (after the kit's own print for other programs), and fmt.Errorf of ErrNoField and the name k. -/
import Derived.Test.YbulkckseFmtKeep
import Derived.Stop.CallBack
import Derived.Stop.IfaceNil
import Derived.WalkSpells
import GoSem.ClaimData
namespace Go.Proofs
open Go.Extern.Stop Go.Stop Go.Extern

theorem Ybaf.call26 (args : Array Value) (w : World) : (callFunc 26 args).run Ybaf.prog w = (FmtCalls.errorf #[9, 75] #[25] args).run Ybaf.prog w :=
  run_callFunc_next Ybaf.func26 (by kernel_rfl) (by kernel_rfl) (by kernel_rfl) args w
theorem Ybaf.guard (name : String) (w : World) : (FmtStop.guard name).run Ybaf.prog w = .ok () w := by kernel_rfl
theorem Ybaf.nextTurns : Extern.next FmtCalls.turnsRow = some (FmtCalls.begun #[] #[]) := by kernel_rfl
theorem Ybaf.fmt0 : FmtStop.printed? ⟨#[37, 119, 58, 32, 37, 113]⟩ 2 = some [(0, 119, false), (1, 113, false)] := by kernel_rfl
theorem Ybaf.fmt0r (w : World) : (FmtDoors.printed ⟨#[37, 119, 58, 32, 37, 113]⟩ 2).run Ybaf.prog w = .ok [(0, 119, false), (1, 113, false)] w := by kernel_rfl
def Ybaf.shape9 : List UInt8 := [12, 6, 0, 0, 0, 0, 0, 0, 0, 115, 116, 114, 105, 110, 103]
theorem Ybaf.act9_113w (name : String) (x : Value) (w : World) : (FmtCalls.act name true 113 false (.iface 9 x)).run Ybaf.prog w = .ok (.closed true) w := by kernel_rfl
theorem Ybaf.op9_113w (name : String) (x : ByteArray) (w : World) : (FmtStop.operand name true 113 false (.iface 9 (.string x))).run Ybaf.prog w = .ok (Ybaf.shape9, FmtStop.pack x.data.toList) w := by kernel_rfl
theorem Ybaf.act49_119w (name : String) (x : Value) (w : World) : (FmtCalls.act name true 119 false (.iface 49 x)).run Ybaf.prog w = .ok (.closed true) w := by kernel_rfl
theorem Ybaf.ptr49 (w : World) : (FmtStop.ptrTo "errors.errorString").run Ybaf.prog w = .ok 49 w := by kernel_rfl
theorem Ybaf.elem49 (w : World) : (elemOf 49).run Ybaf.prog w = .ok 51 w := by kernel_rfl
theorem Ybaf.isError49 (w : World) : (FmtDoors.textMethod 49 "Error").run Ybaf.prog w = .ok true w := by kernel_rfl
theorem Ybaf.ptr76 (w : World) : (FmtStop.ptrTo "fmt.wrapError").run Ybaf.prog w = .ok 76 w := by kernel_rfl
theorem Ybaf.elem76 (w : World) : (elemOf 76).run Ybaf.prog w = .ok 117 w := by kernel_rfl
theorem Ybaf.opPlain49_119w (name : String) (a : Addr) (s : ByteArray) (w : World) (hc : w.cell? a = some (.string s)) :
    ∃ p : List UInt8, (FmtStop.operand name true 119 false (.iface 49 (.pointer (some a)))).run Ybaf.prog w = .ok (p, s.data.toList) w := by
  obtain ⟨nm, h1⟩ : ∃ nm : String, (typeStr 49).run Ybaf.prog w = .ok nm w := ⟨"".push '*' ++ "errors.errorString", by kernel_rfl⟩
  have d2 : Ybaf.t49.desc = .pointer 51 := rfl
  have d3 : Ybaf.t51.desc = .named "errors.errorString" 50 := rfl
  refine ⟨14 :: FmtStop.pack nm.toUTF8.data.toList, ?_⟩
  simp [FmtStop.operand, h1, d2, d3, run_load, hc]

namespace YbulkckseFmt
open Go Go.RowKit
attribute [local go_sem] Ybaf.call26 Ybaf.guard Ybaf.fmt0 Ybaf.fmt0r Ybaf.act9_113w Ybaf.op9_113w Ybaf.act49_119w Ybaf.ptr49 Ybaf.elem49 Ybaf.isError49 Ybaf.ptr76 Ybaf.elem76

set_option maxRecDepth 100000 in
set_option maxHeartbeats 1000000 in
/-- fmt.Errorf of ErrNoField and the name, the two operands laid at block blk. -/
theorem errorf_any (F : Interp) (s q : ByteArray) (blk : Nat) (a : Addr) (w : World) (hF : F.answers w.tape)
    (hc0 : w.cell? ⟨blk, 0, none⟩ = some (.iface 49 (.pointer (some a)))) (hc1 : w.cell? ⟨blk, 1, none⟩ = some (.iface 9 (.string q))) (ha : w.cell? a = some (.string s)) :
    Calls Ybaf.prog 17 #[.string ⟨#[37, 119, 58, 32, 37, 113]⟩, .slice (some ⟨blk, 0, none⟩) 2 2] w fun e w' =>
      e = .returned (.iface 76 (.pointer (some ⟨w.heap.size, 0, none⟩))) ∧ ∃ t, w' = (w.alloc (.cells #[.string t, .iface 49 (.pointer (some a))] 117)).drew := by
  have hF' := answers_open hF
  obtain ⟨p49, hop⟩ := Ybaf.opPlain49_119w "fmt.errorf" a s _ ha
  go_enter Ybaf.func17, Ybaf.ntmps17
  go_wp2
  apply rows_value Ybaf.nextTurns
  case hr =>
    go_simp
    exact ⟨rfl, rfl⟩
  case h =>
    go_wp2
    go_ret
    exact ⟨rfl, _, rfl⟩
end YbulkckseFmt
end Go.Proofs
