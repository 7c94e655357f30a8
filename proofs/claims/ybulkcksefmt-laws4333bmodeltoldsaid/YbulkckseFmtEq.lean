import Derived.Test.YbulkckseFmtFx
import Derived.LaidEql
import Derived.LaidEqlPtr
import Derived.Lib.Builder
namespace Go.Proofs.YbulkckseFmt
open Go Go.RowKit Go.Maps Go.Stop

theorem neq28_same (p : Option Addr) (w : World) : (binOp .neq 28 (.pointer p) (.pointer p)).run Ybaf.prog w = .ok (.bool false) w := by
  cases p with
  | none => kernel_rfl
  | some a =>
    obtain ⟨j, hj, _⟩ := Option.map_eq_some_iff.1 (show (Ybaf.prog.info? 69).map (·.size) = some 3 by kernel_rfl)
    exact Lib.run_neq_ptr_same w a Ybaf.underlying28 hj
theorem assert41 (v : Value) (w : World) : (Instr.typeAssert (.iface 41 v) 25 41 true).run Ybaf.prog w = .ok (.tuple #[v, .bool true]) w := by kernel_rfl
theorem neq25_same (a : Addr) (w : World) : (binOp .neq 25 (.iface 49 (.pointer (some a))) (.iface 49 (.pointer (some a)))).run Ybaf.prog w = .ok (.bool false) w := by
  obtain ⟨i, hi, hcmp⟩ := Option.map_eq_some_iff.1 isComp
  obtain ⟨j, hj, hjs⟩ := Option.map_eq_some_iff.1 isSize
  have heq := run_eql_iface_ptr_same (P := Ybaf.prog) w a Ybaf.underlying25 Ybaf.underlying49 hi hcmp hj
  simp only [binOp, Sem.run_bind] at heq ⊢
  cases h : (Op.equal 25 (.iface 49 (.pointer (some a))) (.iface 49 (.pointer (some a)))).run Ybaf.prog w with
  | ok b w' =>
    rw [h] at heq
    simp [Result.andThen] at heq
    simp [Result.andThen, heq]
  | halt x w' =>
    rw [h] at heq
    simp [Result.andThen] at heq
end Go.Proofs.YbulkckseFmt
