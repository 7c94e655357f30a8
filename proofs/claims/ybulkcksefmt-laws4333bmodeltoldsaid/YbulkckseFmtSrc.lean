import Derived.Test.YbulkckseFmtRange
import Derived.Test.YbulkckseFmtRest
import Derived.Shelf.Abstract
import Derived.Shelf.RegionOpen
import Derived.OwnWalkIn
import Derived.TacticsInMore
import Derived.LoopNIn
import Derived.LoopIn
namespace Go.Proofs.YbulkckseFmt
open Go Go.RowKit Go.Maps Go.Stop Go.Shelf
attribute [local go_sem] Oper.semAt_some

/-- One entry of the law's first argument. -/
structure RC where
  has : Bool
  wide : Bool
  val : Int
  fail : Bool

/-- What stands fast while the stream runs. -/
structure Stat (n : Nat) (R : Nat → RC) (ra : Option Addr) (rcap bRecs bErr bB bb : Nat) (aS : Addr) (V : Nat → Option Addr × Option Addr × Nat × Nat) (W : World) : Prop where
  recs : Boxed W bRecs 22 (.slice ra n rcap)
  row : ∀ j, j < n → ∃ br off, ra = some ⟨br, off, none⟩ ∧ W.cell? ⟨br, off + j * 4, none⟩ = some (.bool (R j).has) ∧ W.cell? ⟨br, off + j * 4 + 1, none⟩ = some (.bool (R j).wide) ∧ W.cell? ⟨br, off + j * 4 + 2, none⟩ = some (.int .u8 (R j).val) ∧ W.cell? ⟨br, off + j * 4 + 3, none⟩ = some (.bool (R j).fail)
  err : Boxed W bErr 25 (.iface 49 (.pointer (some aS)))
  built : Boxed W bB 27 (.slice (some ⟨bb, 0, none⟩) n n)
  brow : ∀ j, j < n → W.cell? ⟨bb, j * 5, none⟩ = some (.int .i64 ((j : Int) + 1)) ∧ W.cell? ⟨bb, j * 5 + 1, none⟩ = some (.int .i64 ((j : Int) + 2)) ∧ W.cell? ⟨bb, j * 5 + 2, none⟩ = some (.string ⟨#[116]⟩) ∧ W.cell? ⟨bb, j * 5 + 3, none⟩ = some (.pointer (V j).1) ∧ W.cell? ⟨bb, j * 5 + 4, none⟩ = some (.slice (V j).2.1 (V j).2.2.1 (V j).2.2.2)

def recOf (V : Nat → Option Addr × Option Addr × Nat × Nat) (j : Nat) : Value := recV ((j : Int) + 1) ((j : Int) + 2) ⟨#[116]⟩ (V j).1 (.slice (V j).2.1 (V j).2.2.1 (V j).2.2.2)

def srcArgs (R : Nat → RC) (aS : Addr) (V : Nat → Option Addr × Option Addr × Nat × Nat) (j : Nat) : Array Value :=
  if (R j).fail then #[recV ((j : Int) + 1) 0 ⟨#[]⟩ none (.slice none 0 0), .iface 49 (.pointer (some aS))] else #[recOf V j, .nilIface]

abbrev srcCaps (bRecs bP bErr bB : Nat) : Array Value := #[.pointer (some ⟨bRecs, 0, none⟩), .pointer (some ⟨bP, 0, none⟩), .pointer (some ⟨bErr, 0, none⟩), .pointer (some ⟨bB, 0, none⟩)]

set_option maxRecDepth 100000 in
set_option maxHeartbeats 2000000 in
theorem src_free (F : Fence) (nF : Nat) (h6 : F.fn 6) (hro : F.round = none) (hn : 1 ≤ nF) (n : Nat) (hmax : n ≤ 1024) (R : Nat → RC) (ra : Option Addr) (rcap bRecs bErr bB bb bP : Nat) (aS : Addr) (V : Nat → Option Addr × Option Addr × Nat × Nat)
    (l D : Nat) (hl : l ≠ bP) (hD : D ≠ bP) (A B X : Nat → World → Prop)
    (hB : ∀ i W, B i W → Stat n R ra rcap bRecs bErr bB bb aS V W ∧ Boxed W bP 3 (.int .i64 i))
    (hA : ∀ i W, i < n → B i W → A i (W.setCell ⟨bP, 0, none⟩ (.int .i64 ((i : Int) + 1))) ∧ Stat n R ra rcap bRecs bErr bB bb aS V (W.setCell ⟨bP, 0, none⟩ (.int .i64 ((i : Int) + 1)))) :
    SeqFree F nF Ybaf.prog 6 (srcCaps bRecs bP bErr bB) l D (srcArgs R aS V) (B 0) A (fun i => B (i + 1)) X (B n) := by
  intro Ry Rn hRy hRn hY W h0 hR0
  have cr := (hB 0 W h0).1.recs.cell
  refine callsIn_of_wp Ybaf.func6 rfl h6 ?_ hro
  simp only [Ybaf.ntmps6, List.size_toArray, List.length_cons, List.length_nil, Nat.reduceAdd, Nat.reduceSub, Array.replicate_succ, Array.replicate_zero, List.push_toArray, List.append_toArray, List.nil_append, List.cons_append]
  gi_wp2
  gi_loopw [9] (fun i wr => ∃ k : Nat, k ≤ n ∧ i = .int .i64 k ∧ B k wr ∧ Ry wr) (fun i _ => n - (intOf i).toNat)
  case atStart => exact ⟨0, Nat.zero_le _, rfl, h0, hR0⟩
  case round =>
    obtain ⟨k, hk, rfl, hBk, hRk⟩ := hrel
    obtain ⟨hS, hP⟩ := hB k wr hBk
    by_cases hlt : k < n
    · obtain ⟨hAk, hS1⟩ := hA k wr hlt hBk
      have hRk1 : Ry (wr.setCell ⟨bP, 0, none⟩ (.int .i64 ((k : Int) + 1))) := hRy _ _ (Below.heap_setCell _ _ _ _ hl) (Below.heap_setCell _ _ _ _ hD) hRk
      have hy0 := hY k _ hAk hRk1
      have cP := hP.cell
      have fP := hP.frozen
      obtain ⟨br, off, rfl, q0, q1, q2, q3⟩ := hS1.row k hlt
      have c1 := hS1.recs.cell
      have c2 := hS1.err.cell
      have c3 := hS1.built.cell
      obtain ⟨p0, p1, p2, p3, p4⟩ := hS1.brow k hlt
      cases hf : (R k).fail
      · simp only [srcArgs, hf, recOf, Bool.false_eq_true, if_false] at hy0
        rw [hf] at q3
        obtain ⟨fn, tmps, assign, body, hy, hR⟩ := hy0
        clear q0 q1 q2 hS hP hS1 hAk hRk1
        gi_wp2
        refine hR.mono ?_
        clear hy hR
        rintro e W3 (⟨rfl, hB3, hR3⟩ | ⟨rfl, hX3, hR3⟩)
        · gi_wp2
          go_roundw
          case rel => exact ⟨k + 1, by omega, by simp, hB3, hR3⟩
          case measure => simp [intOf]; omega
        · gi_wp2
          refine bodyPost_ret (results_none rfl _ _ _) rfl ?_
          exact ⟨⟨_, rfl⟩, .inr ⟨k, hX3, hR3⟩⟩
      · simp only [srcArgs, hf, if_true] at hy0
        rw [hf] at q3
        obtain ⟨fn, tmps, assign, body, hy, hR⟩ := hy0
        clear q0 q1 q2 hS hP hS1 hAk hRk1
        gi_wp2
        refine hR.mono ?_
        clear hy hR
        rintro e W3 (⟨rfl, hB3, hR3⟩ | ⟨rfl, hX3, hR3⟩)
        · gi_wp2
          go_roundw
          case rel => exact ⟨k + 1, by omega, by simp, hB3, hR3⟩
          case measure => simp [intOf]; omega
        · gi_wp2
          refine bodyPost_ret (results_none rfl _ _ _) rfl ?_
          exact ⟨⟨_, rfl⟩, .inr ⟨k, hX3, hR3⟩⟩
    · obtain rfl : k = n := by omega
      gi_wp2
      go_end0
      exact ⟨⟨_, rfl⟩, .inl ⟨hBk, hRk⟩⟩
end Go.Proofs.YbulkckseFmt
