import Derived.Test.YbulkckseIters
namespace Go.Proofs.Ybulkckse
open Go Go.RowKit Go.Shelf
attribute [local go_sem] Oper.semAt_some

/-- THE FIVE CAPTURED VARIABLES of 'LawS4333AStops', laid from block B on: data, m, calls, yields, refused. -/
structure Caps (W : World) (B : Nat) (sv : Value) (m calls yields : Nat) : Prop where
  data : Boxed W B 27 sv
  m : Boxed W (B + 1) 3 (.int .i64 m)
  calls : Boxed W (B + 2) 3 (.int .i64 calls)
  yields : Boxed W (B + 3) 3 (.int .i64 yields)
  refused : Boxed W (B + 4) 3 (.int .i64 0)

theorem Caps.below {W W' : World} {B : Nat} {sv : Value} {m c y : Nat} (h : Caps W B sv m c y) (hb : Below (B + 5) W W') : Caps W' B sv m c y :=
  ⟨(hb.block _ (by omega)).trans h.data, (hb.block _ (by omega)).trans h.m, (hb.block _ (by omega)).trans h.calls, (hb.block _ (by omega)).trans h.yields, (hb.block _ (by omega)).trans h.refused⟩

theorem Caps.setCalls {W : World} {B : Nat} {sv : Value} {m c y : Nat} (h : Caps W B sv m c y) (c' : Nat) : Caps (W.setCell ⟨B + 2, 0, none⟩ (.int .i64 c')) B sv m c' y :=
  ⟨h.data.other (by omega) _, h.m.other (by omega) _, h.calls.set _, h.yields.other (by omega) _, h.refused.other (by omega) _⟩
theorem Caps.setYields {W : World} {B : Nat} {sv : Value} {m c y : Nat} (h : Caps W B sv m c y) (y' : Nat) : Caps (W.setCell ⟨B + 3, 0, none⟩ (.int .i64 y')) B sv m c y' :=
  ⟨h.data.other (by omega) _, h.m.other (by omega) _, h.calls.other (by omega) _, h.yields.set _, h.refused.other (by omega) _⟩

theorem Caps.putObj {W : World} {B : Nat} {sv : Value} {m c y : Nat} (h : Caps W B sv m c y) {l : Nat} (hl : B + 5 ≤ l) (o' : Obj) : Caps (W.putObj l o') B sv m c y :=
  ⟨(World.putObj_heap_other (by omega)).trans h.data, (World.putObj_heap_other (by omega)).trans h.m, (World.putObj_heap_other (by omega)).trans h.calls, (World.putObj_heap_other (by omega)).trans h.yields, (World.putObj_heap_other (by omega)).trans h.refused⟩

abbrev caps9 (B : Nat) : Array Value := #[.pointer (some ⟨B + 2, 0, none⟩), .pointer (some ⟨B + 1, 0, none⟩), .pointer (some ⟨B + 3, 0, none⟩), .pointer (some ⟨B, 0, none⟩), .pointer (some ⟨B + 4, 0, none⟩)]

set_option maxRecDepth 100000 in
set_option maxHeartbeats 2000000 in
theorem iter9 (F : Fence) (n : Nat) (h9 : F.fn 9) (hro : F.round = none) (hn : 1 ≤ n) (B b off len cap m : Nat) (ss : List ByteArray) (hm : m ≤ len) (hmax : len ≤ 1024) (w : World) (hb : b < B)
    (hcaps : Caps w B (.slice (some ⟨b, off, none⟩) len cap) m 0 0)
    (hc : ∀ j, j < len → w.cell? ⟨b, off + j, none⟩ = some (.string (ss[j]?.getD ByteArray.empty))) :
    SeqState F n Yba.prog 9 (caps9 B) (fun x : ByteArray => #[Value.string x]) (B + 5) (fun xs W' => xs = upto (fun j => ss[j]?.getD ByteArray.empty) m ∧ Caps W' B (.slice (some ⟨b, off, none⟩) len cap) m 1 m ∧ Below B w W') m w := by
  intro l J W hW hJs hY h0
  have hC := hcaps.below hW
  have e1 := hC.calls.cell
  have e1f := hC.calls.frozen
  refine callsIn_of_wp Yba.func9 rfl h9 ?_ hro
  simp only [Yba.ntmps9, List.size_toArray, List.length_cons, List.length_nil, Nat.reduceAdd, Nat.reduceSub, Array.replicate_succ, Array.replicate_zero, List.push_toArray, List.append_toArray, List.nil_append, List.cons_append]
  gi_wp2
  gi_loopw [7] (fun i wr => ∃ k : Nat, k ≤ m ∧ i = .int .i64 k ∧ J (upto (fun j => ss[j]?.getD ByteArray.empty) k) wr ∧ Caps wr B (.slice (some ⟨b, off, none⟩) len cap) m 1 k ∧ Below B w wr)
    (fun i _ => m - (intOf i).toNat)
  case atStart => exact ⟨0, Nat.zero_le _, rfl, hJs _ _ _ _ (by omega) h0, hC.setCalls 1, (hW.mono (by omega)).setCell (by simp) _⟩
  case round =>
    obtain ⟨k, hk, rfl, hJk, hCk, hnx⟩ := hrel
    have c1 := hCk.m.cell
    have c2 := hCk.yields.cell
    have c2f := hCk.yields.frozen
    have c3 := hCk.data.cell
    by_cases hlt : k < m
    · have hcx' : wr.cell? ⟨b, off + k, none⟩ = some (.string (ss[k]?.getD ByteArray.empty)) := (hnx.cell (p := ⟨b, off + k, none⟩) hb).trans (hc k (by omega))
      have hCk' := hCk.setYields (k + 1)
      rw [show ((k + 1 : Nat) : Int) = (k : Int) + 1 from rfl] at hCk'
      have hJk' := hJs _ _ (B + 3) (.int .i64 ((k : Int) + 1)) (by omega) hJk
      obtain ⟨fn, tmps, assign, body, hy, hR⟩ := hY _ (ss[k]?.getD ByteArray.empty) _ hJk' (by rw [upto_length]; exact hlt)
      gi_wp2
      refine hR.mono ?_
      rintro e W3 ⟨rfl, hJ3, hk3⟩
      clear hy hR hJk'
      have hB3 : Below B w W3 := (hnx.setCell (p := ⟨B + 3, 0, none⟩) (by simp) (.int .i64 ((k : Int) + 1))).trans (hk3.mono (by omega))
      have hC3 := hCk'.below hk3
      clear hk3 hCk'
      gi_wp2
      go_roundw
      case rel => exact ⟨k + 1, by omega, by simp, by rw [upto_succ]; exact hJ3, hC3, hB3⟩
      case measure => simp [intOf]; omega
    · obtain rfl : k = m := by omega
      gi_wp2
      go_end0
      exact ⟨⟨_, rfl⟩, _, ⟨rfl, hCk, hnx⟩, hJk⟩

set_option maxRecDepth 100000 in
set_option maxHeartbeats 2000000 in
theorem iter9_none (F : Fence) (n : Nat) (h9 : F.fn 9) (hro : F.round = none) (B : Nat) (sv : Value) (w : World)
    (hcaps : Caps w B sv 0 0 0) :
    SeqState F n Yba.prog 9 (caps9 B) (fun x : ByteArray => #[Value.string x]) (B + 5) (fun xs W' => xs = [] ∧ Caps W' B sv 0 1 0 ∧ Below B w W') 0 w := by
  intro l J W hW hJs hY h0
  have hC := hcaps.below hW
  have e1 := hC.calls.cell
  have e1f := hC.calls.frozen
  refine callsIn_of_wp Yba.func9 rfl h9 ?_ hro
  simp only [Yba.ntmps9, List.size_toArray, List.length_cons, List.length_nil, Nat.reduceAdd, Nat.reduceSub, Array.replicate_succ, Array.replicate_zero, List.push_toArray, List.append_toArray, List.nil_append, List.cons_append]
  gi_wp2
  gi_loopw [7] (fun i wr => i = .int .i64 0 ∧ J [] wr ∧ Caps wr B sv 0 1 0 ∧ Below B w wr)
    (fun i _ => 0)
  case atStart => exact ⟨rfl, hJs _ _ _ _ (by omega) h0, hC.setCalls 1, (hW.mono (by omega)).setCell (by simp) _⟩
  case round =>
    obtain ⟨rfl, hJk, hCk, hnx⟩ := hrel
    have c1 := hCk.m.cell
    gi_wp2
    go_end0
    exact ⟨⟨_, rfl⟩, _, ⟨rfl, hCk, hnx⟩, hJk⟩

end Go.Proofs.Ybulkckse
