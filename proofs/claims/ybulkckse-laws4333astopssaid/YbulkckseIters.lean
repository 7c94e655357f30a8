import Derived.Test.YbulkckseCollect
namespace Go.Proofs.Ybulkckse
open Go Go.RowKit Go.Shelf
attribute [local go_sem] Oper.semAt_some

/-- WHAT HAS COME WHEN k ROUNDS ARE OVER. -/
def upto {α : Type} (f : Nat → α) (k : Nat) : List α := (List.range k).map f
theorem upto_succ {α : Type} (f : Nat → α) (k : Nat) : upto f (k + 1) = upto f k ++ [f k] := by simp [upto, List.range_succ]
theorem upto_length {α : Type} (f : Nat → α) (k : Nat) : (upto f k).length = k := by simp [upto]

set_option maxRecDepth 100000 in
set_option maxHeartbeats 2000000 in
theorem iter7 (F : Fence) (n : Nat) (h7 : F.fn 7) (hro : F.round = none) (hn : 1 ≤ n) (Bn Bd n₀ b off len cap : Nat) (zs : List Int) (hlen : 0 < len) (hmax : len ≤ 1024) (w : World) (hb : b < n₀) (hBn : Bn < n₀) (hBd : Bd < n₀)
    (hcn : w.cell? ⟨Bn, 0, none⟩ = some (.int .i64 len)) (hcd : w.cell? ⟨Bd, 0, none⟩ = some (.slice (some ⟨b, off, none⟩) len cap))
    (hc : ∀ j, j < len → w.cell? ⟨b, off + j, none⟩ = some (.int .i64 (zs[j]?.getD 0))) :
    SeqState F n Yba.prog 7 #[.pointer (some ⟨Bn, 0, none⟩), .pointer (some ⟨Bd, 0, none⟩)] (fun x : Int => #[Value.int .i64 x]) n₀ (fun xs W' => xs = upto (fun j => zs[j]?.getD 0) len ∧ Below n₀ w W') len w := by
  intro l J W hW hJs hY h0
  refine callsIn_of_wp Yba.func7 rfl h7 ?_ hro
  simp only [Yba.ntmps7, List.size_toArray, List.length_cons, List.length_nil, Nat.reduceAdd, Nat.reduceSub, Array.replicate_succ, Array.replicate_zero, List.push_toArray, List.append_toArray, List.nil_append, List.cons_append]
  gi_wp2
  gi_loopw [4] (fun i wr => ∃ k : Nat, k ≤ len ∧ i = .int .i64 k ∧ J (upto (fun j => zs[j]?.getD 0) k) wr ∧ Below n₀ w wr)
    (fun i _ => len - (intOf i).toNat)
  case atStart => exact ⟨0, Nat.zero_le _, rfl, h0, hW⟩
  case round =>
    obtain ⟨k, hk, rfl, hJk, hnx⟩ := hrel
    have hcn' : wr.cell? ⟨Bn, 0, none⟩ = some (.int .i64 len) := (hnx.cell (p := ⟨Bn, 0, none⟩) hBn).trans hcn
    have hcd' : wr.cell? ⟨Bd, 0, none⟩ = some (.slice (some ⟨b, off, none⟩) len cap) := (hnx.cell (p := ⟨Bd, 0, none⟩) hBd).trans hcd
    by_cases hlt : k < len
    · have hcx' : wr.cell? ⟨b, off + k, none⟩ = some (.int .i64 (zs[k]?.getD 0)) := (hnx.cell (p := ⟨b, off + k, none⟩) hb).trans (hc k hlt)
      obtain ⟨fn, tmps, assign, body, hy, hR⟩ := hY _ (zs[k]?.getD 0) wr hJk (by rw [upto_length]; exact hlt)
      gi_wp2
      refine hR.mono ?_
      rintro e W3 ⟨rfl, hJ3, hk3⟩
      gi_wp2
      go_roundw
      case rel => exact ⟨k + 1, by omega, by simp, by rw [upto_succ]; exact hJ3, hnx.trans hk3⟩
      case measure => simp [intOf]; omega
    · obtain rfl : k = len := by omega
      gi_wp2
      go_end0
      exact ⟨⟨_, rfl⟩, _, ⟨rfl, hnx⟩, hJk⟩

set_option maxRecDepth 100000 in
set_option maxHeartbeats 2000000 in
theorem iter7_none (F : Fence) (n : Nat) (h7 : F.fn 7) (hro : F.round = none) (Bn Bd n₀ : Nat) (w : World) (hBn : Bn < n₀)
    (hcn : w.cell? ⟨Bn, 0, none⟩ = some (.int .i64 0)) :
    SeqState F n Yba.prog 7 #[.pointer (some ⟨Bn, 0, none⟩), .pointer (some ⟨Bd, 0, none⟩)] (fun x : Int => #[Value.int .i64 x]) n₀ (fun xs W' => xs = [] ∧ Below n₀ w W') 0 w := by
  intro l J W hW hJs hY h0
  have hcn' : W.cell? ⟨Bn, 0, none⟩ = some (.int .i64 0) := (hW.cell (p := ⟨Bn, 0, none⟩) hBn).trans hcn
  refine callsIn_of_wp Yba.func7 rfl h7 ?_ hro
  simp only [Yba.ntmps7, List.size_toArray, List.length_cons, List.length_nil, Nat.reduceAdd, Nat.reduceSub, Array.replicate_succ, Array.replicate_zero, List.push_toArray, List.append_toArray, List.nil_append, List.cons_append]
  gi_wp2
  gi_loopw [4] (fun i wr => i = .int .i64 0 ∧ wr = W)
    (fun _ _ => 0)
  case atStart => exact ⟨rfl, rfl⟩
  case round =>
    obtain ⟨rfl, rfl⟩ := hrel
    gi_wp2
    go_end0
    exact ⟨⟨_, rfl⟩, _, ⟨rfl, hW⟩, h0⟩

end Go.Proofs.Ybulkckse
