import Derived.Test.YbulkckseFmtRec
import Derived.Test.YbulkckseFmtHeap
import Derived.Laws.Rows
namespace Go.Proofs.YbulkckseFmt
open Go Go.RowKit Go.Maps

def sK : ByteArray := ⟨#[107]⟩
def listW : List ByteArray := [⟨#[97, 48]⟩, ⟨#[97, 49]⟩, ⟨#[97, 50]⟩, ⟨#[97, 51]⟩, ⟨#[97, 52]⟩, ⟨#[97, 53]⟩, ⟨#[97, 54]⟩, ⟨#[97, 55]⟩, ⟨#[97, 56]⟩]
def listOf (wide has : Bool) : List ByteArray := if wide then listW ++ [if has then sK else ⟨#[97, 57]⟩] else [⟨#[97]⟩, if has then sK else ⟨#[98]⟩]
def posOf (wide has : Bool) : Option Nat := if has then some (if wide then 9 else 1) else none

theorem pos_of (wide has : Bool) : Pos (listOf wide has) sK (posOf wide has) := by
  cases wide <;> cases has
  · have : fst? (listOf false false) sK = posOf false false := by kernel_rfl
    rw [← this]; exact pos_short _ _ (by decide)
  · have : fst? (listOf false true) sK = posOf false true := by kernel_rfl
    rw [← this]; exact pos_short _ _ (by decide)
  · exact pos_long_none _ _ (by decide) (by decide) (by decide) (by kernel_rfl)
  · exact pos_long_some _ _ 9 (by decide) (by decide) (by decide) (by kernel_rfl) (by kernel_rfl)

/-- What Lookup("k") gives of the record rv, wherever the blocks from lo to hi lie as they lie in w. -/
def LookOK (lo hi : Nat) (w : World) (rv : Value) (v : ByteArray) (ok : Bool) : Prop :=
  ∀ W, (∀ k, lo ≤ k → k < hi → W.heap[k]? = w.heap[k]?) →
    Calls Ybaf.prog 16 #[rv, .string sK] W fun e W' => e = .returned (.tuple #[.string v, .bool ok]) ∧ Below W.heap.size W W'

theorem IsFN.same {W W' : World} {n₀ Bs g bm : Nat} {L : List ByteArray} {cut : Value} (h : IsFN W n₀ Bs g bm L cut) (hs : ∀ k, n₀ ≤ k → k < W.heap.size → W'.heap[k]? = W.heap[k]?) : IsFN W' n₀ Bs g bm L cut := by
  refine ⟨(hs _ h.bS h.ltS).trans h.st, (hs _ h.bG h.ltG).trans h.row, ?_, h.bS, h.bG, h.bM⟩
  obtain ⟨es, clock, h1, F, hs', hD⟩ := h.idx
  exact ⟨es, clock, (hs _ h.bM h.idx.lt).trans h1, F, hs', hD⟩

theorem lookOK_hit {lo Bs g bm vb len cap i : Nat} {L : List ByteArray} {nr ln : Int} {text v : ByteArray} {w : World} (hP : Pos L sK (some i)) (hF : IsFN w lo Bs g bm L .nilFunc) (hi : i < len) (hl : len ≤ 1024) (hvb : lo ≤ vb) (hv : w.cell? ⟨vb, i, none⟩ = some (.string v)) :
    LookOK lo w.heap.size w (recV nr ln text (some ⟨Bs, 0, none⟩) (.slice (some ⟨vb, 0, none⟩) len cap)) v true := fun W hs =>
  lookup_hit lo Bs g bm L nr ln text vb len cap i v sK W hP (hF.same hs) hi hl (by
    have hlt := lt_of_cell hv
    rw [← hv]
    simp only [World.cell?, hs vb hvb hlt])
theorem lookOK_miss {lo Bs g bm : Nat} {L : List ByteArray} {nr ln : Int} {text : ByteArray} {w : World} {a : Option Addr} {l c : Nat} (hP : Pos L sK none) (hF : IsFN w lo Bs g bm L .nilFunc) :
    LookOK lo w.heap.size w (recV nr ln text (some ⟨Bs, 0, none⟩) (.slice a l c)) ⟨#[]⟩ false := fun W hs =>
  lookup_miss lo Bs g bm L .nilFunc nr ln text a l c sK W hP (hF.same hs)

theorem IsFN.setCell {W : World} {n₀ Bs g bm : Nat} {L : List ByteArray} {cut : Value} (h : IsFN W n₀ Bs g bm L cut) {c : Nat} {cs : Array Value} (hc : W.heap[c]? = some (.cells cs 31 (0, 0))) (hg : g ≠ c) (i : Nat) (v : Value) : IsFN (W.setCell ⟨c, i, none⟩ v) n₀ Bs g bm L cut := by
  have hb : Bs ≠ c := by rintro rfl; have := hc.symm.trans h.st; simp at this
  have hm : bm ≠ c := by
    rintro rfl
    obtain ⟨es, clock, h1, _⟩ := h.idx
    have := hc.symm.trans h1; simp at this
  exact ⟨heap_set_other h.st hb _ _, heap_set_other h.row hg _ _, h.idx.setCell (a := ⟨c, i, none⟩) hm v, h.bS, h.bG, h.bM⟩

set_option maxRecDepth 100000 in
set_option maxHeartbeats 1000000 in
theorem brec_wide_has (i : Nat) (val : Int) (fail : Value) (hi : i ≤ 1024) (hv : 0 ≤ val) (w : World) :
    Calls Ybaf.prog 5 #[.int .i64 i, .agg #[.bool true, .bool true, .int .u8 val, fail]] w fun e w' => ∃ Bs vb,
      e = .returned (recV ((i : Int) + 1) ((i : Int) + 2) ⟨#[116]⟩ (some ⟨Bs, 0, none⟩) (.slice (some ⟨vb, 0, none⟩) 10 10)) ∧ w.heap.size ≤ Bs ∧
      LookOK w.heap.size w'.heap.size w' (recV ((i : Int) + 1) ((i : Int) + 2) ⟨#[116]⟩ (some ⟨Bs, 0, none⟩) (.slice (some ⟨vb, 0, none⟩) 10 10)) (bvalS val) true ∧ Below w.heap.size w w' := by
  go_enter Ybaf.func5, Ybaf.ntmps5
  go_wp2_with (go_at_call 7; refine (bval_any val hv _).mono ?_; rintro e w' ⟨rfl, rfl⟩)
  obtain ⟨W, hW⟩ : ∃ W, W = (((w.alloc (.cells #[.bool true, .bool true, .int .u8 val, fail] 34)).alloc (.cells #[.int .i64 0, .int .i64 0, .string ⟨#[]⟩, .pointer none, .slice none 0 0] 31)).alloc
      (.cells #[.string ⟨#[97, 48]⟩, .string ⟨#[97, 49]⟩, .string ⟨#[97, 50]⟩, .string ⟨#[97, 51]⟩, .string ⟨#[97, 52]⟩, .string ⟨#[97, 53]⟩, .string ⟨#[97, 54]⟩, .string ⟨#[97, 55]⟩, .string ⟨#[97, 56]⟩, .string ⟨#[107]⟩] 9)).alloc
      (.cells #[.string ⟨#[120]⟩, .string ⟨#[120]⟩, .string ⟨#[120]⟩, .string ⟨#[120]⟩, .string ⟨#[120]⟩, .string ⟨#[120]⟩, .string ⟨#[120]⟩, .string ⟨#[120]⟩, .string ⟨#[120]⟩, .string (bvalS val)] 9) := ⟨_, rfl⟩
  have h1 : W.heap[w.heap.size + 1]? = some (.cells #[.int .i64 0, .int .i64 0, .string ⟨#[]⟩, .pointer none, .slice none 0 0] 31 (0, 0)) := by rw [hW]; exact heap_up (heap_up (heap_new _ _ (by simp)) _) _
  have h2 : W.heap[w.heap.size + 1 + 1]? = some (.cells ((listOf true true).map Value.string).toArray 9 (0, 0)) := by rw [hW]; exact heap_up (heap_new _ _ (by simp)) _
  have h3 : W.heap[w.heap.size + 1 + 1 + 1]? = some (.cells #[.string ⟨#[120]⟩, .string ⟨#[120]⟩, .string ⟨#[120]⟩, .string ⟨#[120]⟩, .string ⟨#[120]⟩, .string ⟨#[120]⟩, .string ⟨#[120]⟩, .string ⟨#[120]⟩, .string ⟨#[120]⟩, .string (bvalS val)] 9 (0, 0)) := by rw [hW]; exact heap_new _ _ (by simp)
  have hB : Below w.heap.size w W := by rw [hW]; exact ((((Below.refl _ w).alloc (Nat.le_refl _) _).alloc (by simp) _).alloc (by simp; omega) _).alloc (by simp; omega) _
  rw [← hW]
  clear hW
  refine (bnames_any (w.heap.size + 1 + 1) (listOf true true) W (by decide) h2 (by decide) w.heap.size (by omega)).mono ?_
  rintro e W2 ⟨Bs, bm, rfl, hF, hB2⟩
  have l1 : w.heap.size + 1 < W.heap.size := (Array.getElem?_eq_some_iff.1 h1).1
  have l3 : w.heap.size + 1 + 1 + 1 < W.heap.size := (Array.getElem?_eq_some_iff.1 h3).1
  have k1 := (hB2.block _ l1).trans h1
  have k3 := (hB2.block _ l3).trans h3
  have cv : W2.cell? ⟨w.heap.size + 1 + 1 + 1, 9, none⟩ = some (.string (bvalS val)) := cell_of k3 rfl
  have HF : Hid (IsFN W2 w.heap.size Bs (w.heap.size + 1 + 1) bm (listOf true true) .nilFunc) := hF
  have hBs := hF.bS
  have c0 : W2.cell? ⟨w.heap.size + 1, 0, none⟩ = some (.int .i64 0) := cell_of k1 rfl
  have c1 : W2.cell? ⟨w.heap.size + 1, 1, none⟩ = some (.int .i64 0) := cell_of k1 rfl
  have c2 : W2.cell? ⟨w.heap.size + 1, 2, none⟩ = some (.string ⟨#[]⟩) := cell_of k1 rfl
  have c3 : W2.cell? ⟨w.heap.size + 1, 3, none⟩ = some (.pointer none) := cell_of k1 rfl
  have c4 : W2.cell? ⟨w.heap.size + 1, 4, none⟩ = some (.slice none 0 0) := cell_of k1 rfl
  have fz := fun i => frozen_of k1 i
  have Hk1 : Hid (W2.heap[w.heap.size + 1]? = some (.cells #[.int .i64 0, .int .i64 0, .string ⟨#[]⟩, .pointer none, .slice none 0 0] 31 (0, 0))) := k1
  clear hF h1 h2 h3 k3 k1
  go_wp2_with fail
  have k5 := heap_set (heap_set (heap_set (heap_set (heap_set Hk1.out 0 (.int .i64 ((i : Int) + 1))) 1 (.int .i64 ((i : Int) + 2))) 2 (.string ⟨#[116]⟩)) 3 (.pointer (some ⟨Bs, 0, none⟩))) 4 (.slice (some ⟨w.heap.size + 1 + 1 + 1, 0, none⟩) 10 10)
  refine bodyPost_ret (results_cell_row rfl _ _ (w.heap.size + 1) 31 _ (0, 0) _ rfl k5 Ybaf.underlying31 rfl (by kernel_rfl)) rfl ?_
  have hF1 := HF.out.setCell Hk1.out (by omega) 0 (.int .i64 ((i : Int) + 1))
  have hF2 := hF1.setCell (heap_set Hk1.out _ _) (by omega) 1 (.int .i64 ((i : Int) + 2))
  have hF3 := hF2.setCell (heap_set (heap_set Hk1.out _ _) _ _) (by omega) 2 (.string ⟨#[116]⟩)
  have hF4 := hF3.setCell (heap_set (heap_set (heap_set Hk1.out _ _) _ _) _ _) (by omega) 3 (.pointer (some ⟨Bs, 0, none⟩))
  have hF5 := hF4.setCell (heap_set (heap_set (heap_set (heap_set Hk1.out _ _) _ _) _ _) _ _) (by omega) 4 (.slice (some ⟨w.heap.size + 1 + 1 + 1, 0, none⟩) 10 10)
  exact ⟨Bs, w.heap.size + 1 + 1 + 1, rfl, hBs, lookOK_hit (pos_of true true) hF5 (by decide) (by decide) (by omega) (cell_set_blk (cell_set_blk (cell_set_blk (cell_set_blk (cell_set_blk cv (by omega) _) (by omega) _) (by omega) _) (by omega) _) (by omega) _), (((((hB.trans (hB2.mono (by omega))).setCell (by simp) _).setCell (by simp) _).setCell (by simp) _).setCell (by simp) _).setCell (by simp) _⟩

set_option maxRecDepth 100000 in
set_option maxHeartbeats 1000000 in
theorem brec_wide_not (i : Nat) (val : Int) (fail : Value) (hi : i ≤ 1024) (_hv : 0 ≤ val) (w : World) :
    Calls Ybaf.prog 5 #[.int .i64 i, .agg #[.bool false, .bool true, .int .u8 val, fail]] w fun e w' => ∃ Bs vb,
      e = .returned (recV ((i : Int) + 1) ((i : Int) + 2) ⟨#[116]⟩ (some ⟨Bs, 0, none⟩) (.slice (some ⟨vb, 0, none⟩) 10 10)) ∧ w.heap.size ≤ Bs ∧
      LookOK w.heap.size w'.heap.size w' (recV ((i : Int) + 1) ((i : Int) + 2) ⟨#[116]⟩ (some ⟨Bs, 0, none⟩) (.slice (some ⟨vb, 0, none⟩) 10 10)) ⟨#[]⟩ false ∧ Below w.heap.size w w' := by
  go_enter Ybaf.func5, Ybaf.ntmps5
  go_wp2_with fail
  obtain ⟨W, hW⟩ : ∃ W, W = (((w.alloc (.cells #[.bool false, .bool true, .int .u8 val, fail] 34)).alloc (.cells #[.int .i64 0, .int .i64 0, .string ⟨#[]⟩, .pointer none, .slice none 0 0] 31)).alloc
      (.cells #[.string ⟨#[97, 48]⟩, .string ⟨#[97, 49]⟩, .string ⟨#[97, 50]⟩, .string ⟨#[97, 51]⟩, .string ⟨#[97, 52]⟩, .string ⟨#[97, 53]⟩, .string ⟨#[97, 54]⟩, .string ⟨#[97, 55]⟩, .string ⟨#[97, 56]⟩, .string ⟨#[97, 57]⟩] 9)).alloc
      (.cells #[.string ⟨#[120]⟩, .string ⟨#[120]⟩, .string ⟨#[120]⟩, .string ⟨#[120]⟩, .string ⟨#[120]⟩, .string ⟨#[120]⟩, .string ⟨#[120]⟩, .string ⟨#[120]⟩, .string ⟨#[120]⟩, .string ⟨#[120]⟩] 9) := ⟨_, rfl⟩
  have h1 : W.heap[w.heap.size + 1]? = some (.cells #[.int .i64 0, .int .i64 0, .string ⟨#[]⟩, .pointer none, .slice none 0 0] 31 (0, 0)) := by rw [hW]; exact heap_up (heap_up (heap_new _ _ (by simp)) _) _
  have h2 : W.heap[w.heap.size + 1 + 1]? = some (.cells ((listOf true false).map Value.string).toArray 9 (0, 0)) := by rw [hW]; exact heap_up (heap_new _ _ (by simp)) _
  have h3 : W.heap[w.heap.size + 1 + 1 + 1]? = some (.cells #[.string ⟨#[120]⟩, .string ⟨#[120]⟩, .string ⟨#[120]⟩, .string ⟨#[120]⟩, .string ⟨#[120]⟩, .string ⟨#[120]⟩, .string ⟨#[120]⟩, .string ⟨#[120]⟩, .string ⟨#[120]⟩, .string ⟨#[120]⟩] 9 (0, 0)) := by rw [hW]; exact heap_new _ _ (by simp)
  have hB : Below w.heap.size w W := by rw [hW]; exact ((((Below.refl _ w).alloc (Nat.le_refl _) _).alloc (by simp) _).alloc (by simp; omega) _).alloc (by simp; omega) _
  rw [← hW]
  clear hW
  refine (bnames_any (w.heap.size + 1 + 1) (listOf true false) W (by decide) h2 (by decide) w.heap.size (by omega)).mono ?_
  rintro e W2 ⟨Bs, bm, rfl, hF, hB2⟩
  have l1 : w.heap.size + 1 < W.heap.size := (Array.getElem?_eq_some_iff.1 h1).1
  have l3 : w.heap.size + 1 + 1 + 1 < W.heap.size := (Array.getElem?_eq_some_iff.1 h3).1
  have k1 := (hB2.block _ l1).trans h1
  have k3 := (hB2.block _ l3).trans h3
  have HF : Hid (IsFN W2 w.heap.size Bs (w.heap.size + 1 + 1) bm (listOf true false) .nilFunc) := hF
  have hBs := hF.bS
  have c0 : W2.cell? ⟨w.heap.size + 1, 0, none⟩ = some (.int .i64 0) := cell_of k1 rfl
  have c1 : W2.cell? ⟨w.heap.size + 1, 1, none⟩ = some (.int .i64 0) := cell_of k1 rfl
  have c2 : W2.cell? ⟨w.heap.size + 1, 2, none⟩ = some (.string ⟨#[]⟩) := cell_of k1 rfl
  have c3 : W2.cell? ⟨w.heap.size + 1, 3, none⟩ = some (.pointer none) := cell_of k1 rfl
  have c4 : W2.cell? ⟨w.heap.size + 1, 4, none⟩ = some (.slice none 0 0) := cell_of k1 rfl
  have fz := fun i => frozen_of k1 i
  have Hk1 : Hid (W2.heap[w.heap.size + 1]? = some (.cells #[.int .i64 0, .int .i64 0, .string ⟨#[]⟩, .pointer none, .slice none 0 0] 31 (0, 0))) := k1
  clear hF h1 h2 h3 k3 k1
  go_wp2_with fail
  have k5 := heap_set (heap_set (heap_set (heap_set (heap_set Hk1.out 0 (.int .i64 ((i : Int) + 1))) 1 (.int .i64 ((i : Int) + 2))) 2 (.string ⟨#[116]⟩)) 3 (.pointer (some ⟨Bs, 0, none⟩))) 4 (.slice (some ⟨w.heap.size + 1 + 1 + 1, 0, none⟩) 10 10)
  refine bodyPost_ret (results_cell_row rfl _ _ (w.heap.size + 1) 31 _ (0, 0) _ rfl k5 Ybaf.underlying31 rfl (by kernel_rfl)) rfl ?_
  have hF1 := HF.out.setCell Hk1.out (by omega) 0 (.int .i64 ((i : Int) + 1))
  have hF2 := hF1.setCell (heap_set Hk1.out _ _) (by omega) 1 (.int .i64 ((i : Int) + 2))
  have hF3 := hF2.setCell (heap_set (heap_set Hk1.out _ _) _ _) (by omega) 2 (.string ⟨#[116]⟩)
  have hF4 := hF3.setCell (heap_set (heap_set (heap_set Hk1.out _ _) _ _) _ _) (by omega) 3 (.pointer (some ⟨Bs, 0, none⟩))
  have hF5 := hF4.setCell (heap_set (heap_set (heap_set (heap_set Hk1.out _ _) _ _) _ _) _ _) (by omega) 4 (.slice (some ⟨w.heap.size + 1 + 1 + 1, 0, none⟩) 10 10)
  exact ⟨Bs, w.heap.size + 1 + 1 + 1, rfl, hBs, lookOK_miss (pos_of true false) hF5, (((((hB.trans (hB2.mono (by omega))).setCell (by simp) _).setCell (by simp) _).setCell (by simp) _).setCell (by simp) _).setCell (by simp) _⟩

set_option maxRecDepth 100000 in
set_option maxHeartbeats 1000000 in
theorem brec_short_has (i : Nat) (val : Int) (fail : Value) (hi : i ≤ 1024) (hv : 0 ≤ val) (w : World) :
    Calls Ybaf.prog 5 #[.int .i64 i, .agg #[.bool true, .bool false, .int .u8 val, fail]] w fun e w' => ∃ Bs vb,
      e = .returned (recV ((i : Int) + 1) ((i : Int) + 2) ⟨#[116]⟩ (some ⟨Bs, 0, none⟩) (.slice (some ⟨vb, 0, none⟩) 2 2)) ∧ w.heap.size ≤ Bs ∧
      LookOK w.heap.size w'.heap.size w' (recV ((i : Int) + 1) ((i : Int) + 2) ⟨#[116]⟩ (some ⟨Bs, 0, none⟩) (.slice (some ⟨vb, 0, none⟩) 2 2)) (bvalS val) true ∧ Below w.heap.size w w' := by
  go_enter Ybaf.func5, Ybaf.ntmps5
  go_wp2_with (go_at_call 7; refine (bval_any val hv _).mono ?_; rintro e w' ⟨rfl, rfl⟩)
  obtain ⟨W, hW⟩ : ∃ W, W = (((w.alloc (.cells #[.bool true, .bool false, .int .u8 val, fail] 34)).alloc (.cells #[.int .i64 0, .int .i64 0, .string ⟨#[]⟩, .pointer none, .slice none 0 0] 31)).alloc
      (.cells #[.string ⟨#[97]⟩, .string ⟨#[107]⟩] 9)).alloc
      (.cells #[.string ⟨#[120]⟩, .string (bvalS val)] 9) := ⟨_, rfl⟩
  have h1 : W.heap[w.heap.size + 1]? = some (.cells #[.int .i64 0, .int .i64 0, .string ⟨#[]⟩, .pointer none, .slice none 0 0] 31 (0, 0)) := by rw [hW]; exact heap_up (heap_up (heap_new _ _ (by simp)) _) _
  have h2 : W.heap[w.heap.size + 1 + 1]? = some (.cells ((listOf false true).map Value.string).toArray 9 (0, 0)) := by rw [hW]; exact heap_up (heap_new _ _ (by simp)) _
  have h3 : W.heap[w.heap.size + 1 + 1 + 1]? = some (.cells #[.string ⟨#[120]⟩, .string (bvalS val)] 9 (0, 0)) := by rw [hW]; exact heap_new _ _ (by simp)
  have hB : Below w.heap.size w W := by rw [hW]; exact ((((Below.refl _ w).alloc (Nat.le_refl _) _).alloc (by simp) _).alloc (by simp; omega) _).alloc (by simp; omega) _
  rw [← hW]
  clear hW
  refine (bnames_any (w.heap.size + 1 + 1) (listOf false true) W (by decide) h2 (by decide) w.heap.size (by omega)).mono ?_
  rintro e W2 ⟨Bs, bm, rfl, hF, hB2⟩
  have l1 : w.heap.size + 1 < W.heap.size := (Array.getElem?_eq_some_iff.1 h1).1
  have l3 : w.heap.size + 1 + 1 + 1 < W.heap.size := (Array.getElem?_eq_some_iff.1 h3).1
  have k1 := (hB2.block _ l1).trans h1
  have k3 := (hB2.block _ l3).trans h3
  have cv : W2.cell? ⟨w.heap.size + 1 + 1 + 1, 1, none⟩ = some (.string (bvalS val)) := cell_of k3 rfl
  have HF : Hid (IsFN W2 w.heap.size Bs (w.heap.size + 1 + 1) bm (listOf false true) .nilFunc) := hF
  have hBs := hF.bS
  have c0 : W2.cell? ⟨w.heap.size + 1, 0, none⟩ = some (.int .i64 0) := cell_of k1 rfl
  have c1 : W2.cell? ⟨w.heap.size + 1, 1, none⟩ = some (.int .i64 0) := cell_of k1 rfl
  have c2 : W2.cell? ⟨w.heap.size + 1, 2, none⟩ = some (.string ⟨#[]⟩) := cell_of k1 rfl
  have c3 : W2.cell? ⟨w.heap.size + 1, 3, none⟩ = some (.pointer none) := cell_of k1 rfl
  have c4 : W2.cell? ⟨w.heap.size + 1, 4, none⟩ = some (.slice none 0 0) := cell_of k1 rfl
  have fz := fun i => frozen_of k1 i
  have Hk1 : Hid (W2.heap[w.heap.size + 1]? = some (.cells #[.int .i64 0, .int .i64 0, .string ⟨#[]⟩, .pointer none, .slice none 0 0] 31 (0, 0))) := k1
  clear hF h1 h2 h3 k3 k1
  go_wp2_with fail
  have k5 := heap_set (heap_set (heap_set (heap_set (heap_set Hk1.out 0 (.int .i64 ((i : Int) + 1))) 1 (.int .i64 ((i : Int) + 2))) 2 (.string ⟨#[116]⟩)) 3 (.pointer (some ⟨Bs, 0, none⟩))) 4 (.slice (some ⟨w.heap.size + 1 + 1 + 1, 0, none⟩) 2 2)
  refine bodyPost_ret (results_cell_row rfl _ _ (w.heap.size + 1) 31 _ (0, 0) _ rfl k5 Ybaf.underlying31 rfl (by kernel_rfl)) rfl ?_
  have hF1 := HF.out.setCell Hk1.out (by omega) 0 (.int .i64 ((i : Int) + 1))
  have hF2 := hF1.setCell (heap_set Hk1.out _ _) (by omega) 1 (.int .i64 ((i : Int) + 2))
  have hF3 := hF2.setCell (heap_set (heap_set Hk1.out _ _) _ _) (by omega) 2 (.string ⟨#[116]⟩)
  have hF4 := hF3.setCell (heap_set (heap_set (heap_set Hk1.out _ _) _ _) _ _) (by omega) 3 (.pointer (some ⟨Bs, 0, none⟩))
  have hF5 := hF4.setCell (heap_set (heap_set (heap_set (heap_set Hk1.out _ _) _ _) _ _) _ _) (by omega) 4 (.slice (some ⟨w.heap.size + 1 + 1 + 1, 0, none⟩) 2 2)
  exact ⟨Bs, w.heap.size + 1 + 1 + 1, rfl, hBs, lookOK_hit (pos_of false true) hF5 (by decide) (by decide) (by omega) (cell_set_blk (cell_set_blk (cell_set_blk (cell_set_blk (cell_set_blk cv (by omega) _) (by omega) _) (by omega) _) (by omega) _) (by omega) _), (((((hB.trans (hB2.mono (by omega))).setCell (by simp) _).setCell (by simp) _).setCell (by simp) _).setCell (by simp) _).setCell (by simp) _⟩

set_option maxRecDepth 100000 in
set_option maxHeartbeats 1000000 in
theorem brec_short_not (i : Nat) (val : Int) (fail : Value) (hi : i ≤ 1024) (_hv : 0 ≤ val) (w : World) :
    Calls Ybaf.prog 5 #[.int .i64 i, .agg #[.bool false, .bool false, .int .u8 val, fail]] w fun e w' => ∃ Bs vb,
      e = .returned (recV ((i : Int) + 1) ((i : Int) + 2) ⟨#[116]⟩ (some ⟨Bs, 0, none⟩) (.slice (some ⟨vb, 0, none⟩) 2 2)) ∧ w.heap.size ≤ Bs ∧
      LookOK w.heap.size w'.heap.size w' (recV ((i : Int) + 1) ((i : Int) + 2) ⟨#[116]⟩ (some ⟨Bs, 0, none⟩) (.slice (some ⟨vb, 0, none⟩) 2 2)) ⟨#[]⟩ false ∧ Below w.heap.size w w' := by
  go_enter Ybaf.func5, Ybaf.ntmps5
  go_wp2_with fail
  obtain ⟨W, hW⟩ : ∃ W, W = (((w.alloc (.cells #[.bool false, .bool false, .int .u8 val, fail] 34)).alloc (.cells #[.int .i64 0, .int .i64 0, .string ⟨#[]⟩, .pointer none, .slice none 0 0] 31)).alloc
      (.cells #[.string ⟨#[97]⟩, .string ⟨#[98]⟩] 9)).alloc
      (.cells #[.string ⟨#[120]⟩, .string ⟨#[121]⟩] 9) := ⟨_, rfl⟩
  have h1 : W.heap[w.heap.size + 1]? = some (.cells #[.int .i64 0, .int .i64 0, .string ⟨#[]⟩, .pointer none, .slice none 0 0] 31 (0, 0)) := by rw [hW]; exact heap_up (heap_up (heap_new _ _ (by simp)) _) _
  have h2 : W.heap[w.heap.size + 1 + 1]? = some (.cells ((listOf false false).map Value.string).toArray 9 (0, 0)) := by rw [hW]; exact heap_up (heap_new _ _ (by simp)) _
  have h3 : W.heap[w.heap.size + 1 + 1 + 1]? = some (.cells #[.string ⟨#[120]⟩, .string ⟨#[121]⟩] 9 (0, 0)) := by rw [hW]; exact heap_new _ _ (by simp)
  have hB : Below w.heap.size w W := by rw [hW]; exact ((((Below.refl _ w).alloc (Nat.le_refl _) _).alloc (by simp) _).alloc (by simp; omega) _).alloc (by simp; omega) _
  rw [← hW]
  clear hW
  refine (bnames_any (w.heap.size + 1 + 1) (listOf false false) W (by decide) h2 (by decide) w.heap.size (by omega)).mono ?_
  rintro e W2 ⟨Bs, bm, rfl, hF, hB2⟩
  have l1 : w.heap.size + 1 < W.heap.size := (Array.getElem?_eq_some_iff.1 h1).1
  have l3 : w.heap.size + 1 + 1 + 1 < W.heap.size := (Array.getElem?_eq_some_iff.1 h3).1
  have k1 := (hB2.block _ l1).trans h1
  have k3 := (hB2.block _ l3).trans h3
  have HF : Hid (IsFN W2 w.heap.size Bs (w.heap.size + 1 + 1) bm (listOf false false) .nilFunc) := hF
  have hBs := hF.bS
  have c0 : W2.cell? ⟨w.heap.size + 1, 0, none⟩ = some (.int .i64 0) := cell_of k1 rfl
  have c1 : W2.cell? ⟨w.heap.size + 1, 1, none⟩ = some (.int .i64 0) := cell_of k1 rfl
  have c2 : W2.cell? ⟨w.heap.size + 1, 2, none⟩ = some (.string ⟨#[]⟩) := cell_of k1 rfl
  have c3 : W2.cell? ⟨w.heap.size + 1, 3, none⟩ = some (.pointer none) := cell_of k1 rfl
  have c4 : W2.cell? ⟨w.heap.size + 1, 4, none⟩ = some (.slice none 0 0) := cell_of k1 rfl
  have fz := fun i => frozen_of k1 i
  have Hk1 : Hid (W2.heap[w.heap.size + 1]? = some (.cells #[.int .i64 0, .int .i64 0, .string ⟨#[]⟩, .pointer none, .slice none 0 0] 31 (0, 0))) := k1
  clear hF h1 h2 h3 k3 k1
  go_wp2_with fail
  have k5 := heap_set (heap_set (heap_set (heap_set (heap_set Hk1.out 0 (.int .i64 ((i : Int) + 1))) 1 (.int .i64 ((i : Int) + 2))) 2 (.string ⟨#[116]⟩)) 3 (.pointer (some ⟨Bs, 0, none⟩))) 4 (.slice (some ⟨w.heap.size + 1 + 1 + 1, 0, none⟩) 2 2)
  refine bodyPost_ret (results_cell_row rfl _ _ (w.heap.size + 1) 31 _ (0, 0) _ rfl k5 Ybaf.underlying31 rfl (by kernel_rfl)) rfl ?_
  have hF1 := HF.out.setCell Hk1.out (by omega) 0 (.int .i64 ((i : Int) + 1))
  have hF2 := hF1.setCell (heap_set Hk1.out _ _) (by omega) 1 (.int .i64 ((i : Int) + 2))
  have hF3 := hF2.setCell (heap_set (heap_set Hk1.out _ _) _ _) (by omega) 2 (.string ⟨#[116]⟩)
  have hF4 := hF3.setCell (heap_set (heap_set (heap_set Hk1.out _ _) _ _) _ _) (by omega) 3 (.pointer (some ⟨Bs, 0, none⟩))
  have hF5 := hF4.setCell (heap_set (heap_set (heap_set (heap_set Hk1.out _ _) _ _) _ _) _ _) (by omega) 4 (.slice (some ⟨w.heap.size + 1 + 1 + 1, 0, none⟩) 2 2)
  exact ⟨Bs, w.heap.size + 1 + 1 + 1, rfl, hBs, lookOK_miss (pos_of false false) hF5, (((((hB.trans (hB2.mono (by omega))).setCell (by simp) _).setCell (by simp) _).setCell (by simp) _).setCell (by simp) _).setCell (by simp) _⟩

/-- zzs4333brec: the record, and what Lookup("k") gives of it. -/
theorem brec_any (i : Nat) (has wide : Bool) (val : Int) (fail : Value) (hi : i ≤ 1024) (hv : 0 ≤ val) (w : World) :
    Calls Ybaf.prog 5 #[.int .i64 i, .agg #[.bool has, .bool wide, .int .u8 val, fail]] w fun e w' => ∃ Bs vb n,
      e = .returned (recV ((i : Int) + 1) ((i : Int) + 2) ⟨#[116]⟩ (some ⟨Bs, 0, none⟩) (.slice (some ⟨vb, 0, none⟩) n n)) ∧ w.heap.size ≤ Bs ∧
      LookOK w.heap.size w'.heap.size w' (recV ((i : Int) + 1) ((i : Int) + 2) ⟨#[116]⟩ (some ⟨Bs, 0, none⟩) (.slice (some ⟨vb, 0, none⟩) n n)) (if has then bvalS val else ⟨#[]⟩) has ∧ Below w.heap.size w w' := by
  cases wide <;> cases has
  · exact (brec_short_not i val fail hi hv w).mono fun e w' ⟨Bs, vb, h⟩ => ⟨Bs, vb, 2, h⟩
  · exact (brec_short_has i val fail hi hv w).mono fun e w' ⟨Bs, vb, h⟩ => ⟨Bs, vb, 2, h⟩
  · exact (brec_wide_not i val fail hi hv w).mono fun e w' ⟨Bs, vb, h⟩ => ⟨Bs, vb, 10, h⟩
  · exact (brec_wide_has i val fail hi hv w).mono fun e w' ⟨Bs, vb, h⟩ => ⟨Bs, vb, 10, h⟩
end Go.Proofs.YbulkckseFmt
