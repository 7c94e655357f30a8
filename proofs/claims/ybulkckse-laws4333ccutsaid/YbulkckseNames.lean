import Derived.Test.YbulkckseFirst
import Derived.Maps.OwnSet
import Derived.Laws.CopyOwn
import Derived.Deep.OwnRows
import Derived.RangeFuncBox
namespace Go.Proofs.Ybulkckse
open Go Go.RowKit Go.Maps

/-! ### The plain law of the index -/

/-- A string as a map's key. -/
def keyS (s : ByteArray) : Lit := .string s.data.toList

/-- The map 'index' behind k rounds. -/
def idxTo (L : List ByteArray) : Nat → DataW Unit
  | 0 => .map []
  | k + 1 => if Maps.has (idxTo L k) (keyS (L[k]?.getD ByteArray.empty)) then idxTo L k else (idxTo L k).put (keyS (L[k]?.getD ByteArray.empty)) (.lit (.int .i64 k))

theorem idxTo_isMap (L : List ByteArray) : ∀ k, IsMap (idxTo L k)
  | 0 => isMap_empty
  | k + 1 => by
    unfold idxTo
    split
    · exact idxTo_isMap L k
    · exact (idxTo_isMap L k).put _ _

theorem keyS_inj {a b : ByteArray} : keyS a = keyS b ↔ (a.toList == b.toList) = true := by
  simp [keyS, ByteArray.toList_eq]

theorem isKey_keyS (s : ByteArray) : WideAt.IsKeyLit (keyS s) := by trivial

/-- WHAT THE INDEX ANSWERS behind k rounds. -/
theorem idxTo_spec (L : List ByteArray) (q : ByteArray) : ∀ k, k ≤ L.length →
    (NoneTo L q k ∧ Maps.has (idxTo L k) (keyS q) = false) ∨
    (∃ j, j < k ∧ fst? L q = some j ∧ Maps.has (idxTo L k) (keyS q) = true ∧ ∀ z, (idxTo L k).atKey (keyS q) z = .lit (.int .i64 j))
  | 0, _ => .inl ⟨fun j hj => by omega, rfl⟩
  | k + 1, hk => by
    rcases idxTo_spec L q k (by omega) with ⟨h0, hh⟩ | ⟨j, hj, hf, hh, ha⟩
    · cases ht : ((L[k]?.getD ByteArray.empty).toList == q.toList)
      · refine .inl ⟨h0.succ ht, ?_⟩
        unfold idxTo
        split
        · exact hh
        · rw [has_put_other]
          · exact hh
          · intro e
            rw [keyS_inj] at e
            have e1 : (L[k]?.getD ByteArray.empty).toList = q.toList := by simpa using (by simpa using e : q.toList = (L[k]?.getD ByteArray.empty).toList).symm
            simp [e1] at ht
      · have e : keyS (L[k]?.getD ByteArray.empty) = keyS q := keyS_inj.2 ht
        refine .inr ⟨k, by omega, fst_hit (by omega) h0 ht, ?_, fun z => ?_⟩
        · unfold idxTo
          rw [e, hh]
          simp only [Bool.false_eq_true, if_false]
          exact has_put_same (idxTo_isMap L k) (isKey_keyS q) _
        · unfold idxTo
          rw [e, hh]
          simp only [Bool.false_eq_true, if_false]
          exact atKey_put_same (idxTo_isMap L k) (isKey_keyS q) _ _
    · refine .inr ⟨j, by omega, hf, ?_⟩
      unfold idxTo
      split
      · exact ⟨hh, ha⟩
      · have hne : keyS q ≠ keyS (L[k]?.getD ByteArray.empty) := by
          intro e
          rename_i hn
          rw [← e] at hn
          exact hn hh
        exact ⟨by rw [has_put_other hne]; exact hh, fun z => by rw [atKey_put_other hne]; exact ha z⟩

/-! ### The walk of 'zzs4333cnames' -/
theorem law9 : Keyed Yba.prog 9 := string_keyed Yba.underlying9
theorem zero3 (w : World) : (zeroValue 3).run Yba.prog w = .ok (.int .i64 0) w := by kernel_rfl
theorem run_makeMap_hint (n : Int) (w : World) : (Instr.makeMap 45 (some (.int .i64 n))).run Yba.prog w = .ok (.map (some w.heap.size)) (w.alloc (.map #[] 0)) := by
  simp [Instr.makeMap, run_underlying Yba.underlying45, asInt, go_sem]

theorem info9' : (Yba.prog.info? 9).map (fun i => (i.zero, i.size, i.bytes)) = some (some (.string ByteArray.empty), 1, 16) := by kernel_rfl
theorem info9s : (Yba.prog.info? 9).map (·.size) = some 1 := by kernel_rfl

/-- A 'fieldNames' at block Bs, all of it laid from n₀ on: the list L; the index; the cut. -/
structure IsFN (W : World) (n₀ Bs g bm : Nat) (L : List ByteArray) (cut : Value) : Prop where
  st : W.heap[Bs]? = some (.cells #[.slice (some ⟨g, 0, none⟩) L.length L.length, .map (some bm), cut] 47 (0, 0))
  row : W.heap[g]? = some (.cells (L.map Value.string).toArray 9 (0, 0))
  idx : W.ownsMap Yba.prog 9 (plainElem Yba.prog 3) bm L.length (idxTo L L.length)
  bS : n₀ ≤ Bs
  bG : n₀ ≤ g
  bM : n₀ ≤ bm

theorem IsFN.ltS {W : World} {n₀ Bs g bm : Nat} {L : List ByteArray} {cut : Value} (h : IsFN W n₀ Bs g bm L cut) : Bs < W.heap.size := (Array.getElem?_eq_some_iff.1 h.st).1
theorem IsFN.ltG {W : World} {n₀ Bs g bm : Nat} {L : List ByteArray} {cut : Value} (h : IsFN W n₀ Bs g bm L cut) : g < W.heap.size := (Array.getElem?_eq_some_iff.1 h.row).1
theorem ownsMap_below {H : Type} {P : Program} {k : TypeId} {R : Value → Option (DataW H × List MemPlace)} {W W' : World} {b n : Nat} {D : DataW H} (h : W.ownsMap P k R b n D) {B : Nat} (hb : Below B W W') (hlt : b < B) : W'.ownsMap P k R b n D := by
  obtain ⟨es, clock, h1, F, hs, hD⟩ := h
  exact ⟨es, clock, (hb.block b hlt).trans h1, F, hs, hD⟩
theorem IsFN.below {W W' : World} {n₀ Bs g bm : Nat} {L : List ByteArray} {cut : Value} (h : IsFN W n₀ Bs g bm L cut) (hb : Below W.heap.size W W') : IsFN W' n₀ Bs g bm L cut :=
  ⟨(hb.block _ h.ltS).trans h.st, (hb.block _ h.ltG).trans h.row, ownsMap_below h.idx hb h.idx.lt, h.bS, h.bG, h.bM⟩
theorem IsFN.c0 {W : World} {n₀ Bs g bm : Nat} {L : List ByteArray} {cut : Value} (h : IsFN W n₀ Bs g bm L cut) : W.cell? ⟨Bs, 0, none⟩ = some (.slice (some ⟨g, 0, none⟩) L.length L.length) := by simp [World.cell?, h.st]
theorem IsFN.c1 {W : World} {n₀ Bs g bm : Nat} {L : List ByteArray} {cut : Value} (h : IsFN W n₀ Bs g bm L cut) : W.cell? ⟨Bs, 1, none⟩ = some (.map (some bm)) := by simp [World.cell?, h.st]
theorem IsFN.c2 {W : World} {n₀ Bs g bm : Nat} {L : List ByteArray} {cut : Value} (h : IsFN W n₀ Bs g bm L cut) : W.cell? ⟨Bs, 2, none⟩ = some cut := by simp [World.cell?, h.st]
theorem IsFN.cell {W : World} {n₀ Bs g bm : Nat} {L : List ByteArray} {cut : Value} (h : IsFN W n₀ Bs g bm L cut) {j : Nat} (hj : j < L.length) : W.cell? ⟨g, 0 + j, none⟩ = some (.string (L[j]?.getD ByteArray.empty)) := by simp [World.cell?, h.row, hj]
theorem IsFN.strs {W : World} {n₀ Bs g bm : Nat} {L : List ByteArray} {cut : Value} (h : IsFN W n₀ Bs g bm L cut) : Strs W (some ⟨g, 0, none⟩) L := .inr ⟨g, 0, rfl, h.ltG, fun _ hj => h.cell hj⟩

theorem getD_mem {L : List ByteArray} {k : Nat} (h : k < L.length) : L[k]?.getD ByteArray.empty ∈ L := by
  rw [List.getElem?_eq_getElem h]; simp

theorem splice_all (cur cs : List Value) (h : cur.length = cs.length) : splice cur 0 cs = cs := by
  simp [splice, List.drop_of_length_le (Nat.le_of_eq h)]

set_option maxHeartbeats 2000000 in
theorem names_walk (a : Option Addr) (cap : Nat) (L : List ByteArray) (w : World) (hmax : L.length ≤ 1024) (hs : Strs w a L) (hlen : ∀ s ∈ L, s.size ≤ maxLen) :
    Calls Yba.prog 11 #[.slice a L.length cap] w fun e w' => ∃ Bs g bm, e = .returned (.pointer (some ⟨Bs, 0, none⟩)) ∧ IsFN w' w.heap.size Bs g bm L .nilFunc ∧ Below w.heap.size w w' := by
  have hmk := fun (w : World) => run_make_row' (P := Yba.prog) 27 9 (.string ByteArray.empty) 16 Yba.underlying27 info9' rfl .i64 .i64 L.length (by omega) (by omega) w
  have hmm := run_makeMap_hint
  obtain ⟨X1, hX1⟩ : ∃ X1, X1 = L.map Value.string := ⟨_, rfl⟩
  obtain ⟨cur, hcur⟩ : ∃ cur, cur = (madeCells #[.string ByteArray.empty] L.length).toList := ⟨_, rfl⟩
  have hcl : cur.length = L.length := by rw [hcur]; simp [madeCells]
  have hxl : X1.length = L.length := by rw [hX1]; simp
  have hg0 : (w.alloc (.cells (madeCells #[.string ByteArray.empty] L.length) 9)).heap[w.heap.size]? = some (.cells cur.toArray 9 (0, 0)) := by
    rw [hcur, Array.toArray_toList]; exact World.alloc_heap_new w _
  have hb0 : Below w.heap.size w (w.alloc (.cells (madeCells #[.string ByteArray.empty] L.length) 9)) := (Below.refl _ w).alloc (Nat.le_refl _) _
  have hpos : 0 < X1.length → some (⟨w.heap.size, 0, none⟩ : Addr) = some ⟨w.heap.size, 0, none⟩ ∧ ∃ ad, a = some ad ∧ ∀ j v, X1[j]? = some v → (w.alloc (.cells (madeCells #[.string ByteArray.empty] L.length) 9)).cell? (ad.add j) = some v := by
    intro h0
    refine ⟨rfl, ?_⟩
    rcases hs with rfl | ⟨b, off, rfl, hlt, hc⟩
    · simp at hxl; simp [hxl] at h0
    · refine ⟨_, rfl, fun j v hv => ?_⟩
      have hj : j < L.length := by have := (List.getElem?_eq_some_iff.1 hv).1; omega
      rw [Go.WideShapes.add_plain, hb0.cell (p := ⟨b, off + j, none⟩) hlt, hc j hj]
      rw [hX1] at hv
      simp [hj] at hv ⊢
      exact hv
  have h1c : ∀ v ∈ X1, v.oneCell' = true := by
    rw [hX1]; intro v hv; obtain ⟨s, _, rfl⟩ := List.mem_map.1 hv; rfl
  have HX : Hid (X1 = L.map Value.string) := hX1
  have HP : Hid (0 < X1.length → some (⟨w.heap.size, 0, none⟩ : Addr) = some ⟨w.heap.size, 0, none⟩ ∧ ∃ ad, a = some ad ∧ ∀ j v, X1[j]? = some v → (w.alloc (.cells (madeCells #[.string ByteArray.empty] L.length) 9)).cell? (ad.add j) = some v) := hpos
  clear hX1 hcur hs hpos
  go_enter Yba.func11, Yba.ntmps11
  go_wp2_with (refine wpList_copy_splice rfl _ _ 27 27 rfl 9 Yba.underlying27 info9s _ _ _ _ _ _ rfl rfl w.heap.size 0 cur 9 hg0 X1 (by simp [hxl]) HP.out (by omega) h1c w.heap.size w hb0 (Nat.le_refl _) ?_; intro w2 HG2 hB2)
  have hrow2 : w2.heap[w.heap.size]? = some (.cells (L.map Value.string).toArray 9 (0, 0)) := by
    have := HG2.out
    rw [splice_all _ _ (hcl.trans hxl.symm), HX.out] at this
    exact this
  have hsz2 : w.heap.size < w2.heap.size := (Array.getElem?_eq_some_iff.1 hrow2).1
  clear HG2 HX HP hg0 hb0 h1c hcl hxl hmk hmm
  go_loopw [20] (fun i wr => ∃ k : Nat, k ≤ L.length ∧ i = .int .i64 k ∧ wr.ownsMap Yba.prog 9 (plainElem Yba.prog 3) w2.heap.size k (idxTo L k) ∧ wr.heap[w.heap.size]? = some (.cells (L.map Value.string).toArray 9 (0, 0)) ∧ Below w.heap.size w wr)
    (fun i _ => L.length - (intOf i).toNat)
  case atStart => exact ⟨0, Nat.zero_le _, rfl, World.ownsMap_made _ _ _ _, (Below.heap_alloc _ _ _ hsz2).trans hrow2, hB2.alloc (by omega) _⟩
  case round =>
    obtain ⟨k, hk, rfl, hown, hrow, hnx⟩ := hrel
    clear hrow2
    by_cases hlt : k < L.length
    · obtain ⟨t, ht⟩ : ∃ t, L[k]?.getD ByteArray.empty = t := ⟨_, rfl⟩
      have hcx : wr.cell? ⟨w.heap.size, k, none⟩ = some (.string t) := by
        rw [← ht]; simp [World.cell?, hrow, hlt]
      have htl : t.size ≤ maxLen := by rw [← ht]; exact hlen _ (getD_mem hlt)
      have hstep : Hid (idxTo L (k + 1) = if Maps.has (idxTo L k) (keyS t) then idxTo L k else (idxTo L k).put (keyS t) (.lit (.int .i64 k))) := by
        show _ = _; rw [idxTo, ht]
      have hmx : (1024 : Nat) < maxLen := by decide
      have Hrow : Hid (wr.heap[w.heap.size]? = some (.cells (L.map Value.string).toArray 9 (0, 0))) := hrow
      have hki : (Lit.int .i64 (k : Int)).wf = true := WalkArith.wf_i64 (by omega)
      clear ht hrow
      cases hh : Maps.has (idxTo L k) (keyS t)
      · go_wp2_with (first | (at_lookup; go_must (refine wpList_lookup_own_ok_int _ rfl _ _ 45 rfl 9 3 .i64 law9 Yba.underlying45 Yba.underlying3 (zero3 _) w2.heap.size k _ rfl hown _ (keyS t) rfl (WideMaps.keyOf_string_mk Yba.underlying9 htl) ?_); intro c hat hwc) | (at_mapUpdate; refine wpList_mapUpdate_own _ rfl _ _ _ 45 rfl 9 3 law9 Yba.underlying45 _ w2.heap.size k _ rfl hown (by omega) _ _ (keyS t) rfl rfl (WideMaps.keyOf_string_mk Yba.underlying9 htl) _ [] (plainElem_int Yba.underlying3 hki) ?_; intro w1 hown1 hgrow1))
        have hlt1 : w.heap.size < wr.heap.size := World.block_lt_of_cell? _ _ hcx
        exact ⟨⟨k + 1, by omega, by simp, by rw [hstep.out, hh]; exact hown1, (hgrow1.block _ hlt1 (by simp; omega)).trans Hrow.out, hnx.grown hgrow1 hnx.size (fun j e => by cases e; omega)⟩, by simp [intOf]; omega⟩
      · go_wp2_with (at_lookup; go_must (refine wpList_lookup_own_ok_int _ rfl _ _ 45 rfl 9 3 .i64 law9 Yba.underlying45 Yba.underlying3 (zero3 _) w2.heap.size k _ rfl hown _ (keyS t) rfl (WideMaps.keyOf_string_mk Yba.underlying9 htl) ?_); intro c hat hwc)
        exact ⟨⟨k + 1, by omega, by simp, by rw [hstep.out, hh]; exact hown.mono (by omega), Hrow.out, hnx⟩, by simp [intOf]; omega⟩
    · obtain rfl : k = L.length := by omega
      have hmb := hown.lt
      have hrl : w.heap.size < wr.heap.size := (Array.getElem?_eq_some_iff.1 hrow).1
      have Hrow : Hid (wr.heap[w.heap.size]? = some (.cells (L.map Value.string).toArray 9 (0, 0))) := hrow
      clear hrow
      go_wp2
      go_ret
      exact ⟨wr.heap.size, w.heap.size, w2.heap.size, rfl, ⟨World.alloc_heap_new _ _, (Below.heap_alloc _ _ _ hrl).trans Hrow.out, hown.alloc _, hnx.size, Nat.le_refl _, by omega⟩, hnx.alloc hnx.size _⟩
end Go.Proofs.Ybulkckse
