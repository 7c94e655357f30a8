import Derived.Test.YbulkckseLookup
import Derived.Test.YbulkckseNum
import Derived.Test.YbulkckseOpen
namespace Go.Proofs.Ybulkckse
open Go Go.RowKit Go.Maps

/-- What 'vals[j]' holds. -/
def valF (V : List ByteArray) (j : Nat) : ByteArray := if j < V.length then V[j]?.getD ByteArray.empty else numS j
/-- .. behind k rounds. -/
def valTo (V : List ByteArray) (k : Nat) (j : Nat) : Value := .string (if j < k then valF V j else ByteArray.empty)
theorem valTo_step (V : List ByteArray) (k : Nat) (v : ByteArray) (hv : v = valF V k) : ∀ j, (fun j => if j = k then Value.string v else valTo V k j) j = valTo V (k + 1) j := by
  intro j
  simp only [valTo]
  by_cases h : j = k
  · subst h; simp [hv]
  · rw [if_neg h]
    by_cases h2 : j < k
    · rw [if_pos h2, if_pos (by omega)]
    · rw [if_neg h2, if_neg (by omega)]

theorem query_size (L : List ByteArray) (query : ByteArray) (pick : Nat) (hlen : ∀ s ∈ L, s.size ≤ maxLen) (hq : query.size ≤ maxLen) : (queryOf L query pick).size ≤ maxLen := by
  unfold queryOf
  split
  · rename_i h; exact hlen _ (getD_mem h)
  · exact hq

theorem IsStrs.take {w : World} {a : Option Addr} {len cap : Nat} {ss : List ByteArray} (h : IsStrs w a len cap ss) :
    (ss.take len).length = len ∧ len ≤ maxLen ∧ Strs w a (ss.take len) ∧ ∀ s ∈ ss.take len, s.size ≤ maxLen := by
  obtain ⟨hm, hr, hs⟩ := h.rows
  have hs' : ∀ s ∈ ss.take len, s.size ≤ maxLen := fun s hx => hs s (List.mem_of_mem_take hx)
  rcases hr with rfl | ⟨b, off, ha, hb, hl, hc⟩
  · exact ⟨by simp, hm, .inl (by simp), hs'⟩
  · have e : (ss.take len).length = len := by simp; omega
    refine ⟨e, hm, .inr ⟨b, off, ha, hb, fun j hj => ?_⟩, hs'⟩
    rw [e] at hj
    rw [List.getElem?_take_of_lt hj]
    exact hc j hj

set_option maxHeartbeats 1000000 in
theorem values_long (a : Option Addr) (len cap : Nat) (sv : Value) (query : ByteArray) (pick : Int) (nilN : Bool) (text : ByteArray) (w : World) (hlen : 1024 < len) (hm : len ≤ maxLen) :
    Calls Yba.prog 5 #[.slice a len cap, sv, .string query, .int .u8 pick, .bool nilN, .string text] w fun e w' => e = .returned (.bool true) ∧ Below w.heap.size w w' := by
  unfold maxLen at hm
  go_enter Yba.func5, Yba.ntmps5
  go_wp2
  go_ret
  exact ⟨rfl, Below.refl _ _⟩

set_option maxHeartbeats 2000000 in
theorem values_walk (a av : Option Addr) (cap capv : Nat) (L V : List ByteArray) (query : ByteArray) (pick : Nat) (nilN : Bool) (text : ByteArray) (w : World) (hmax : L.length ≤ 1024) (hp : pick ≤ 255)
    (hs : Strs w a L) (hvs : Strs w av V) (hVm : V.length ≤ maxLen) (hlen : ∀ s ∈ L, s.size ≤ maxLen) (hq : query.size ≤ maxLen) :
    Calls Yba.prog 5 #[.slice a L.length cap, .slice av V.length capv, .string query, .int .u8 pick, .bool nilN, .string text] w fun e w' => e = .returned (.bool true) ∧ Below w.heap.size w w' := by
  have hmk := fun (w : World) => run_make_row' (P := Yba.prog) 27 9 (.string ByteArray.empty) 16 Yba.underlying27 info9' rfl .i64 .i64 L.length (by omega) (by omega) w
  unfold maxLen at hVm
  have hqs := query_size L query pick hlen hq
  go_enter Yba.func5, Yba.ntmps5
  go_wp2_with fail
  refine (names_walk a cap L w hmax hs hlen).mono ?_
  rintro e w1 ⟨Bs, g, bm, rfl, hF1, hB1⟩
  go_wp2
  clear hmk
  have hr0 := World.rowIs_made w1 (.string ByteArray.empty) L.length 9
  have hB2 : Below w.heap.size w (w1.alloc (.cells (madeCells #[.string ByteArray.empty] L.length) 9)) := hB1.alloc hB1.size _
  have hF2 := hF1.below ((Below.refl w1.heap.size w1).alloc (Nat.le_refl _) (.cells (madeCells #[.string ByteArray.empty] L.length) 9))
  obtain ⟨vb, hvb⟩ : ∃ vb, vb = w1.heap.size := ⟨_, rfl⟩
  have hvw : w.heap.size ≤ vb := by rw [hvb]; exact hB1.size
  rw [← hvb] at hr0 ⊢
  have hvF : vb ≠ Bs ∧ vb ≠ g ∧ vb ≠ bm := ⟨by have := hF1.ltS; omega, by have := hF1.ltG; omega, by have := hF1.idx.lt; omega⟩
  go_loopw [15] (fun i wr => ∃ k : Nat, k ≤ L.length ∧ i = .int .i64 k ∧ wr.rowIs vb 9 L.length (valTo V k) ∧ IsFN wr w.heap.size Bs g bm L .nilFunc ∧ Below w.heap.size w wr)
    (fun i _ => L.length - (intOf i).toNat)
  case atStart => exact ⟨0, Nat.zero_le _, rfl, hr0.congr (fun i _ => by simp [valTo]), hF2, hB2⟩
  case round =>
    clear hr0 hB2 hF2 hF1 hB1 hvb
    obtain ⟨k, hk, rfl, hrow, hF, hB⟩ := hrel
    by_cases hlt : k < L.length
    · have hcv := hrow.cell hlt
      have hfv := hrow.frozen k
      have hfin : ∀ (W : World) (v : ByteArray), v = valF V k → W.rowIs vb 9 L.length (valTo V k) → IsFN W w.heap.size Bs g bm L .nilFunc → Below w.heap.size w W → 
          (W.setCell ⟨vb, k, none⟩ (.string v)).rowIs vb 9 L.length (valTo V (k + 1)) ∧ IsFN (W.setCell ⟨vb, k, none⟩ (.string v)) w.heap.size Bs g bm L .nilFunc ∧ Below w.heap.size w (W.setCell ⟨vb, k, none⟩ (.string v)) := fun W v hv h1 h2 h3 =>
        ⟨(h1.set k (.string v)).congr (fun i _ => valTo_step V k v hv i), ⟨(Below.heap_setCell _ _ _ _ (by simp; omega)).trans h2.st, (Below.heap_setCell _ _ _ _ (by simp; omega)).trans h2.row, h2.idx.setCell (by simp; omega) _, h2.bS, h2.bG, h2.bM⟩, h3.setCell (by simp; omega) _⟩
      by_cases hv : k < V.length
      · rcases hvs.below hB with rfl | ⟨b, off, rfl, _, hc⟩
        · simp at hv
        · have hcx := hc k hv
          obtain ⟨t, ht⟩ : ∃ t, V[k]?.getD ByteArray.empty = t := ⟨_, rfl⟩
          have Hf : Hid (t = valF V k) := by show _ = _; rw [valF, if_pos hv, ht]
          rw [ht] at hcx
          clear ht hc
          go_wp2
          obtain ⟨g1, g2, g3⟩ := hfin _ t Hf.out hrow hF hB
          exact ⟨⟨k + 1, by omega, by simp, g1, g2, g3⟩, by simp [intOf]; omega⟩
      · have Hf : Hid (numS k = valF V k) := by show _ = _; rw [valF, if_neg hv]
        go_wp2_with fail
        refine (num_any k (by omega) _).mono ?_
        rintro e w2 ⟨rfl, hb2⟩
        have hrow2 := hrow.of_block (hb2.block _ hrow.lt)
        have hcv2 := hrow2.cell hlt
        have hfv2 := hrow2.frozen k
        have hF2 := hF.below hb2
        have hB2 := hB.trans (hb2.mono hB.size)
        clear hrow hF hB hb2 hcv hfv
        go_wp2
        obtain ⟨g1, g2, g3⟩ := hfin _ (numS k) Hf.out hrow2 hF2 hB2
        exact ⟨⟨k + 1, by omega, by simp, g1, g2, g3⟩, by simp [intOf]; omega⟩
    · obtain rfl : k = L.length := by omega
      obtain ⟨q, hqd⟩ : ∃ q, queryOf L query pick = q := ⟨_, rfl⟩
      rw [hqd] at hqs
      have hsr := hs.below hB
      cases nilN
      · go_wp2_with fail
        refine (query_any a cap L query pick wr hmax hp hsr).mono ?_
        rw [hqd]
        rintro e w2 ⟨rfl, rfl⟩
        clear hqd
        go_wp2_with fail
        have hbX : Below w.heap.size w (w2.alloc (.cells #[.int .i64 1, .int .i64 2, .string text, .pointer (some ⟨Bs, 0, none⟩), .slice (some ⟨vb, 0, none⟩) L.length L.length] 38)) := hB.alloc hB.size _
        have hbY : Below w2.heap.size w2 (w2.alloc (.cells #[.int .i64 1, .int .i64 2, .string text, .pointer (some ⟨Bs, 0, none⟩), .slice (some ⟨vb, 0, none⟩) L.length L.length] 38)) := (Below.refl _ _).alloc (Nat.le_refl _) _
        have hFX := hF.below hbY
        have hcR : ∀ (W : World), Below (w2.heap.size + 1) (w2.alloc (.cells #[.int .i64 1, .int .i64 2, .string text, .pointer (some ⟨Bs, 0, none⟩), .slice (some ⟨vb, 0, none⟩) L.length L.length] 38)) W →
            W.cell? ⟨w2.heap.size, 0, none⟩ = some (.int .i64 1) ∧ W.cell? ⟨w2.heap.size, 1, none⟩ = some (.int .i64 2) ∧ W.cell? ⟨w2.heap.size, 2, none⟩ = some (.string text) ∧ W.cell? ⟨w2.heap.size, 3, none⟩ = some (.pointer (some ⟨Bs, 0, none⟩)) ∧ W.cell? ⟨w2.heap.size, 4, none⟩ = some (.slice (some ⟨vb, 0, none⟩) L.length L.length) := fun W hW =>
          ⟨(hW.cell (p := ⟨w2.heap.size, 0, none⟩) (by simp)).trans (by go_simp), (hW.cell (p := ⟨w2.heap.size, 1, none⟩) (by simp)).trans (by go_simp), (hW.cell (p := ⟨w2.heap.size, 2, none⟩) (by simp)).trans (by go_simp), (hW.cell (p := ⟨w2.heap.size, 3, none⟩) (by simp)).trans (by go_simp), (hW.cell (p := ⟨w2.heap.size, 4, none⟩) (by simp)).trans (by go_simp)⟩
        rcases hfq : fst? L q with _ | i
        · refine (lookup_miss w.heap.size Bs g bm L .nilFunc 1 2 text _ _ _ q _ hmax hqs hFX hfq).mono ?_
          rintro e w3 ⟨rfl, hb3⟩
          have hb3' : Below (w2.heap.size + 1) _ w3 := hb3.mono (by simp)
          obtain ⟨r0, r1, r2, r3, r4⟩ := hcR w3 hb3'
          have hF3 := hFX.below hb3
          have hB3 : Below w.heap.size w w3 := hbX.trans (hb3.mono (by have := hB.size; simp; omega))
          clear hb3 hb3' hcR hbX hbY hFX
          go_wp2_with fail
          refine (Field_of _ q ⟨#[]⟩ false 1 2 text _ _ _ _ rfl w3 ((lookup_miss w.heap.size Bs g bm L .nilFunc 1 2 text _ _ _ q _ hmax hqs (hF3.below ((Below.refl _ _).alloc (Nat.le_refl _) _)) hfq).mono fun e w' h => ⟨h.1, h.2.mono (by simp)⟩)).mono ?_
          rintro e w4 ⟨rfl, hb4⟩
          have hB4 : Below w.heap.size w w4 := hB3.trans (hb4.mono hB3.size)
          have hs4 := hs.below hB4
          clear r0 r1 r2 r3 r4 hb4
          go_wp2_with fail
          refine (first_any a cap L q w4 hmax hs4).mono ?_
          have hfi : fstInt L q = -1 := by simp [fstInt, hfq]
          rw [hfi]
          rintro e w5 ⟨rfl, rfl⟩
          clear hfi hfq
          go_wp2
          go_ret
          exact ⟨rfl, hB4⟩
        · have hil := fst_lt hfq
          have hvi : w2.cell? ⟨vb, i, none⟩ = some (.string (valF V i)) := by have := hrow.cell hil; simpa [valTo, hil] using this
          obtain ⟨v, hv⟩ : ∃ v, valF V i = v := ⟨_, rfl⟩
          rw [hv] at hvi
          clear hv
          have hvX := cell_alloc_of hvi (.cells #[.int .i64 1, .int .i64 2, .string text, .pointer (some ⟨Bs, 0, none⟩), .slice (some ⟨vb, 0, none⟩) L.length L.length] 38)
          have hvlt : vb < w2.heap.size := hrow.lt
          refine (lookup_hit w.heap.size Bs g bm L 1 2 text vb L.length L.length i v q _ hmax hqs hFX hfq hil hmax hvX).mono ?_
          rintro e w3 ⟨rfl, hb3⟩
          have hb3' : Below (w2.heap.size + 1) _ w3 := hb3.mono (by simp)
          obtain ⟨r0, r1, r2, r3, r4⟩ := hcR w3 hb3'
          have hF3 := hFX.below hb3
          have hv3 : w3.cell? ⟨vb, i, none⟩ = some (.string v) := (hb3'.cell (p := ⟨vb, i, none⟩) (by simp; omega)).trans hvX
          have hB3 : Below w.heap.size w w3 := hbX.trans (hb3.mono (by have := hB.size; simp; omega))
          clear hb3 hb3' hcR hbX hbY hFX hvX hvi
          go_wp2_with fail
          refine (Field_of _ q v true 1 2 text _ _ _ _ rfl w3 ((lookup_hit w.heap.size Bs g bm L 1 2 text vb L.length L.length i v q _ hmax hqs (hF3.below ((Below.refl _ _).alloc (Nat.le_refl _) _)) hfq hil hmax (cell_alloc_of hv3 _)).mono fun e w' h => ⟨h.1, h.2.mono (by simp)⟩)).mono ?_
          rintro e w4 ⟨rfl, hb4⟩
          have hB4 : Below w.heap.size w w4 := hB3.trans (hb4.mono hB3.size)
          have hs4 := hs.below hB4
          have hv4 : w4.cell? ⟨vb, i, none⟩ = some (.string v) := (hb4.cell (p := ⟨vb, i, none⟩) (World.block_lt_of_cell? _ _ hv3)).trans hv3
          clear r0 r1 r2 r3 r4 hb4 hv3
          go_wp2_with fail
          refine (first_any a cap L q w4 hmax hs4).mono ?_
          have hfi : fstInt L q = (i : Int) := by simp [fstInt, hfq]
          rw [hfi]
          rintro e w5 ⟨rfl, rfl⟩
          clear hfi hfq
          go_wp2
          go_ret
          exact ⟨by simp, hB4⟩
      · go_wp2_with fail
        refine (query_any a cap L query pick wr hmax hp hsr).mono ?_
        rw [hqd]
        rintro e w2 ⟨rfl, rfl⟩
        clear hqd
        go_wp2_with fail
        refine (lookup_none 1 2 text _ q _ ⟨_, _, _, rfl⟩).mono ?_
        rintro e w3 ⟨rfl, hb3⟩
        have hB3 : Below w.heap.size w w3 := (hB.alloc hB.size _).trans (hb3.mono (by have := hB.size; simp; omega))
        go_wp2
        go_ret
        exact ⟨rfl, hB3⟩

theorem lawS4333CValues.walk (a0 : Option Addr) (len0 cap0 : Nat) (z0 : List ByteArray) (a1 : Option Addr) (len1 cap1 : Nat) (z1 : List ByteArray) (a2 : ByteArray) (a3 : Int) (a4 : Bool) (a5 : ByteArray) (w : World)
    (w0 : IsStrs w a0 len0 cap0 z0) (w1 : IsStrs w a1 len1 cap1 z1) (w2 : a2.size ≤ maxLen) (w3 : (Lit.int .u8 a3).wf = true) (_w5 : a5.size ≤ maxLen) :
    Calls Yba.prog 5 #[.slice a0 len0 cap0, .slice a1 len1 cap1, .string a2, .int .u8 a3, .bool a4, .string a5] w fun e w' => e = .returned (.bool true) ∧ Below w.heap.size w w' := by
  obtain ⟨e0, m0, s0, l0⟩ := w0.take
  obtain ⟨e1, m1, s1, l1⟩ := w1.take
  have hk := bounds_u8 w3
  obtain ⟨k, rfl⟩ := Int.eq_ofNat_of_zero_le hk.1
  by_cases h1 : 1024 < len0
  · exact values_long _ _ _ _ _ _ _ _ _ h1 m0
  · have := values_walk a0 a1 cap0 cap1 (z0.take len0) (z1.take len1) a2 k a4 a5 w (by omega) (by omega) s0 s1 (by omega) l0 w2
    rw [e0, e1] at this
    exact this
end Go.Proofs.Ybulkckse
