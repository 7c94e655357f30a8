import Derived.Test.YbulkckseLookup
import Derived.Test.YbulkckseNum
import Derived.Test.YbulkckseOpen
import Derived.Deep.RegionWith
import Derived.Deep.QuietTactic
import Derived.BigQuiet
import Derived.Laws.EntriesVeiled
import GoSem.ClaimJoined
namespace Go.Proofs.Ybulkckse
open Go Go.RowKit Go.Maps

theorem IsStrs.take {w : World} {a : Option Addr} {len cap : Nat} {ss : List ByteArray} (h : IsStrs w a len cap ss) :
    (ss.take len).length = len ∧ len ≤ maxLen ∧ Strs w a (ss.take len) ∧ ∀ s ∈ ss.take len, s.size ≤ maxLen := by
  obtain ⟨hm, hr, hs⟩ := h.rows
  have hs' : ∀ s ∈ ss.take len, s.size ≤ maxLen := fun s hx => hs s (List.mem_of_mem_take hx)
  rcases hr with rfl | ⟨b, off, ha, hb, hl, hc⟩
  · exact ⟨by simp, hm, .inl (by simp), hs'⟩
  · have e : (ss.take len).length = len := by simp; omega
    refine ⟨e, hm, .inr ⟨b, off, ha, hb, fun j hj => ?_⟩, hs'⟩
    rw [e] at hj
    rw [List.getElem?_take_of_lt hj]
    exact hc j hj

theorem query_size (L : List ByteArray) (query : ByteArray) (pick : Nat) (hlen : ∀ s ∈ L, s.size ≤ maxLen) (hq : query.size ≤ maxLen) : (queryOf L query pick).size ≤ maxLen := by
  unfold queryOf
  split
  · rename_i h; exact hlen _ (getD_mem h)
  · exact hq

theorem info3' : (Yba.prog.info? 3).map (fun i => (i.zero, i.size, i.bytes)) = some (some (.int .i64 0), 1, 8) := by kernel_rfl

/-- What the cut answers. -/
def cutS (text : ByteArray) (i : Nat) : ByteArray := (text ++ ⟨#[35]⟩) ++ numS i

/-- WHAT ONE CALL OF THE CUT LEAVES: the log holds i alone; nothing else that was there has turned. -/
structure Logged (w w' : World) (n₀ Bl i : Nat) : Prop where
  log : ∃ g c, Boxed w' Bl 22 (.slice (some ⟨g, 0, none⟩) 1 c) ∧ w'.cell? ⟨g, 0, none⟩ = some (.int .i64 i) ∧ 1 ≤ c
  below : Below n₀ w w'
  kept : ∀ k, k < w.heap.size → k ≠ Bl → w'.heap[k]? = w.heap[k]?

theorem Logged.later {w w' w'' : World} {n₀ Bl i : Nat} (h : Logged w w' n₀ Bl i) (hn : n₀ ≤ w.heap.size) (hb : Below w'.heap.size w' w'') : Logged w w'' n₀ Bl i := by
  obtain ⟨g, c, h1, h2, h3⟩ := h.log
  have hsz := h.below.size
  exact ⟨⟨g, c, (hb.block _ h1.lt).trans h1, (hb.cell (p := ⟨g, 0, none⟩) (World.block_lt_of_cell? _ _ h2)).trans h2, h3⟩, h.below.trans (hb.mono (by omega)), fun k hk hne => (hb.block _ (by omega)).trans (h.kept k hk hne)⟩

set_option maxHeartbeats 1000000 in
theorem cut_any (text : ByteArray) (i Bl Bt Bb : Nat) (w : World) (hi : i ≤ 1024) (htx : text.size ≤ 140737488351232) (hl : Boxed w Bl 22 (.slice none 0 0)) (ht : Boxed w Bt 9 (.string text)) (n₀ : Nat) (h0 : n₀ ≤ Bl) (htb : Bt ≠ Bl) :
    Calls Yba.prog 17 #[.string text, .int .i64 i, .pointer (some ⟨Bl, 0, none⟩), .pointer (some ⟨Bt, 0, none⟩), .pointer (some ⟨Bb, 0, none⟩)] w fun e w' => e = .returned (.string (cutS text i)) ∧ Logged w w' n₀ Bl i := by
  obtain ⟨i0, hi0, hz0, hz1, hz2⟩ := info_parts info3'
  have c1 := hl.cell
  have c2 := ht.cell
  have hmx : (1024 : Nat) ≤ maxLen := by decide
  have hns := numS_size i
  go_enter Yba.func17, Yba.ntmps17
  go_wp2_with (at_builtin; go_must (refine wpList_append_own _ rfl _ _ 22 rfl n₀ 3 i0 (.int .i64 0) 1 8 Yba.underlying22 hi0 hz0 hz1 hz2 rfl (by decide) (.slice none 0 0) 0 [] rfl (World.ownsRow_nil _ _ _ _) ⟨w.heap.size, 0, none⟩ 1 1 [.int .i64 i] rfl rfl (cell_one_new _ _ _) (by simp [Value.oneCell']) (by omega) (by omega) (by have := hl.lt; simp; omega) ?_); intro v' w1 hown' hgrow _; obtain ⟨g', cap', rfl⟩ := ownsRow_succ hown'; obtain ⟨hv1, hv2, hr2, hk2, hb2⟩ := hl.appended (by decide) (World.ownsRow_nil _ n₀ 3 1) (by have := hl.lt; omega) h0 hown' hgrow; have hc1 := hv1.cell; have hf1 := hv1.frozen; have ht1 := ((ht.alloc (.cells #[.int .i64 (i : Int)] 3)).kept hgrow (by simp [Value.ownBlock])).cell)
  have hL : Logged w (w1.setCell ⟨Bl, 0, none⟩ (.slice (some ⟨g', 0, none⟩) 1 cap')) n₀ Bl i := by
    refine ⟨⟨g', cap', hv2, ?_, ?_⟩, hb2, fun k hk hne => ?_⟩
    · rcases hr2.2 with ⟨h, _⟩ | ⟨g2, c2, cur, h, hg, hh, hcc, hcm, hsz, htk⟩
      · cases h
      · cases h
        simp only [World.cell?, hh]
        have e1 : (cur.toList.take ((0 + 1) * 1))[0]? = some (.int .i64 (i : Int)) := by rw [htk]; rfl
        rw [List.getElem?_take_of_lt (by omega)] at e1
        simpa using e1
    · rcases hr2.2 with ⟨h, _⟩ | ⟨g2, c2, cur, h, hg, hh, hcc, hcm, hsz, htk⟩
      · cases h
      · cases h; omega
    · rw [Below.heap_setCell _ _ _ _ hne, hgrow.block k (by simp; omega) (by simp [Value.ownBlock]), Below.heap_alloc _ _ _ hk]
  clear hv1 hv2 hr2 hk2 hb2 hown' hgrow
  refine (num_any i hi _).mono ?_
  rintro e w2 ⟨rfl, hb⟩
  have hL2 := hL.later (by have := hl.lt; omega) hb
  clear hL hb
  go_wp2
  go_ret
  exact ⟨rfl, hL2⟩

theorem Logged.from_alloc {w w' : World} {o : Obj} {n₀ Bl i : Nat} (h : Logged (w.alloc o).drew w' n₀ Bl i) (hn : n₀ ≤ w.heap.size) : Logged w w' n₀ Bl i :=
  ⟨h.log, ((Below.refl _ w).alloc hn o).trans ⟨h.below.os, h.below.tape, h.below.output, h.below.size, h.below.block⟩, fun k hk hne => (h.kept k (by show k < (w.alloc o).heap.size; simp; omega) hne).trans (Below.heap_alloc _ _ _ hk)⟩

abbrev cutV (Bl Bt Bb : Nat) : Value := .func (.func 17) #[] #[.pointer (some ⟨Bl, 0, none⟩), .pointer (some ⟨Bt, 0, none⟩), .pointer (some ⟨Bb, 0, none⟩)]

set_option maxHeartbeats 1000000 in
/-- 'Record.field' with a cut. -/
theorem field_cut (n₀ Bs g bm Bl Bt Bb : Nat) (L : List ByteArray) (nr ln : Int) (text : ByteArray) (a : Option Addr) (len cap i : Nat) (w : World) (hF : IsFN w n₀ Bs g bm L (cutV Bl Bt Bb)) (hi : i ≤ 1024) (htx : text.size ≤ 140737488351232)
    (hl : Boxed w Bl 22 (.slice none 0 0)) (ht : Boxed w Bt 9 (.string text)) (h0 : n₀ ≤ Bl) (htb : Bt ≠ Bl) (hn : n₀ ≤ w.heap.size) :
    Calls Yba.prog 19 #[recV nr ln text (some ⟨Bs, 0, none⟩) (.slice a len cap), .int .i64 i] w fun e w' => e = .returned (.string (cutS text i)) ∧ Logged w w' n₀ Bl i := by
  have c2 := cell_alloc_of hF.c2
  have hnn := neq_func
  go_enter Yba.func19, Yba.ntmps19
  go_wp2
  go_region_with (go_at_call 17; go_must (refine (cut_any text i Bl Bt Bb _ hi htx (by exact hl.alloc _) (by exact ht.alloc _) n₀ h0 htb).mono ?_); rintro e w1 ⟨rfl, hL⟩)
  all_goals
    go_wp2
    go_ret
    exact ⟨rfl, hL.from_alloc hn⟩

theorem Logged.from_alloc' {w w' : World} {o : Obj} {n₀ Bl i : Nat} (h : Logged (w.alloc o) w' n₀ Bl i) (hn : n₀ ≤ w.heap.size) : Logged w w' n₀ Bl i :=
  ⟨h.log, ((Below.refl _ w).alloc hn o).trans h.below, fun k hk hne => (h.kept k (by simp; omega) hne).trans (Below.heap_alloc _ _ _ hk)⟩

set_option maxHeartbeats 1000000 in
/-- 'Record.Lookup' at a name that is there, with a cut. -/
theorem lookup_cut (n₀ Bs g bm Bl Bt Bb : Nat) (L : List ByteArray) (nr ln : Int) (text : ByteArray) (a : Option Addr) (len cap i : Nat) (q : ByteArray) (w : World) (hmax : L.length ≤ 1024) (hq : q.size ≤ maxLen) (hF : IsFN w n₀ Bs g bm L (cutV Bl Bt Bb)) (hf : fst? L q = some i)
    (htx : text.size ≤ 140737488351232) (hl : Boxed w Bl 22 (.slice none 0 0)) (ht : Boxed w Bt 9 (.string text)) (h0 : n₀ ≤ Bl) (htb : Bt ≠ Bl) (hn : n₀ ≤ w.heap.size) :
    Calls Yba.prog 14 #[recV nr ln text (some ⟨Bs, 0, none⟩) (.slice a len cap), .string q] w fun e w' => e = .returned (.tuple #[.string (cutS text i), .bool true]) ∧ Logged w w' n₀ Bl i := by
  have hF1 := fun o => hF.below ((Below.refl w.heap.size w).alloc (Nat.le_refl _) o)
  have hil := fst_lt hf
  go_enter Yba.func14, Yba.ntmps14
  go_wp2_with fail
  refine (position_any n₀ Bs g bm L (cutV Bl Bt Bb) q _ hmax hq (hF1 _)).mono ?_
  rw [hf]
  rintro e w' ⟨rfl, rfl⟩
  go_wp2_with fail
  refine (field_cut n₀ Bs g bm Bl Bt Bb L nr ln text a len cap i _ (hF1 _) (by omega) htx (hl.alloc _) (ht.alloc _) h0 htb (by simp; omega)).mono ?_
  rintro e w' ⟨rfl, hL⟩
  go_wp2
  go_ret2
  exact ⟨rfl, hL.from_alloc' hn⟩

theorem IsFN.mono {W : World} {n₀ n₁ Bs g bm : Nat} {L : List ByteArray} {cut : Value} (h : IsFN W n₀ Bs g bm L cut) (hn : n₁ ≤ n₀) : IsFN W n₁ Bs g bm L cut :=
  ⟨h.st, h.row, h.idx, Nat.le_trans hn h.bS, Nat.le_trans hn h.bG, Nat.le_trans hn h.bM⟩
theorem IsFN.ne {W : World} {n₀ Bs g bm : Nat} {L : List ByteArray} {cut : Value} (h : IsFN W n₀ Bs g bm L cut) : Bs ≠ g ∧ Bs ≠ bm := by
  refine ⟨fun e => ?_, fun e => ?_⟩
  · have h1 := h.st
    rw [e, h.row] at h1
    simp at h1
  · obtain ⟨es, clock, hb, _⟩ := h.idx
    have h1 := h.st
    rw [e, hb] at h1
    cases h1
theorem IsFN.setCut {W : World} {n₀ Bs g bm : Nat} {L : List ByteArray} {cut : Value} (h : IsFN W n₀ Bs g bm L cut) (cut' : Value) : IsFN (W.setCell ⟨Bs, 2, none⟩ cut') n₀ Bs g bm L cut' := by
  obtain ⟨n1, n2⟩ := h.ne
  refine ⟨?_, (Below.heap_setCell _ _ _ _ (fun e => n1 e.symm)).trans h.row, h.idx.setCell (fun e => n2 e.symm) _, h.bS, h.bG, h.bM⟩
  obtain ⟨hlt, hk⟩ := Array.getElem?_eq_some_iff.1 h.st
  show (W.heap.modify Bs _)[Bs]? = _
  rw [Array.getElem?_eq_getElem (by rw [Array.size_modify]; exact hlt), Array.getElem_modify_self, hk]
  rfl
theorem IsFN.frz {W : World} {n₀ Bs g bm : Nat} {L : List ByteArray} {cut : Value} (h : IsFN W n₀ Bs g bm L cut) : W.frozen? ⟨Bs, 2, none⟩ = false := by simp [World.frozen?, h.st]

set_option maxHeartbeats 1000000 in
theorem cutlaw_long (a : Option Addr) (len cap : Nat) (query : ByteArray) (pick : Int) (text : ByteArray) (w : World) (hlen : 1024 < len) (hm : len ≤ maxLen) :
    Calls Yba.prog 6 #[.slice a len cap, .string query, .int .u8 pick, .string text] w fun e w' => e = .returned (.bool true) ∧ Below w.heap.size w w' := by
  unfold maxLen at hm
  go_enter Yba.func6, Yba.ntmps6
  go_wp2
  go_ret
  exact ⟨rfl, (Below.refl _ _).alloc (Nat.le_refl _) _⟩

set_option maxHeartbeats 2000000 in
theorem cutlaw_walk (a : Option Addr) (cap : Nat) (L : List ByteArray) (query : ByteArray) (pick : Nat) (text : ByteArray) (w : World) (hmax : L.length ≤ 1024) (hp : pick ≤ 255)
    (hs : Strs w a L) (hlen : ∀ s ∈ L, s.size ≤ maxLen) (hq : query.size ≤ maxLen) (htx : text.size ≤ 140737488351232) :
    Calls Yba.prog 6 #[.slice a L.length cap, .string query, .int .u8 pick, .string text] w fun e w' => e = .returned (.bool true) ∧ Below w.heap.size w w' := by
  have hqs := query_size L query pick hlen hq
  have hbT : Below w.heap.size w (w.alloc (.cells #[.string text] 9)) := (Below.refl _ _).alloc (Nat.le_refl _) _
  have bT0 := Boxed.new w 9 (.string text)
  go_enter Yba.func6, Yba.ntmps6
  go_wp2_with fail
  refine (names_walk a cap L _ hmax (hs.below hbT) hlen).mono ?_
  rintro e w1 ⟨Bs, g, bm, rfl, hF0, hB0⟩
  have hF1 := hF0.mono (n₁ := w.heap.size) (by simp)
  have hB1 : Below w.heap.size w w1 := hbT.trans (hB0.mono (by simp))
  have bT1 : Boxed w1 w.heap.size 9 (.string text) := (hB0.block _ (by simp)).trans bT0
  have hsz1 : w.heap.size + 1 ≤ w1.heap.size := by have := hB0.size; simpa using this
  have hBs : w.heap.size + 1 ≤ Bs := by have := hF0.bS; simpa using this
  have hBsl := hF1.ltS
  have c2 := fun o => cell_alloc_of (cell_alloc_of hF1.c2 o)
  have hfz := hF1.frz
  clear hF0 hB0 bT0 hbT
  go_wp2_with fail
  obtain ⟨W2, hW2⟩ : ∃ W2, (((w1.setCell ⟨Bs, 2, none⟩ (cutV w1.heap.size w.heap.size (w1.heap.size + 1))).alloc (.cells #[.slice none 0 0] 22)).alloc (.cells #[.bool false] 4)) = W2 := ⟨_, rfl⟩
  have hszc : (w1.setCell ⟨Bs, 2, none⟩ (cutV w1.heap.size w.heap.size (w1.heap.size + 1))).heap.size = w1.heap.size := by simp [World.setCell]
  have hF2 : IsFN W2 w.heap.size Bs g bm L (cutV w1.heap.size w.heap.size (w1.heap.size + 1)) := by
    rw [← hW2]
    exact ((hF1.setCut _).below ((Below.refl _ _).alloc (Nat.le_refl _) _)).below ((Below.refl _ _).alloc (Nat.le_refl _) _)
  have bT2 : Boxed W2 w.heap.size 9 (.string text) := by
    rw [← hW2]
    exact ((show Boxed (w1.setCell ⟨Bs, 2, none⟩ _) w.heap.size 9 (.string text) from (Below.heap_setCell _ _ _ _ (by simp; omega)).trans bT1).alloc _).alloc _
  have bL2 : Boxed W2 w1.heap.size 22 (.slice none 0 0) := by
    rw [← hW2]
    have := Boxed.new (w1.setCell ⟨Bs, 2, none⟩ (cutV w1.heap.size w.heap.size (w1.heap.size + 1))) 22 (.slice none 0 0)
    rw [hszc] at this
    exact this.alloc _
  have bB2 : Boxed W2 (w1.heap.size + 1) 4 (.bool false) := by
    rw [← hW2]
    have := Boxed.new ((w1.setCell ⟨Bs, 2, none⟩ (cutV w1.heap.size w.heap.size (w1.heap.size + 1))).alloc (.cells #[.slice none 0 0] 22)) 4 (.bool false)
    rw [World.size_alloc, hszc] at this
    exact this
  have hB2 : Below w.heap.size w W2 := by
    rw [← hW2]
    exact ((hB1.setCell (by simp; omega) _).alloc (by rw [hszc]; omega) _).alloc (by rw [World.size_alloc, hszc]; omega) _
  rw [hW2]
  clear hW2 hszc hfz c2 hF1 bT1 hB1
  obtain ⟨Bl, hBl⟩ : ∃ Bl, w1.heap.size = Bl := ⟨_, rfl⟩
  rw [hBl] at hF2 bL2 bB2 hsz1 hBsl ⊢
  clear hBl w1
  obtain ⟨q, hqd⟩ : ∃ q, queryOf L query pick = q := ⟨_, rfl⟩
  rw [hqd] at hqs
  refine (query_any a cap L query pick W2 hmax hp (hs.below hB2)).mono ?_
  rw [hqd]
  rintro e w2 ⟨rfl, rfl⟩
  clear hqd
  have cT := bT2.cell
  go_wp2_with fail
  have hbY : Below w2.heap.size w2 (w2.alloc (.cells #[.int .i64 3, .int .i64 4, .string text, .pointer (some ⟨Bs, 0, none⟩), .slice none 0 0] 38)) := (Below.refl _ _).alloc (Nat.le_refl _) _
  have hBX : Below w.heap.size w (w2.alloc (.cells #[.int .i64 3, .int .i64 4, .string text, .pointer (some ⟨Bs, 0, none⟩), .slice none 0 0] 38)) := hB2.alloc hB2.size _
  have hFX := hF2.below hbY
  rcases hfq : fst? L q with _ | i
  · refine (lookup_miss w.heap.size Bs g bm L _ 3 4 text _ _ _ q _ hmax hqs hFX hfq).mono ?_
    rintro e w3 ⟨rfl, hb3⟩
    have cB3 : w3.cell? ⟨Bl + 1, 0, none⟩ = some (.bool false) := (hb3.cell (p := ⟨Bl + 1, 0, none⟩) (by have := bB2.lt; simp; omega)).trans (bB2.alloc _).cell
    have cL3 : w3.cell? ⟨Bl, 0, none⟩ = some (.slice none 0 0) := (hb3.cell (p := ⟨Bl, 0, none⟩) (by have := bL2.lt; simp; omega)).trans (bL2.alloc _).cell
    have hB3 : Below w.heap.size w w3 := hBX.trans (hb3.mono (by have := hB2.size; simp; omega))
    have hs3 := hs.below hB3
    clear hb3 hbY hBX hFX
    go_wp2_with fail
    refine (first_any a cap L q w3 hmax hs3).mono ?_
    have hfi : fstInt L q = -1 := by simp [fstInt, hfq]
    rw [hfi]
    rintro e w5 ⟨rfl, rfl⟩
    clear hfi hfq
    go_wp2
    go_ret
    exact ⟨rfl, hB3⟩
  · refine (lookup_cut w.heap.size Bs g bm Bl w.heap.size (Bl + 1) L 3 4 text _ _ _ i q _ hmax hqs hFX hfq htx (bL2.alloc _) (bT2.alloc _) (by omega) (by omega) (by have := hB2.size; simp; omega)).mono ?_
    rintro e w3 ⟨rfl, hL⟩
    obtain ⟨gl, c, bL3, cl3, hc1⟩ := hL.log
    have bB3 : Boxed w3 (Bl + 1) 4 (.bool false) := (hL.kept _ (by have := bB2.lt; simp; omega) (by omega)).trans (bB2.alloc _)
    have bT3 : Boxed w3 w.heap.size 9 (.string text) := (hL.kept _ (by have := bT2.lt; simp; omega) (by omega)).trans (bT2.alloc _)
    have hB3 : Below w.heap.size w w3 := hBX.trans hL.below
    have hs3 := hs.below hB3
    have cB3 := bB3.cell
    have cT3 := bT3.cell
    have cL3 := bL3.cell
    clear hL hbY hBX hFX
    go_wp2_with fail
    refine (first_any a cap L q w3 hmax hs3).mono ?_
    have hfi : fstInt L q = (i : Int) := by simp [fstInt, hfq]
    have hil := fst_lt hfq
    rw [hfi]
    rintro e w5 ⟨rfl, rfl⟩
    clear hfi hfq
    have hns := numS_size i
    have hcut : cutS text i = (text ++ ⟨#[35]⟩) ++ numS i := rfl
    have hll := bL3.lt
    have hgl := World.block_lt_of_cell? _ _ cl3
    have htl := bT3.lt
    have hci : (1 : Int) ≤ c := by omega
    clear hs3 bB3 hs hF2 bL2 bB2 bT2 cT hB2 cB3
    go_wp2
    go_region_with (go_at_call 12; go_must (refine (num_any i (by omega) _).mono ?_); rintro e w6 ⟨rfl, hb6⟩; have k1 : w6.cell? ⟨Bl, 0, none⟩ = some (.slice (some ⟨gl, 0, none⟩) 1 c) := (hb6.cell (p := ⟨Bl, 0, none⟩) hll).trans cL3; have k2 : w6.cell? ⟨gl, 0, none⟩ = some (.int .i64 i) := (hb6.cell (p := ⟨gl, 0, none⟩) hgl).trans cl3; have k3 : w6.cell? ⟨w.heap.size, 0, none⟩ = some (.string text) := (hb6.cell (p := ⟨w.heap.size, 0, none⟩) htl).trans cT3; have hB6 : Below w.heap.size w w6 := hB3.trans (⟨hb6.os, hb6.tape, hb6.output, hb6.size, fun k hk => hb6.block k (Nat.lt_of_lt_of_le hk hB3.size)⟩); clear hb6)
    all_goals
      go_wp2
      go_ret
      exact ⟨rfl, hB6⟩

theorem lawS4333CCut.walk (a0 : Option Addr) (len0 cap0 : Nat) (z0 : List ByteArray) (a1 : ByteArray) (a2 : Int) (a3 : ByteArray) (w : World)
    (w0 : IsStrs w a0 len0 cap0 z0) (w1 : a1.size ≤ maxLen) (w2 : (Lit.int .u8 a2).wf = true) (_w3 : a3.size ≤ maxLen) (_sz1 : a1.data.toList.length ≤ reachBytes) (sz3 : a3.data.toList.length ≤ reachBytes) :
    Calls Yba.prog 6 #[.slice a0 len0 cap0, .string a1, .int .u8 a2, .string a3] w fun e w' => e = .returned (.bool true) ∧ Below w.heap.size w w' := by
  obtain ⟨e0, m0, s0, l0⟩ := w0.take
  have hk := bounds_u8 w2
  obtain ⟨k, rfl⟩ := Int.eq_ofNat_of_zero_le hk.1
  have hsz : a3.size ≤ 140737488351232 := by
    rw [Array.length_toList] at sz3
    exact sz3
  by_cases h1 : 1024 < len0
  · exact cutlaw_long _ _ _ _ _ _ _ h1 m0
  · have := cutlaw_walk a0 cap0 (z0.take len0) a1 k a3 w (by omega) (by omega) s0 l0 w1 hsz
    rw [e0] at this
    exact this
end Go.Proofs.Ybulkckse
