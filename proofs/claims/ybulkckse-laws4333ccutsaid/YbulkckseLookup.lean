import Derived.Test.YbulkckseNames
namespace Go.Proofs.Ybulkckse
open Go Go.RowKit Go.Maps

set_option maxHeartbeats 1000000 in
theorem position_long (n₀ Bs g bm : Nat) (L : List ByteArray) (cut : Value) (q : ByteArray) (w : World) (hmax : L.length ≤ 1024) (h8 : 8 < L.length) (hq : q.size ≤ maxLen) (hF : IsFN w n₀ Bs g bm L cut) :
    Calls Yba.prog 18 #[.pointer (some ⟨Bs, 0, none⟩), .string q] w fun e w' => e = .returned (.tuple #[.int .i64 ((fst? L q).getD 0 : Nat), .bool (fst? L q).isSome]) ∧ w' = w := by
  have c0 := hF.c0
  have c1 := hF.c1
  have hown := hF.idx
  rcases idxTo_spec L q L.length (Nat.le_refl _) with ⟨h0, hh⟩ | ⟨j, hj, hf, hh, ha⟩
  · rw [fst_none h0]
    have hz := atKey_of_not_has hh (.lit (.int .i64 0))
    clear hF h0
    go_enter Yba.func18, Yba.ntmps18
    go_wp2_with (at_lookup; go_must (refine wpList_lookup_own_ok_int _ rfl _ _ 45 rfl 9 3 .i64 law9 Yba.underlying45 Yba.underlying3 (zero3 _) bm L.length _ rfl hown _ (keyS q) rfl (WideMaps.keyOf_string_mk Yba.underlying9 hq) ?_); intro c hat hwc)
    obtain rfl : c = 0 := by rw [hz] at hat; simpa using hat.symm
    go_ret2
    exact ⟨rfl, rfl⟩
  · rw [hf]
    have hz := ha (.lit (.int .i64 0))
    clear hF ha
    go_enter Yba.func18, Yba.ntmps18
    go_wp2_with (at_lookup; go_must (refine wpList_lookup_own_ok_int _ rfl _ _ 45 rfl 9 3 .i64 law9 Yba.underlying45 Yba.underlying3 (zero3 _) bm L.length _ rfl hown _ (keyS q) rfl (WideMaps.keyOf_string_mk Yba.underlying9 hq) ?_); intro c hat hwc)
    obtain rfl : c = (j : Int) := by rw [hz] at hat; simpa using hat.symm
    go_ret2
    exact ⟨rfl, rfl⟩

set_option maxHeartbeats 1000000 in
theorem position_short (n₀ Bs g bm : Nat) (L : List ByteArray) (cut : Value) (q : ByteArray) (w : World) (h8 : L.length ≤ 8) (hF : IsFN w n₀ Bs g bm L cut) :
    Calls Yba.prog 18 #[.pointer (some ⟨Bs, 0, none⟩), .string q] w fun e w' => e = .returned (.tuple #[.int .i64 ((fst? L q).getD 0 : Nat), .bool (fst? L q).isSome]) ∧ w' = w := by
  have c0 := hF.c0
  have hc : ∀ j, j < L.length → w.cell? ⟨g, j, none⟩ = some (.string (L[j]?.getD ByteArray.empty)) := fun j hj => by have := hF.cell hj; simpa using this
  clear hF
  go_enter Yba.func18, Yba.ntmps18
  go_wp2
  go_loop [32] (fun i => ∃ k : Nat, k ≤ L.length ∧ i = .int .i64 k ∧ NoneTo L q k) (fun i => L.length - (intOf i).toNat)
  case atStart => exact ⟨0, Nat.zero_le _, rfl, fun j hj => by omega⟩
  case round =>
    obtain ⟨k, hk, rfl, hno⟩ := hrel
    by_cases hlt : k < L.length
    · have hcx := hc k hlt
      obtain ⟨t, ht⟩ : ∃ t, L[k]?.getD ByteArray.empty = t := ⟨_, rfl⟩
      rw [ht] at hcx
      have HT : Hid (L[k]?.getD ByteArray.empty = t) := ht
      clear ht hc
      cases hq : (t.toList == q.toList)
      · go_wp2
        exact ⟨⟨k + 1, by omega, by simp, hno.succ (by rw [HT.out]; exact hq)⟩, by simp [intOf]; omega⟩
      · go_wp2
        go_ret2
        refine ⟨?_, rfl⟩
        rw [fst_hit hlt hno (by rw [HT.out]; exact hq)]
        rfl
    · obtain rfl : k = L.length := by omega
      have hn := fst_none hno
      go_wp2
      go_ret2
      exact ⟨rfl, rfl⟩

theorem position_any (n₀ Bs g bm : Nat) (L : List ByteArray) (cut : Value) (q : ByteArray) (w : World) (hmax : L.length ≤ 1024) (hq : q.size ≤ maxLen) (hF : IsFN w n₀ Bs g bm L cut) :
    Calls Yba.prog 18 #[.pointer (some ⟨Bs, 0, none⟩), .string q] w fun e w' => e = .returned (.tuple #[.int .i64 ((fst? L q).getD 0 : Nat), .bool (fst? L q).isSome]) ∧ w' = w := by
  by_cases h8 : 8 < L.length
  · exact position_long n₀ Bs g bm L cut q w hmax h8 hq hF
  · exact position_short n₀ Bs g bm L cut q w (by omega) hF

theorem cell_alloc_of {w : World} {a : Addr} {v : Value} (h : w.cell? a = some v) (o : Obj) : (w.alloc o).cell? a = some v :=
  (((Below.refl w.heap.size w).alloc (Nat.le_refl _) o).cell (World.block_lt_of_cell? _ _ h)).trans h

theorem neq_nilFunc (w : World) : (binOp .neq 44 .nilFunc .nilFunc).run Yba.prog w = .ok (.bool false) w := by kernel_rfl
theorem neq_func (f : Fn) (lb : Array Value) (w : World) : (binOp .neq 44 (.func f #[] lb) .nilFunc).run Yba.prog w = .ok (.bool true) w := by kernel_rfl

/-- A Record by value. -/
abbrev recV (nr ln : Int) (text : ByteArray) (names : Option Addr) (values : Value) : Value := .agg #[.int .i64 nr, .int .i64 ln, .string text, .pointer names, values]

set_option maxHeartbeats 1000000 in
/-- 'Record.field' without a cut. -/
theorem field_plain (n₀ Bs g bm : Nat) (L : List ByteArray) (nr ln : Int) (text : ByteArray) (vb len cap i : Nat) (v : ByteArray) (w : World) (hF : IsFN w n₀ Bs g bm L .nilFunc) (hi : i < len) (_hl : len ≤ 1024) (hv : w.cell? ⟨vb, i, none⟩ = some (.string v)) :
    Calls Yba.prog 19 #[recV nr ln text (some ⟨Bs, 0, none⟩) (.slice (some ⟨vb, 0, none⟩) len cap), .int .i64 i] w fun e w' => e = .returned (.string v) ∧ Below w.heap.size w w' := by
  have c2 := cell_alloc_of hF.c2
  have hv' := cell_alloc_of hv
  have hnn := neq_nilFunc
  go_enter Yba.func19, Yba.ntmps19
  go_wp2
  go_ret
  exact ⟨rfl, (Below.refl _ _).alloc (Nat.le_refl _) _⟩

set_option maxHeartbeats 1000000 in
/-- 'Record.Lookup' without names. -/
theorem lookup_none (nr ln : Int) (text : ByteArray) (vs : Value) (q : ByteArray) (w : World) (hvs : ∃ a l c, vs = .slice a l c) :
    Calls Yba.prog 14 #[recV nr ln text none vs, .string q] w fun e w' => e = .returned (.tuple #[.string ⟨#[]⟩, .bool false]) ∧ Below w.heap.size w w' := by
  obtain ⟨a, l, c, rfl⟩ := hvs
  go_enter Yba.func14, Yba.ntmps14
  go_wp2
  go_ret2
  exact ⟨rfl, (Below.refl _ _).alloc (Nat.le_refl _) _⟩

set_option maxHeartbeats 1000000 in
/-- 'Record.Lookup' at a name that is not there. -/
theorem lookup_miss (n₀ Bs g bm : Nat) (L : List ByteArray) (cut : Value) (nr ln : Int) (text : ByteArray) (a : Option Addr) (l c : Nat) (q : ByteArray) (w : World) (hmax : L.length ≤ 1024) (hq : q.size ≤ maxLen) (hF : IsFN w n₀ Bs g bm L cut) (hf : fst? L q = none) :
    Calls Yba.prog 14 #[recV nr ln text (some ⟨Bs, 0, none⟩) (.slice a l c), .string q] w fun e w' => e = .returned (.tuple #[.string ⟨#[]⟩, .bool false]) ∧ Below w.heap.size w w' := by
  go_enter Yba.func14, Yba.ntmps14
  go_wp2_with fail
  refine (position_any n₀ Bs g bm L cut q _ hmax hq (hF.below ((Below.refl _ _).alloc (Nat.le_refl _) _))).mono ?_
  rw [hf]
  rintro e w' ⟨rfl, rfl⟩
  go_wp2
  go_ret2
  exact ⟨rfl, (Below.refl _ _).alloc (Nat.le_refl _) _⟩

set_option maxHeartbeats 1000000 in
/-- 'Record.Lookup' at a name that is there, without a cut. -/
theorem lookup_hit (n₀ Bs g bm : Nat) (L : List ByteArray) (nr ln : Int) (text : ByteArray) (vb len cap i : Nat) (v : ByteArray) (q : ByteArray) (w : World) (hmax : L.length ≤ 1024) (hq : q.size ≤ maxLen) (hF : IsFN w n₀ Bs g bm L .nilFunc) (hf : fst? L q = some i)
    (hi : i < len) (hl : len ≤ 1024) (hv : w.cell? ⟨vb, i, none⟩ = some (.string v)) :
    Calls Yba.prog 14 #[recV nr ln text (some ⟨Bs, 0, none⟩) (.slice (some ⟨vb, 0, none⟩) len cap), .string q] w fun e w' => e = .returned (.tuple #[.string v, .bool true]) ∧ Below w.heap.size w w' := by
  have hF1 := fun o => hF.below ((Below.refl w.heap.size w).alloc (Nat.le_refl _) o)
  have hv1 := cell_alloc_of hv
  go_enter Yba.func14, Yba.ntmps14
  go_wp2_with fail
  refine (position_any n₀ Bs g bm L .nilFunc q _ hmax hq (hF1 _)).mono ?_
  rw [hf]
  rintro e w' ⟨rfl, rfl⟩
  go_wp2_with fail
  refine (field_plain n₀ Bs g bm L nr ln text vb len cap i v _ (hF1 _) hi hl (hv1 _)).mono ?_
  rintro e w' ⟨rfl, hb⟩
  go_wp2
  go_ret2
  exact ⟨rfl, ((Below.refl _ _).alloc (Nat.le_refl _) _).trans (hb.mono (by simp))⟩

set_option maxHeartbeats 1000000 in
/-- 'Record.Field'. -/
theorem Field_of (rec0 : Value) (q v : ByteArray) (ok : Bool) (nr ln : Int) (text : ByteArray) (p : Option Addr) (a : Option Addr) (l c : Nat) (hrec : rec0 = recV nr ln text p (.slice a l c)) (w : World)
    (hL : Calls Yba.prog 14 #[rec0, .string q] (w.alloc (.cells #[.int .i64 nr, .int .i64 ln, .string text, .pointer p, .slice a l c] 38)) fun e w' => e = .returned (.tuple #[.string v, .bool ok]) ∧ Below (w.heap.size + 1) (w.alloc (.cells #[.int .i64 nr, .int .i64 ln, .string text, .pointer p, .slice a l c] 38)) w') :
    Calls Yba.prog 15 #[rec0, .string q] w fun e w' => e = .returned (.string v) ∧ Below w.heap.size w w' := by
  subst hrec
  go_enter Yba.func15, Yba.ntmps15
  go_wp2_with fail
  refine hL.mono ?_
  rintro e w' ⟨rfl, hb⟩
  go_wp2
  go_ret
  exact ⟨rfl, ((Below.refl _ _).alloc (Nat.le_refl _) _).trans (hb.mono (by omega))⟩
end Go.Proofs.Ybulkckse
