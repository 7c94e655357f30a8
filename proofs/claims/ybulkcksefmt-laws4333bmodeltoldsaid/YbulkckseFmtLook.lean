/- The plain notions, and the walks of Record.Lookup, Field and what they call, at this program's numbers (after the sister seat's texts). -/
import Derived.Test.YbulkckseFmtChecked
import Derived.WalkKit
import Derived.WalkSpells
import Derived.WalkSmall
import Derived.OwnWalk
import Derived.Outline
import Derived.Below
import Derived.Maps.OwnSet
import Derived.Deep.OwnRows
import Derived.RangeFuncBox
namespace Go.Proofs.YbulkckseFmt
open Go Go.RowKit Go.Maps

/-- The first place of q in L. -/
def fst? (L : List ByteArray) (q : ByteArray) : Option Nat := L.findIdx? (fun s => s.toList == q.toList)
def fstInt (L : List ByteArray) (q : ByteArray) : Int := match fst? L q with | some j => (j : Int) | none => -1

/-- THE ROW OF STRINGS L lies at a. -/
def Strs (w : World) (a : Option Addr) (L : List ByteArray) : Prop :=
  L = [] ∨ ∃ b off, a = some ⟨b, off, none⟩ ∧ b < w.heap.size ∧ ∀ j, j < L.length → w.cell? ⟨b, off + j, none⟩ = some (.string (L[j]?.getD ByteArray.empty))

theorem Strs.below {w w' : World} {a : Option Addr} {L : List ByteArray} (h : Strs w a L) (hb : Below w.heap.size w w') : Strs w' a L := by
  rcases h with h | ⟨b, off, ha, hlt, hc⟩
  · exact .inl h
  · exact .inr ⟨b, off, ha, Nat.lt_of_lt_of_le hlt hb.size, fun j hj => (hb.cell (p := ⟨b, off + j, none⟩) hlt).trans (hc j hj)⟩

/-- No place ahead of k holds q. -/
def NoneTo (L : List ByteArray) (q : ByteArray) (k : Nat) : Prop := ∀ j, j < k → ((L[j]?.getD ByteArray.empty).toList == q.toList) = false

theorem fst_hit {L : List ByteArray} {q : ByteArray} {k : Nat} (hk : k < L.length) (h0 : NoneTo L q k) (h : ((L[k]?.getD ByteArray.empty).toList == q.toList) = true) : fst? L q = some k := by
  unfold fst?
  rw [List.findIdx?_eq_some_iff_getElem]
  refine ⟨hk, by simpa [hk] using h, fun j hj => ?_⟩
  have := h0 j hj
  rw [List.getElem?_eq_getElem (by omega)] at this
  simp at this
  simpa using this
theorem fst_none {L : List ByteArray} {q : ByteArray} (h0 : NoneTo L q L.length) : fst? L q = none := by
  unfold fst?
  rw [List.findIdx?_eq_none_iff]
  intro x hx
  obtain ⟨j, hj, rfl⟩ := List.mem_iff_getElem.1 hx
  have := h0 j hj
  rwa [List.getElem?_eq_getElem hj] at this
theorem fst_lt {L : List ByteArray} {q : ByteArray} {k : Nat} (h : fst? L q = some k) : k < L.length := by
  unfold fst? at h
  rw [List.findIdx?_eq_some_iff_getElem] at h
  exact h.1
theorem NoneTo.succ {L : List ByteArray} {q : ByteArray} {k : Nat} (h : NoneTo L q k) (hk : ((L[k]?.getD ByteArray.empty).toList == q.toList) = false) : NoneTo L q (k + 1) := fun j hj => by
  by_cases e : j = k
  · subst e; exact hk
  · exact h j (by omega)

/-- A string as a map's key. -/
def keyS (s : ByteArray) : Lit := .string s.data.toList

/-- The map 'index' behind k rounds. -/
def idxTo (L : List ByteArray) : Nat → DataW Unit
  | 0 => .map []
  | k + 1 => (idxTo L k).put (keyS (L[k]?.getD ByteArray.empty)) (.lit (.int .i64 k))

theorem keyS_inj {a b : ByteArray} : keyS a = keyS b ↔ (a.toList == b.toList) = true := by
  simp [keyS, ByteArray.toList_eq]

theorem isKey_keyS (s : ByteArray) : WideAt.IsKeyLit (keyS s) := by trivial


theorem law9 : Keyed Ybaf.prog 9 := string_keyed Ybaf.underlying9
theorem zero3 (w : World) : (zeroValue 3).run Ybaf.prog w = .ok (.int .i64 0) w := by kernel_rfl
theorem run_makeMap66 (n : Int) (w : World) : (Instr.makeMap 66 (some (.int .i64 n))).run Ybaf.prog w = .ok (.map (some w.heap.size)) (w.alloc (.map #[] 0)) := by
  simp [Instr.makeMap, run_underlying Ybaf.underlying66, asInt, go_sem]
theorem run_makeMap53 (n : Int) (w : World) : (Instr.makeMap 53 (some (.int .i64 n))).run Ybaf.prog w = .ok (.map (some w.heap.size)) (w.alloc (.map #[] 0)) := by
  simp [Instr.makeMap, run_underlying Ybaf.underlying53, asInt, go_sem]

/-- A 'fieldNames' at block Bs, all of it laid from n₀ on: the list L; the index; the cut. -/
structure IsFN (W : World) (n₀ Bs g bm : Nat) (L : List ByteArray) (cut : Value) : Prop where
  st : W.heap[Bs]? = some (.cells #[.slice (some ⟨g, 0, none⟩) L.length L.length, .map (some bm), cut] 69 (0, 0))
  row : W.heap[g]? = some (.cells (L.map Value.string).toArray 9 (0, 0))
  idx : W.ownsMap Ybaf.prog 9 (plainElem Ybaf.prog 3) bm L.length (idxTo L L.length)
  bS : n₀ ≤ Bs
  bG : n₀ ≤ g
  bM : n₀ ≤ bm

theorem IsFN.ltS {W : World} {n₀ Bs g bm : Nat} {L : List ByteArray} {cut : Value} (h : IsFN W n₀ Bs g bm L cut) : Bs < W.heap.size := (Array.getElem?_eq_some_iff.1 h.st).1
theorem IsFN.ltG {W : World} {n₀ Bs g bm : Nat} {L : List ByteArray} {cut : Value} (h : IsFN W n₀ Bs g bm L cut) : g < W.heap.size := (Array.getElem?_eq_some_iff.1 h.row).1
theorem ownsMap_below {H : Type} {P : Program} {k : TypeId} {R : Value → Option (DataW H × List MemPlace)} {W W' : World} {b n : Nat} {D : DataW H} (h : W.ownsMap P k R b n D) {B : Nat} (hb : Below B W W') (hlt : b < B) : W'.ownsMap P k R b n D := by
  obtain ⟨es, clock, h1, F, hs, hD⟩ := h
  exact ⟨es, clock, (hb.block b hlt).trans h1, F, hs, hD⟩
theorem IsFN.below {W W' : World} {n₀ Bs g bm : Nat} {L : List ByteArray} {cut : Value} (h : IsFN W n₀ Bs g bm L cut) (hb : Below W.heap.size W W') : IsFN W' n₀ Bs g bm L cut :=
  ⟨(hb.block _ h.ltS).trans h.st, (hb.block _ h.ltG).trans h.row, ownsMap_below h.idx hb h.idx.lt, h.bS, h.bG, h.bM⟩
theorem IsFN.c0 {W : World} {n₀ Bs g bm : Nat} {L : List ByteArray} {cut : Value} (h : IsFN W n₀ Bs g bm L cut) : W.cell? ⟨Bs, 0, none⟩ = some (.slice (some ⟨g, 0, none⟩) L.length L.length) := by simp [World.cell?, h.st]
theorem IsFN.c1 {W : World} {n₀ Bs g bm : Nat} {L : List ByteArray} {cut : Value} (h : IsFN W n₀ Bs g bm L cut) : W.cell? ⟨Bs, 1, none⟩ = some (.map (some bm)) := by simp [World.cell?, h.st]
theorem IsFN.c2 {W : World} {n₀ Bs g bm : Nat} {L : List ByteArray} {cut : Value} (h : IsFN W n₀ Bs g bm L cut) : W.cell? ⟨Bs, 2, none⟩ = some cut := by simp [World.cell?, h.st]
theorem IsFN.cell {W : World} {n₀ Bs g bm : Nat} {L : List ByteArray} {cut : Value} (h : IsFN W n₀ Bs g bm L cut) {j : Nat} (hj : j < L.length) : W.cell? ⟨g, 0 + j, none⟩ = some (.string (L[j]?.getD ByteArray.empty)) := by simp [World.cell?, h.row, hj]
theorem IsFN.strs {W : World} {n₀ Bs g bm : Nat} {L : List ByteArray} {cut : Value} (h : IsFN W n₀ Bs g bm L cut) : Strs W (some ⟨g, 0, none⟩) L := .inr ⟨g, 0, rfl, h.ltG, fun _ hj => h.cell hj⟩

set_option maxHeartbeats 1000000 in
theorem position_short (n₀ Bs g bm : Nat) (L : List ByteArray) (cut : Value) (q : ByteArray) (w : World) (h8 : L.length ≤ 8) (hF : IsFN w n₀ Bs g bm L cut) :
    Calls Ybaf.prog 24 #[.pointer (some ⟨Bs, 0, none⟩), .string q] w fun e w' => e = .returned (.tuple #[.int .i64 ((fst? L q).getD 0 : Nat), .bool (fst? L q).isSome]) ∧ w' = w := by
  have c0 := hF.c0
  have hc : ∀ j, j < L.length → w.cell? ⟨g, j, none⟩ = some (.string (L[j]?.getD ByteArray.empty)) := fun j hj => by have := hF.cell hj; simpa using this
  clear hF
  go_enter Ybaf.func24, Ybaf.ntmps24
  go_wp2
  go_loop [32] (fun i => ∃ k : Nat, k ≤ L.length ∧ i = .int .i64 k ∧ NoneTo L q k) (fun i => L.length - (intOf i).toNat)
  case atStart => exact ⟨0, Nat.zero_le _, rfl, fun j hj => by omega⟩
  case round =>
    obtain ⟨k, hk, rfl, hno⟩ := hrel
    by_cases hlt : k < L.length
    · have hcx := hc k hlt
      obtain ⟨t, ht⟩ : ∃ t, L[k]?.getD ByteArray.empty = t := ⟨_, rfl⟩
      rw [ht] at hcx
      have HT : Hid (L[k]?.getD ByteArray.empty = t) := ht
      clear ht hc
      cases hq : (t.toList == q.toList)
      · go_wp2
        exact ⟨⟨k + 1, by omega, by simp, hno.succ (by rw [HT.out]; exact hq)⟩, by simp [intOf]; omega⟩
      · go_wp2
        go_ret2
        refine ⟨?_, rfl⟩
        rw [fst_hit hlt hno (by rw [HT.out]; exact hq)]
        rfl
    · obtain rfl : k = L.length := by omega
      have hn := fst_none hno
      go_wp2
      go_ret2
      exact ⟨rfl, rfl⟩

/-- WHERE 'position' FINDS q in the list L. -/
def Pos (L : List ByteArray) (q : ByteArray) (r : Option Nat) : Prop :=
  ∀ (n₀ Bs g bm : Nat) (cut : Value) (w : World), IsFN w n₀ Bs g bm L cut →
    Calls Ybaf.prog 24 #[.pointer (some ⟨Bs, 0, none⟩), .string q] w fun e w' => e = .returned (.tuple #[.int .i64 (r.getD 0 : Nat), .bool r.isSome]) ∧ w' = w

theorem pos_short (L : List ByteArray) (q : ByteArray) (h8 : L.length ≤ 8) : Pos L q (fst? L q) := fun n₀ Bs g bm cut w hF => position_short n₀ Bs g bm L cut q w h8 hF

set_option maxHeartbeats 1000000 in
theorem pos_long_none (L : List ByteArray) (q : ByteArray) (hmax : L.length ≤ 1024) (h8 : 8 < L.length) (hq : q.size ≤ maxLen) (hh : Maps.has (idxTo L L.length) (keyS q) = false) : Pos L q none := by
  intro n₀ Bs g bm cut w hF
  have c0 := hF.c0
  have c1 := hF.c1
  have hown := hF.idx
  have hz := atKey_of_not_has hh (.lit (.int .i64 0))
  clear hF
  go_enter Ybaf.func24, Ybaf.ntmps24
  go_wp2_with (at_lookup; go_must (refine wpList_lookup_own_ok_int _ rfl _ _ 66 rfl 9 3 .i64 law9 Ybaf.underlying66 Ybaf.underlying3 (zero3 _) bm L.length _ rfl hown _ (keyS q) rfl (WideMaps.keyOf_string_mk Ybaf.underlying9 hq) ?_); intro c hat hwc)
  obtain rfl : c = 0 := by rw [hz] at hat; simpa using hat.symm
  go_ret2
  exact ⟨rfl, rfl⟩

set_option maxHeartbeats 1000000 in
theorem pos_long_some (L : List ByteArray) (q : ByteArray) (j : Nat) (hmax : L.length ≤ 1024) (h8 : 8 < L.length) (hq : q.size ≤ maxLen) (hh : Maps.has (idxTo L L.length) (keyS q) = true) (ha : (idxTo L L.length).atKey (keyS q) (.lit (.int .i64 0)) = .lit (.int .i64 j)) : Pos L q (some j) := by
  intro n₀ Bs g bm cut w hF
  have c0 := hF.c0
  have c1 := hF.c1
  have hown := hF.idx
  have hz := ha
  clear hF ha
  go_enter Ybaf.func24, Ybaf.ntmps24
  go_wp2_with (at_lookup; go_must (refine wpList_lookup_own_ok_int _ rfl _ _ 66 rfl 9 3 .i64 law9 Ybaf.underlying66 Ybaf.underlying3 (zero3 _) bm L.length _ rfl hown _ (keyS q) rfl (WideMaps.keyOf_string_mk Ybaf.underlying9 hq) ?_); intro c hat hwc)
  obtain rfl : c = (j : Int) := by rw [hz] at hat; simpa using hat.symm
  go_ret2
  exact ⟨rfl, rfl⟩

theorem cell_alloc_of {w : World} {a : Addr} {v : Value} (h : w.cell? a = some v) (o : Obj) : (w.alloc o).cell? a = some v :=
  (((Below.refl w.heap.size w).alloc (Nat.le_refl _) o).cell (World.block_lt_of_cell? _ _ h)).trans h

theorem neq_nilFunc (w : World) : (binOp .neq 67 .nilFunc .nilFunc).run Ybaf.prog w = .ok (.bool false) w := by kernel_rfl
theorem neq_func (f : Fn) (lb : Array Value) (w : World) : (binOp .neq 67 (.func f #[] lb) .nilFunc).run Ybaf.prog w = .ok (.bool true) w := by kernel_rfl

/-- A Record by value. -/
abbrev recV (nr ln : Int) (text : ByteArray) (names : Option Addr) (values : Value) : Value := .agg #[.int .i64 nr, .int .i64 ln, .string text, .pointer names, values]

set_option maxHeartbeats 1000000 in
/-- 'Record.field' without a cut. -/
theorem field_plain (n₀ Bs g bm : Nat) (L : List ByteArray) (nr ln : Int) (text : ByteArray) (vb len cap i : Nat) (v : ByteArray) (w : World) (hF : IsFN w n₀ Bs g bm L .nilFunc) (hi : i < len) (_hl : len ≤ 1024) (hv : w.cell? ⟨vb, i, none⟩ = some (.string v)) :
    Calls Ybaf.prog 25 #[recV nr ln text (some ⟨Bs, 0, none⟩) (.slice (some ⟨vb, 0, none⟩) len cap), .int .i64 i] w fun e w' => e = .returned (.string v) ∧ Below w.heap.size w w' := by
  have c2 := cell_alloc_of hF.c2
  have hv' := cell_alloc_of hv
  have hnn := neq_nilFunc
  go_enter Ybaf.func25, Ybaf.ntmps25
  go_wp2
  go_ret
  exact ⟨rfl, (Below.refl _ _).alloc (Nat.le_refl _) _⟩

set_option maxHeartbeats 1000000 in
/-- 'Record.Lookup' without names. -/
theorem lookup_none (nr ln : Int) (text : ByteArray) (vs : Value) (q : ByteArray) (w : World) (hvs : ∃ a l c, vs = .slice a l c) :
    Calls Ybaf.prog 16 #[recV nr ln text none vs, .string q] w fun e w' => e = .returned (.tuple #[.string ⟨#[]⟩, .bool false]) ∧ Below w.heap.size w w' := by
  obtain ⟨a, l, c, rfl⟩ := hvs
  go_enter Ybaf.func16, Ybaf.ntmps16
  go_wp2
  go_ret2
  exact ⟨rfl, (Below.refl _ _).alloc (Nat.le_refl _) _⟩

set_option maxHeartbeats 1000000 in
/-- 'Record.Lookup' at a name that is not there. -/
theorem lookup_miss (n₀ Bs g bm : Nat) (L : List ByteArray) (cut : Value) (nr ln : Int) (text : ByteArray) (a : Option Addr) (l c : Nat) (q : ByteArray) (w : World) (hP : Pos L q none) (hF : IsFN w n₀ Bs g bm L cut) :
    Calls Ybaf.prog 16 #[recV nr ln text (some ⟨Bs, 0, none⟩) (.slice a l c), .string q] w fun e w' => e = .returned (.tuple #[.string ⟨#[]⟩, .bool false]) ∧ Below w.heap.size w w' := by
  go_enter Ybaf.func16, Ybaf.ntmps16
  go_wp2_with fail
  refine (hP _ _ _ _ _ _ (hF.below ((Below.refl _ _).alloc (Nat.le_refl _) _))).mono ?_
  rintro e w' ⟨rfl, rfl⟩
  go_wp2
  go_ret2
  exact ⟨rfl, (Below.refl _ _).alloc (Nat.le_refl _) _⟩

set_option maxHeartbeats 1000000 in
/-- 'Record.Lookup' at a name that is there, without a cut. -/
theorem lookup_hit (n₀ Bs g bm : Nat) (L : List ByteArray) (nr ln : Int) (text : ByteArray) (vb len cap i : Nat) (v : ByteArray) (q : ByteArray) (w : World) (hP : Pos L q (some i)) (hF : IsFN w n₀ Bs g bm L .nilFunc)
    (hi : i < len) (hl : len ≤ 1024) (hv : w.cell? ⟨vb, i, none⟩ = some (.string v)) :
    Calls Ybaf.prog 16 #[recV nr ln text (some ⟨Bs, 0, none⟩) (.slice (some ⟨vb, 0, none⟩) len cap), .string q] w fun e w' => e = .returned (.tuple #[.string v, .bool true]) ∧ Below w.heap.size w w' := by
  have hF1 := fun o => hF.below ((Below.refl w.heap.size w).alloc (Nat.le_refl _) o)
  have hv1 := cell_alloc_of hv
  go_enter Ybaf.func16, Ybaf.ntmps16
  go_wp2_with fail
  refine (hP _ _ _ _ _ _ (hF1 _)).mono ?_
  rintro e w' ⟨rfl, rfl⟩
  go_wp2_with fail
  refine (field_plain n₀ Bs g bm L nr ln text vb len cap i v _ (hF1 _) hi hl (hv1 _)).mono ?_
  rintro e w' ⟨rfl, hb⟩
  go_wp2
  go_ret2
  exact ⟨rfl, ((Below.refl _ _).alloc (Nat.le_refl _) _).trans (hb.mono (by simp))⟩

set_option maxHeartbeats 1000000 in
/-- 'Record.Field'. -/
theorem Field_of (rec0 : Value) (q v : ByteArray) (ok : Bool) (nr ln : Int) (text : ByteArray) (p : Option Addr) (a : Option Addr) (l c : Nat) (hrec : rec0 = recV nr ln text p (.slice a l c)) (w : World)
    (hL : Calls Ybaf.prog 16 #[rec0, .string q] (w.alloc (.cells #[.int .i64 nr, .int .i64 ln, .string text, .pointer p, .slice a l c] 31)) fun e w' => e = .returned (.tuple #[.string v, .bool ok]) ∧ Below (w.heap.size + 1) (w.alloc (.cells #[.int .i64 nr, .int .i64 ln, .string text, .pointer p, .slice a l c] 31)) w') :
    Calls Ybaf.prog 12 #[rec0, .string q] w fun e w' => e = .returned (.string v) ∧ Below w.heap.size w w' := by
  subst hrec
  go_enter Ybaf.func12, Ybaf.ntmps12
  go_wp2_with fail
  refine hL.mono ?_
  rintro e w' ⟨rfl, hb⟩
  go_wp2
  go_ret
  exact ⟨rfl, ((Below.refl _ _).alloc (Nat.le_refl _) _).trans (hb.mono (by omega))⟩
end Go.Proofs.YbulkckseFmt
