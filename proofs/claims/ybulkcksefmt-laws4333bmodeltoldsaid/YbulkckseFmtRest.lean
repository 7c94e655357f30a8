import Derived.Test.YbulkckseFmtCons
namespace Go.Proofs.YbulkckseFmt
open Go Go.RowKit Go.Maps Go.Stop

set_option maxRecDepth 100000 in
theorem tryMap_any (f1 f2 : Fn) (l1 l2 : Array Value) (W : World) : Calls Ybaf.prog 14 #[.func f1 #[] l1, .func f2 #[] l2] W fun e W' => e = .returned (.func (.func 22) #[] #[.pointer (some ⟨W.heap.size, 0, none⟩), .pointer (some ⟨W.heap.size + 1, 0, none⟩)]) ∧ W' = (W.alloc (.cells #[.func f1 #[] l1] 37)).alloc (.cells #[.func f2 #[] l2] 58) := by
  go_enter Ybaf.func14, Ybaf.ntmps14
  go_wp2_with fail
  go_ret
  exact ⟨rfl, rfl⟩

set_option maxRecDepth 100000 in
theorem filterErr_any (f1 f2 : Fn) (l1 l2 : Array Value) (W : World) : Calls Ybaf.prog 18 #[.func f1 #[] l1, .func f2 #[] l2] W fun e W' => e = .returned (.func (.func 27) #[] #[.pointer (some ⟨W.heap.size, 0, none⟩), .pointer (some ⟨W.heap.size + 1, 0, none⟩)]) ∧ W' = (W.alloc (.cells #[.func f1 #[] l1] 37)).alloc (.cells #[.func f2 #[] l2] 60) := by
  go_enter Ybaf.func18, Ybaf.ntmps18
  go_wp2_with fail
  go_ret
  exact ⟨rfl, rfl⟩

/-- What RestrictField leaves. -/
structure Rest (n : Nat) (L : List ByteArray) (sf : Fn) (sl : Array Value) (bN bW bm bq bf bs bk : Nat) (W : World) : Prop where
  N : Boxed W bN 9 (.string sK)
  M : Boxed W bW 53 (.map (some bm))
  own : W.ownsMap Ybaf.prog 9 heldElem bm n (wantTo L L.length)
  q : Boxed W bq 37 (.func sf #[] sl)
  f : Boxed W bf 58 (.func (.func 15) #[] #[.pointer (some ⟨bN, 0, none⟩)])
  s : Boxed W bs 37 (.func (.func 22) #[] #[.pointer (some ⟨bq, 0, none⟩), .pointer (some ⟨bf, 0, none⟩)])
  k : Boxed W bk 60 (.func (.func 19) #[] #[.pointer (some ⟨bW, 0, none⟩), .pointer (some ⟨bN, 0, none⟩)])

set_option maxRecDepth 100000 in
set_option maxHeartbeats 1000000 in
theorem restrict_any (sf : Fn) (sl : Array Value) (g cap : Nat) (L : List ByteArray) (W : World) (hmax : L.length ≤ 1024) (hlen : ∀ t ∈ L, t.size ≤ maxLen) (hgl : g < W.heap.size) (hc : ∀ j, j < L.length → W.cell? ⟨g, j, none⟩ = some (.string (L[j]?.getD ByteArray.empty))) :
    Calls Ybaf.prog 8 #[.func sf #[] sl, .string sK, .slice (some ⟨g, 0, none⟩) L.length cap] W fun e W' => ∃ bN bW bm bq bf bs bk n, e = .returned (.func (.func 27) #[] #[.pointer (some ⟨bs, 0, none⟩), .pointer (some ⟨bk, 0, none⟩)]) ∧ Rest n L sf sl bN bW bm bq bf bs bk W' ∧ (W.heap.size ≤ bN ∧ W.heap.size ≤ bW ∧ W.heap.size ≤ bm ∧ W.heap.size ≤ bq ∧ W.heap.size ≤ bf ∧ W.heap.size ≤ bs ∧ W.heap.size ≤ bk) ∧ Below W.heap.size W W' := by
  have hmm := run_makeMap53
  have Hc : Hid (∀ j, j < L.length → W.cell? ⟨g, j, none⟩ = some (.string (L[j]?.getD ByteArray.empty))) := hc
  clear hc
  go_enter Ybaf.func8, Ybaf.ntmps8
  go_wp2_with fail
  go_loopw [16] (fun i wr => ∃ k : Nat, k ≤ L.length ∧ i = .int .i64 k ∧ wr.ownsMap Ybaf.prog 9 heldElem (W.heap.size + 1) k (wantTo L k) ∧ Below W.heap.size W wr ∧ Boxed wr W.heap.size 9 (.string sK) ∧ Boxed wr (W.heap.size + 1 + 1) 53 (.map (some (W.heap.size + 1))))
    (fun i _ => L.length - (intOf i).toNat)
  case atStart =>
    refine ⟨0, Nat.zero_le _, rfl, ?_, ?_, ?_, ?_⟩
    · have := (World.ownsMap_made (W.alloc (.cells #[.string sK] 9)) Ybaf.prog 9 heldElem).alloc (.cells #[.map (some (W.heap.size + 1))] 53)
      rwa [World.size_alloc] at this
    · exact (((Below.refl _ W).alloc (Nat.le_refl _) _).alloc (by simp) _).alloc (by simp; omega) _
    · exact ((Boxed.new W 9 _).alloc _).alloc _
    · exact heap_new _ _ (by simp)
  case round =>
    obtain ⟨k, hk, rfl, hown, hnx, hbN, hbW⟩ := hrel
    by_cases hlt : k < L.length
    · obtain ⟨t, ht⟩ : ∃ t, L[k]?.getD ByteArray.empty = t := ⟨_, rfl⟩
      have hcx : wr.cell? ⟨g, k, none⟩ = some (.string t) := by rw [← ht]; exact (hnx.cell (p := ⟨g, k, none⟩) hgl).trans (Hc.out k hlt)
      have htl : t.size ≤ maxLen := by
        rw [← ht]; refine hlen _ ?_
        rw [List.getElem?_eq_getElem hlt]; simp
      have hstep : Hid (wantTo L (k + 1) = (wantTo L k).put (keyS t) (.held (.bool true))) := by
        show _ = _; rw [wantTo, ht]
      have hmx : (1024 : Nat) < maxLen := by decide
      have cW := hbW.cell
      clear ht
      go_wp2_with (at_mapUpdate; refine wpList_mapUpdate_own _ rfl _ _ _ 53 rfl 9 4 law9 Ybaf.underlying53 _ (W.heap.size + 1) k _ rfl hown (by omega) _ _ (keyS t) rfl rfl (WideMaps.keyOf_string_mk Ybaf.underlying9 htl) (.held (.bool true)) [] rfl ?_; intro w1 hown1 hgrow1)
      exact ⟨⟨k + 1, by omega, by simp, by rw [hstep.out]; exact hown1, hnx.grown hgrow1 hnx.size (fun j e => by cases e; omega), hbN.kept hgrow1 (by simp), hbW.kept hgrow1 (by simp)⟩, by simp [intOf]; omega⟩
    · obtain rfl : k = L.length := by omega
      have hmb := hown.lt
      go_wp2_with fail
      refine (tryMap_any _ _ _ _ _).mono ?_
      rintro e W2 ⟨rfl, rfl⟩
      go_wp2_with fail
      refine (filterErr_any _ _ _ _ _).mono ?_
      rintro e W3 ⟨rfl, rfl⟩
      go_wp2_with fail
      go_ret
      have hs := hnx.size
      refine ⟨W.heap.size, W.heap.size + 1 + 1, W.heap.size + 1, wr.heap.size, wr.heap.size + 1, wr.heap.size + 1 + 1, wr.heap.size + 1 + 1 + 1, L.length, rfl, ⟨(((hbN.alloc _).alloc _).alloc _).alloc _, (((hbW.alloc _).alloc _).alloc _).alloc _, (((hown.alloc _).alloc _).alloc _).alloc _, (((Boxed.new wr 37 _).alloc _).alloc _).alloc _, ?_, ?_, heap_new _ _ (by simp)⟩, by omega, (((hnx.alloc hs _).alloc (by simp; omega) _).alloc (by simp; omega) _).alloc (by simp; omega) _⟩
      · exact heap_up (heap_up (heap_new _ _ (by simp)) _) _
      · exact heap_up (heap_new _ _ (by simp)) _
end Go.Proofs.YbulkckseFmt
