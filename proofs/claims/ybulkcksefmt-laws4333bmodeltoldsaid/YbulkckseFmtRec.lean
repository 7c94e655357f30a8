/- zzs4333bval, zzs4333bnames, zzs4333brec: what a record of the law's is. -/
import Derived.Test.YbulkckseFmtLook
import Derived.Laws.MakeOwn
namespace Go.Proofs.YbulkckseFmt
open Go Go.RowKit Go.Maps

/-- What zzs4333bval gives. -/
def bvalS (v : Int) : ByteArray := if v % 4 = 0 then ⟨#[]⟩ else if v % 4 = 1 then ⟨#[112]⟩ else if v % 4 = 2 then ⟨#[113]⟩ else ⟨#[32, 112]⟩

set_option maxRecDepth 100000 in
set_option maxHeartbeats 1000000 in
theorem bval_any (v : Int) (hv : 0 ≤ v) (w : World) : Calls Ybaf.prog 7 #[.int .u8 v] w fun e w' => e = .returned (.string (bvalS v)) ∧ w' = w := by
  obtain ⟨r, hr⟩ : ∃ r : Nat, v.tmod 4 = (r : Int) := ⟨(v.tmod 4).toNat, by rw [Int.tmod_eq_emod_of_nonneg hv]; omega⟩
  have hr4 : r < 4 := by rw [Int.tmod_eq_emod_of_nonneg hv] at hr; omega
  have hm : v % 4 = (r : Int) := by rw [Int.tmod_eq_emod_of_nonneg hv] at hr; exact hr
  have hb : bvalS v = if (r : Int) = 0 then ⟨#[]⟩ else if (r : Int) = 1 then ⟨#[112]⟩ else if (r : Int) = 2 then ⟨#[113]⟩ else ⟨#[32, 112]⟩ := by unfold bvalS; rw [hm]
  rw [hb]
  clear hb hm
  obtain rfl | rfl | rfl | rfl : r = 0 ∨ r = 1 ∨ r = 2 ∨ r = 3 := by omega
  all_goals
    go_enter Ybaf.func7, Ybaf.ntmps7
    go_wp2
    go_ret
    exact ⟨rfl, rfl⟩

set_option maxRecDepth 100000 in
set_option maxHeartbeats 1000000 in
/-- zzs4333bnames, the list laid at block g. -/
theorem bnames_any (g : Nat) (L : List ByteArray) (w : World) (hmax : L.length ≤ 1024) (hrow : w.heap[g]? = some (.cells (L.map Value.string).toArray 9 (0, 0))) (hlen : ∀ s ∈ L, s.size ≤ maxLen) (n₀ : Nat) (hg : n₀ ≤ g) :
    Calls Ybaf.prog 13 #[.slice (some ⟨g, 0, none⟩) L.length L.length] w fun e w' => ∃ Bs bm, e = .returned (.pointer (some ⟨Bs, 0, none⟩)) ∧ IsFN w' n₀ Bs g bm L .nilFunc ∧ Below w.heap.size w w' := by
  have hmm := run_makeMap66
  have hgl : g < w.heap.size := (Array.getElem?_eq_some_iff.1 hrow).1
  have hc : ∀ j, j < L.length → w.cell? ⟨g, j, none⟩ = some (.string (L[j]?.getD ByteArray.empty)) := fun j hj => by simp [World.cell?, hrow, hj]
  have Hrow : Hid (w.heap[g]? = some (.cells (L.map Value.string).toArray 9 (0, 0))) := hrow
  have Hc : Hid (∀ j, j < L.length → w.cell? ⟨g, j, none⟩ = some (.string (L[j]?.getD ByteArray.empty))) := hc
  clear hrow hc
  go_enter Ybaf.func13, Ybaf.ntmps13
  go_wp2_with fail
  go_loopw [11] (fun i wr => ∃ k : Nat, k ≤ L.length ∧ i = .int .i64 k ∧ wr.ownsMap Ybaf.prog 9 (plainElem Ybaf.prog 3) w.heap.size k (idxTo L k) ∧ Below w.heap.size w wr)
    (fun i _ => L.length - (intOf i).toNat)
  case atStart => exact ⟨0, Nat.zero_le _, rfl, World.ownsMap_made _ _ _ _, (Below.refl _ w).alloc (Nat.le_refl _) _⟩
  case round =>
    obtain ⟨k, hk, rfl, hown, hnx⟩ := hrel
    by_cases hlt : k < L.length
    · obtain ⟨t, ht⟩ : ∃ t, L[k]?.getD ByteArray.empty = t := ⟨_, rfl⟩
      have hcx : wr.cell? ⟨g, k, none⟩ = some (.string t) := by rw [← ht]; exact (hnx.cell (p := ⟨g, k, none⟩) hgl).trans (Hc.out k hlt)
      have htl : t.size ≤ maxLen := by
        rw [← ht]; refine hlen _ ?_
        rw [List.getElem?_eq_getElem hlt]; simp
      have hstep : Hid (idxTo L (k + 1) = (idxTo L k).put (keyS t) (.lit (.int .i64 k))) := by
        show _ = _; rw [idxTo, ht]
      have hmx : (1024 : Nat) < maxLen := by decide
      have hki : (Lit.int .i64 (k : Int)).wf = true := WalkArith.wf_i64 (by omega)
      clear ht
      go_wp2_with (at_mapUpdate; refine wpList_mapUpdate_own _ rfl _ _ _ 66 rfl 9 3 law9 Ybaf.underlying66 _ w.heap.size k _ rfl hown (by omega) _ _ (keyS t) rfl rfl (WideMaps.keyOf_string_mk Ybaf.underlying9 htl) _ [] (plainElem_int Ybaf.underlying3 hki) ?_; intro w1 hown1 hgrow1)
      exact ⟨⟨k + 1, by omega, by simp, by rw [hstep.out]; exact hown1, hnx.grown hgrow1 hnx.size (fun j e => by cases e; omega)⟩, by simp [intOf]; omega⟩
    · obtain rfl : k = L.length := by omega
      have hmb := hown.lt
      go_wp2
      go_ret
      exact ⟨wr.heap.size, w.heap.size, rfl, ⟨World.alloc_heap_new _ _, (Below.heap_alloc _ _ _ (Nat.lt_of_lt_of_le hgl hnx.size)).trans ((hnx.block _ hgl).trans Hrow.out), hown.alloc _, by have := hnx.size; omega, hg, by omega⟩, hnx.alloc hnx.size _⟩
end Go.Proofs.YbulkckseFmt
