import Derived.Test.YbulkckseIters
import Derived.WalkSpells
import Derived.WalkSmall
import Derived.RegionTactic
import Derived.Outline
import Derived.Deep.QuietTactic
import Derived.BigQuiet
namespace Go.Proofs.Ybulkckse
open Go Go.RowKit Go.Shelf

theorem enters7 : ∀ args w, (callFunc 7 args).run Yba.prog w = .ok (.enter 7 args) w := enters_of Yba.func7 (by kernel_rfl) rfl

/-- THE CALL OF Collect in 'LawS4333AOrder'. -/
theorem order_collect (b off len cap : Nat) (zs : List Int) (w : World) (hlen : 0 < len) (hmax : len ≤ 1024) (Bn Bd : Nat) (hb : b < w.heap.size) (hBn : Bn < w.heap.size) (hBd : Bd < w.heap.size)
    (hcn : w.cell? ⟨Bn, 0, none⟩ = some (.int .i64 len)) (hcd : w.cell? ⟨Bd, 0, none⟩ = some (.slice (some ⟨b, off, none⟩) len cap))
    (hc : ∀ j, j < len → w.cell? ⟨b, off + j, none⟩ = some (.int .i64 (zs[j]?.getD 0))) :
    Calls Yba.prog 8 #[.func (.func 7) #[] #[.pointer (some ⟨Bn, 0, none⟩), .pointer (some ⟨Bd, 0, none⟩)]] w fun e W' => ∃ g c, e = .returned (.slice (some ⟨g, 0, none⟩) len c) ∧ w.heap.size ≤ g ∧ (∀ j, j < len → W'.cell? ⟨g, j, none⟩ = some (.int .i64 (zs[j]?.getD 0))) ∧ len ≤ c ∧ c ≤ maxLen ∧ Below w.heap.size w W' := by
  refine (callsIn_wide.1 (collect8 Fence.wide 4 trivial rfl (by omega) 7 trivial enters7 _ _ len hmax w (iter7 Fence.wide 3 trivial rfl (by omega) Bn Bd w.heap.size b off len cap zs hlen hmax w hb hBn hBd hcn hcd hc)
    (fun xs W l o o' hl ho hs => ⟨hs.1, hs.2.trans ((Below.refl _ _).grown (grownBy_putObj' W l o') (by have := (Array.getElem?_eq_some_iff.1 ho).1; omega) (fun k e => by cases e; exact hl))⟩))).mono ?_
  rintro e W' ⟨g, c, xs, rfl, hown, rfl, hbel⟩
  rw [upto_length] at hown ⊢
  rcases hown.2 with ⟨h, _⟩ | ⟨g', c', cur, h, hg, hh, hcc, hcm, hsz, htk⟩
  · cases h
  · cases h
    refine ⟨g, c, rfl, hg, fun j hj => ?_, hcc, hcm, hbel⟩
    have e1 : (cur.toList.take (len * 1))[j]? = some (.int .i64 (zs[j]?.getD 0)) := by rw [htk]; simp [upto, hj]
    rw [List.getElem?_take_of_lt (by omega)] at e1
    simp [World.cell?, hh]
    simpa using e1

theorem order_collect0 (w : World) (Bn Bd : Nat) (hBn : Bn < w.heap.size)
    (hcn : w.cell? ⟨Bn, 0, none⟩ = some (.int .i64 0)) :
    Calls Yba.prog 8 #[.func (.func 7) #[] #[.pointer (some ⟨Bn, 0, none⟩), .pointer (some ⟨Bd, 0, none⟩)]] w fun e W' => ∃ g c, e = .returned (.slice (some ⟨g, 0, none⟩) 0 c) ∧ Below w.heap.size w W' := by
  refine (callsIn_wide.1 (collect8 Fence.wide 4 trivial rfl (by omega) 7 trivial enters7 _ _ 0 (by omega) w (iter7_none Fence.wide 3 trivial rfl Bn Bd w.heap.size w hBn hcn)
    (fun xs W l o o' hl ho hs => ⟨hs.1, hs.2.trans ((Below.refl _ _).grown (grownBy_putObj' W l o') (by have := (Array.getElem?_eq_some_iff.1 ho).1; omega) (fun k e => by cases e; exact hl))⟩))).mono ?_
  rintro e W' ⟨g, c, xs, rfl, hown, rfl, hbel⟩
  exact ⟨g, c, rfl, hbel⟩

set_option maxHeartbeats 1000000 in
theorem order_long (a0 : Option Addr) (len cap : Nat) (w : World) (hlen : 1024 < len) (hm : len ≤ maxLen) :
    Calls Yba.prog 3 #[.slice a0 len cap] w fun e w' => e = .returned (.bool true) ∧ Below w.heap.size w w' := by
  unfold maxLen at hm
  go_enter Yba.func3, Yba.ntmps3
  go_wp2
  go_ret
  exact ⟨rfl, (Below.refl _ _).alloc (Nat.le_refl _) _⟩

set_option maxHeartbeats 1000000 in
theorem order_some (b off len cap : Nat) (zs : List Int) (w : World) (hlen : 0 < len) (hmax : len ≤ 1024) (hb : b < w.heap.size)
    (hc : ∀ j, j < len → w.cell? ⟨b, off + j, none⟩ = some (.int .i64 (zs[j]?.getD 0))) :
    Calls Yba.prog 3 #[.slice (some ⟨b, off, none⟩) len cap] w fun e w' => e = .returned (.bool true) ∧ Below w.heap.size w w' := by
  have hnil := fun (w : World) (a : Option Addr) (n c : Nat) => Lib.run_eql_slice_nil (P := Yba.prog) w 22 3 a n c 0 0 Yba.underlying22
  go_enter Yba.func3, Yba.ntmps3
  go_wp2_with fail
  have hb0 : Below w.heap.size w ((w.alloc (.cells #[.slice (some ⟨b, off, none⟩) len cap] 22)).alloc (.cells #[.int .i64 len] 3)) := ((Below.refl _ w).alloc (Nat.le_refl _) _).alloc (by simp) _
  refine (order_collect b off len cap zs _ hlen hmax (w.heap.size + 1) w.heap.size (by simp; omega) (by simp) (by simp; omega) (by go_simp) (by go_simp) (fun j hj => by rw [hb0.cell (p := ⟨b, off + j, none⟩) hb]; exact hc j hj)).mono ?_
  rintro e W' ⟨g, c, rfl, hg, hgc, hlc, hcm, hbel⟩
  have hsz := hbel.size
  simp only [World.size_alloc] at hg hsz
  have hd : W'.cell? ⟨w.heap.size, 0, none⟩ = some (.slice (some ⟨b, off, none⟩) len cap) := (hbel.cell (p := ⟨w.heap.size, 0, none⟩) (by simp; omega)).trans (by go_simp)
  have hnn : W'.cell? ⟨w.heap.size + 1, 0, none⟩ = some (.int .i64 len) := (hbel.cell (p := ⟨w.heap.size + 1, 0, none⟩) (by simp)).trans (by go_simp)
  have hcd : ∀ j, j < len → W'.cell? ⟨b, off + j, none⟩ = some (.int .i64 (zs[j]?.getD 0)) := fun j hj => by rw [hbel.cell (p := ⟨b, off + j, none⟩) (by simp; omega), hb0.cell (p := ⟨b, off + j, none⟩) hb]; exact hc j hj
  have hB : Below w.heap.size w W' := hb0.trans (hbel.mono (by simp; omega))
  clear hbel hb0 hc
  go_wp2
  go_loopw [6] (fun i wr => ∃ k : Nat, k ≤ len ∧ i = .int .i64 k ∧ ∃ nq, wr = W'.drewN nq) (fun i _ => len - (intOf i).toNat)
  case atStart => exact ⟨0, Nat.zero_le _, rfl, 0, rfl⟩
  case round =>
    obtain ⟨k, hk, rfl, nq, rfl⟩ := hrel
    by_cases hlt : k < len
    · have h1 := hgc k hlt
      have h2 := hcd k hlt
      clear hgc hcd
      have hki : (k : Int) < (len : Int) := by omega
      go_wp2
      go_quiet (fail)
      go_wp2
      exact ⟨⟨k + 1, by omega, by simp, _, rfl⟩, by simp [intOf]; omega⟩
    · go_wp2
      go_ret
      exact ⟨rfl, below_drewN hB _⟩

set_option maxHeartbeats 1000000 in
theorem order_zero (a0 : Option Addr) (cap : Nat) (w : World) :
    Calls Yba.prog 3 #[.slice a0 0 cap] w fun e w' => e = .returned (.bool true) ∧ Below w.heap.size w w' := by
  have hnil := fun (w : World) (a : Option Addr) (n c : Nat) => Lib.run_eql_slice_nil (P := Yba.prog) w 22 3 a n c 0 0 Yba.underlying22
  go_enter Yba.func3, Yba.ntmps3
  go_wp2_with fail
  have hb0 : Below w.heap.size w ((w.alloc (.cells #[.slice a0 0 cap] 22)).alloc (.cells #[.int .i64 0] 3)) := ((Below.refl _ w).alloc (Nat.le_refl _) _).alloc (by simp) _
  refine (order_collect0 _ (w.heap.size + 1) w.heap.size (by simp) (by go_simp)).mono ?_
  rintro e W' ⟨g, c, rfl, hbel⟩
  have hsz := hbel.size
  simp only [World.size_alloc] at hsz
  have hnn : W'.cell? ⟨w.heap.size + 1, 0, none⟩ = some (.int .i64 0) := (hbel.cell (p := ⟨w.heap.size + 1, 0, none⟩) (by simp)).trans (by go_simp)
  have hB : Below w.heap.size w W' := hb0.trans (hbel.mono (by simp; omega))
  clear hbel hb0
  go_wp2
  go_loop [6] (fun i => i = .int .i64 0) (fun _ => 0)
  case atStart => rfl
  case round =>
    obtain rfl := hrel
    go_wp2
    go_ret
    exact ⟨rfl, hB⟩
end Go.Proofs.Ybulkckse
