import Derived.Test.YbulkckseFmtPre
import Derived.Deep.Slices
import Derived.Deep.SlicePairs
import Derived.ProofKit
namespace Go.Proofs.YbulkckseFmt
open Go Go.RowKit Go.Deep Go.WideShapes

theorem cells34 : Ybaf.prog.cellsOf 34 = 4 := by kernel_rfl
theorem cells4 : Ybaf.prog.cellsOf 4 = 1 := by kernel_rfl
theorem cells5' : Ybaf.prog.cellsOf 5 = 1 := by kernel_rfl

set_option maxRecDepth 100000 in
/-- One entry, off its four cells. -/
theorem open_rc {H : Type} {enc : TypeId × Value → H} {W : World} {n : Nat} {cs : List Value} {x : DataW H × List MemPlace} (h : DataW.trod enc Ybaf.prog W 0 (fun _ => true) true n 34 cs = some x) :
    ∃ r : RC, cs = [.bool r.has, .bool r.wide, .int .u8 r.val, .bool r.fail] ∧ 0 ≤ r.val := by
  obtain ⟨xs, k, _, _, hl, hxl, hf⟩ := DataW.trod_struct Ybaf.underlying34 h
  rw [cells34] at hl
  match cs, hl with
  | [v0, v1, v2, v3], _ =>
    match xs, hxl with
    | [y0, y1, y2, y3], _ =>
      have g0 := hf 0 _ rfl
      have g1 := hf 1 _ rfl
      have g2 := hf 2 _ rfl
      have g3 := hf 3 _ rfl
      simp [cells4, cells5'] at g0 g1 g2 g3
      obtain ⟨b0, e0, _⟩ := DataW.trod_bool Ybaf.underlying4 g0
      obtain ⟨b1, e1, _⟩ := DataW.trod_bool Ybaf.underlying4 g1
      obtain ⟨i2, e2, _, w2⟩ := DataW.trod_int Ybaf.underlying5 g2
      obtain ⟨b3, e3, _⟩ := DataW.trod_bool Ybaf.underlying4 g3
      simp only [List.cons.injEq, and_true] at e0 e1 e2 e3
      subst e0 e1 e2 e3
      refine ⟨⟨b0, b1, i2, b3⟩, rfl, ?_⟩
      simp [Lit.wf, IntKind.min, IntKind.signed] at w2
      exact w2.1

set_option maxRecDepth 100000 in
theorem open_recs {H : Type} {enc : TypeId × Value → H} {W : World} {a0 : Option Addr} {len cap fuel : Nat} {x : DataW H × List MemPlace} (h : DataW.trod enc Ybaf.prog W 0 (fun _ => true) true fuel 22 [.slice a0 len cap] = some x) :
    ∃ R : Nat → RC, RecsAt len R a0 W ∧ ∀ j, 0 ≤ (R j).val := by
  rcases open_slice Ybaf.underlying22 h with ⟨hcs, _⟩ | ⟨a, len', cap', m, n, D, Pl, hcs, hb, hl, hm, hmm, _, hx⟩
  · simp only [List.cons.injEq, and_true, Value.slice.injEq] at hcs
    obtain ⟨rfl, rfl, rfl⟩ := hcs
    exact ⟨fun _ => ⟨false, false, 0, false⟩, fun j hj => by omega, fun _ => Int.le_refl _⟩
  · simp only [List.cons.injEq, and_true, Value.slice.injEq] at hcs
    obtain ⟨rfl, rfl, rfl⟩ := hcs
    simp only [if_true] at hmm
    subst hmm
    by_cases hl0 : len = 0
    · subst hl0
      exact ⟨fun _ => ⟨false, false, 0, false⟩, fun j hj => by omega, fun _ => Int.le_refl _⟩
    obtain ⟨b, off, spot⟩ := a
    have hspot : spot = none := by
      obtain ⟨cs', h1, h2⟩ := hx 0 (by omega)
      obtain ⟨r, rfl, _⟩ := open_rc h2
      rw [cells34] at h1
      obtain ⟨_, _, hcell⟩ := World.cells?_some h1
      have k0 := hcell 0 (by omega)
      simpa [Addr.add] using World.cell?_spot (show W.cell? _ = some _ from k0)
    subst hspot
    have each : ∀ i, ∃ r : RC, i < len → (∃ br off', (⟨b, off, none⟩ : Addr) = ⟨br, off', none⟩ ∧ W.cell? ⟨br, off' + i * 4, none⟩ = some (.bool r.has) ∧ W.cell? ⟨br, off' + i * 4 + 1, none⟩ = some (.bool r.wide) ∧ W.cell? ⟨br, off' + i * 4 + 2, none⟩ = some (.int .u8 r.val) ∧ W.cell? ⟨br, off' + i * 4 + 3, none⟩ = some (.bool r.fail)) ∧ 0 ≤ r.val := by
      intro i
      by_cases hi : i < len
      case neg => exact ⟨⟨false, false, 0, false⟩, fun h => absurd h hi⟩
      obtain ⟨cs', h1, h2⟩ := hx i (by omega)
      obtain ⟨r, rfl, hv⟩ := open_rc h2
      rw [cells34] at h1
      obtain ⟨_, _, hcell⟩ := World.cells?_some h1
      have k0 := hcell 0 (by omega)
      have k1 := hcell 1 (by omega)
      have k2 := hcell 2 (by omega)
      have k3 := hcell 3 (by omega)
      rw [add_add] at k0 k1 k2 k3
      rw [add_plain] at k0 k1 k2 k3
      exact ⟨r, fun _ => ⟨⟨b, off, rfl, by simpa using k0, by simpa [Nat.add_assoc] using k1, by simpa [Nat.add_assoc] using k2, by simpa [Nat.add_assoc] using k3⟩, hv⟩⟩
    obtain ⟨q, hq⟩ := Classical.axiomOfChoice each
    refine ⟨fun j => if j < len then q j else ⟨false, false, 0, false⟩, fun j hj => ?_, fun j => ?_⟩
    · obtain ⟨⟨br, off, e, c⟩, _⟩ := hq j hj
      simp only [hj, if_true]
      exact ⟨br, off, by rw [e], c⟩
    · by_cases hj : j < len
      · simp only [hj, if_true]; exact (hq j hj).2
      · simp only [hj, if_false]; exact Int.le_refl _

set_option maxRecDepth 100000 in
theorem open_vals {H : Type} {enc : TypeId × Value → H} {W : World} {a0 : Option Addr} {len cap fuel : Nat} {x : DataW H × List MemPlace} (h : DataW.trod enc Ybaf.prog W 0 (fun _ => true) true fuel 23 [.slice a0 len cap] = some x) :
    ∃ v : Nat → Int, ValsAt len v a0 W ∧ ∀ j, 0 ≤ v j := by
  rcases open_slice Ybaf.underlying23 h with ⟨hcs, _⟩ | ⟨a, len', cap', m, n, D, Pl, hcs, hb, hl, hm, hmm, _, hx⟩
  · simp only [List.cons.injEq, and_true, Value.slice.injEq] at hcs
    obtain ⟨rfl, rfl, rfl⟩ := hcs
    exact ⟨fun _ => 0, fun j hj => by omega, fun _ => Int.le_refl _⟩
  · simp only [List.cons.injEq, and_true, Value.slice.injEq] at hcs
    obtain ⟨rfl, rfl, rfl⟩ := hcs
    simp only [if_true] at hmm
    subst hmm
    by_cases hl0 : len = 0
    · subst hl0
      exact ⟨fun _ => 0, fun j hj => by omega, fun _ => Int.le_refl _⟩
    obtain ⟨b, off, spot⟩ := a
    have hspot : spot = none := by
      obtain ⟨cs', h1, h2⟩ := hx 0 (by omega)
      obtain ⟨r, rfl, _⟩ := DataW.trod_int Ybaf.underlying5 h2
      rw [cells5'] at h1
      obtain ⟨_, _, hcell⟩ := World.cells?_some h1
      have k0 := hcell 0 (by omega)
      simpa [Addr.add] using World.cell?_spot (show W.cell? _ = some _ from k0)
    subst hspot
    have each : ∀ i, ∃ r : Int, i < len → (∃ br off', (⟨b, off, none⟩ : Addr) = ⟨br, off', none⟩ ∧ W.cell? ⟨br, off' + i, none⟩ = some (.int .u8 r)) ∧ 0 ≤ r := by
      intro i
      by_cases hi : i < len
      case neg => exact ⟨0, fun h => absurd h hi⟩
      obtain ⟨cs', h1, h2⟩ := hx i (by omega)
      obtain ⟨r, rfl, _, w2⟩ := DataW.trod_int Ybaf.underlying5 h2
      rw [cells5'] at h1
      obtain ⟨_, _, hcell⟩ := World.cells?_some h1
      have k0 := hcell 0 (by omega)
      rw [add_add] at k0
      rw [add_plain] at k0
      simp [Lit.wf, IntKind.min, IntKind.signed] at w2
      exact ⟨r, fun _ => ⟨⟨b, off, rfl, by simpa using k0⟩, w2.1⟩⟩
    obtain ⟨q, hq⟩ := Classical.axiomOfChoice each
    refine ⟨fun j => if j < len then q j else 0, fun j hj => ?_, fun j => ?_⟩
    · obtain ⟨⟨br, off, e, c⟩, _⟩ := hq j hj
      simp only [hj, if_true]
      exact ⟨br, off, by rw [e], c⟩
    · by_cases hj : j < len
      · simp only [hj, if_true]; exact (hq j hj).2
      · simp only [hj, if_false]; exact Int.le_refl _

set_option maxRecDepth 100000 in
set_option maxHeartbeats 1000000 in
/-- The law at a long argument. -/
theorem law_big (n m : Nat) (ra va : Option Addr) (rcap vcap : Nat) (s : Int) (w : World) (h : 1024 < n ∨ 1024 < m) :
    Calls Ybaf.prog 3 #[.slice ra n rcap, .slice va m vcap, .int .u8 s] w fun e w' => e = .returned (.bool true) ∧ Below w.heap.size w w' := by
  by_cases h1 : 1024 < n
  · go_enter Ybaf.func3, Ybaf.ntmps3
    go_wp2_with fail
    go_ret
    exact ⟨rfl, (Below.refl _ w).alloc (Nat.le_refl _) _⟩
  · have h2 : 1024 < m := by omega
    go_enter Ybaf.func3, Ybaf.ntmps3
    go_wp2_with fail
    go_ret
    exact ⟨rfl, (Below.refl _ w).alloc (Nat.le_refl _) _⟩
end Go.Proofs.YbulkckseFmt
