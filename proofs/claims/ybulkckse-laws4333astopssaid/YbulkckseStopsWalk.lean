import Derived.Test.YbulkckseIters9
import Derived.Test.YbulkckseOpen
import Derived.WalkSpells
import Derived.WalkSmall
import Derived.RegionTactic
import Derived.Outline
import Derived.Deep.QuietTactic
import Derived.BigQuiet
namespace Go.Proofs.Ybulkckse
open Go Go.RowKit Go.Shelf

theorem enters9 : ∀ args w, (callFunc 9 args).run Yba.prog w = .ok (.enter 9 args) w := enters_of Yba.func9 (by kernel_rfl) rfl

/-- THE CALL OF Collect in 'LawS4333AStops'. -/
theorem stops_collect (B len cap m : Nat) (a : Option Addr) (ss : List ByteArray) (hm : m ≤ len) (hmax : len ≤ 1024) (w : World) (hw : w.heap.size = B + 5)
    (hcaps : Caps w B (.slice a len cap) m 0 0)
    (hrow : m = 0 ∨ ∃ b off, a = some ⟨b, off, none⟩ ∧ b < B ∧ ∀ j, j < len → w.cell? ⟨b, off + j, none⟩ = some (.string (ss[j]?.getD ByteArray.empty))) :
    Calls Yba.prog 10 #[.func (.func 9) #[] (caps9 B)] w fun e W' => ∃ g c, e = .returned (.slice (some ⟨g, 0, none⟩) m c) ∧ B + 5 ≤ g ∧ (∀ j, j < m → W'.cell? ⟨g, j, none⟩ = some (.string (ss[j]?.getD ByteArray.empty))) ∧ m ≤ c ∧ c ≤ maxLen ∧ Caps W' B (.slice a len cap) m 1 m ∧ Below B w W' := by
  have hS : ∀ (X : List ByteArray → Prop) xs (W : World) (l : Nat) (o o' : Obj), w.heap.size ≤ l → W.heap[l]? = some o → (X xs ∧ Caps W B (.slice a len cap) m 1 m ∧ Below B w W) → (X xs ∧ Caps (W.putObj l o') B (.slice a len cap) m 1 m ∧ Below B w (W.putObj l o')) := fun X xs W l o o' hl ho hs =>
    ⟨hs.1, hs.2.1.putObj (by omega) o', hs.2.2.trans ((Below.refl _ _).grown (grownBy_putObj' W l o') (by have := (Array.getElem?_eq_some_iff.1 ho).1; omega) (fun k e => by cases e; omega))⟩
  rcases hrow with rfl | ⟨b, off, rfl, hb, hc⟩
  · refine (callsIn_wide.1 (collect10 Fence.wide 4 trivial rfl (by omega) 9 trivial enters9 _ _ 0 (by omega) w (by rw [hw]; exact iter9_none Fence.wide 3 trivial rfl B _ w hcaps) (hS _))).mono ?_
    rintro e W' ⟨g, c, xs, rfl, hown, rfl, hC, hbel⟩
    rcases hown.2 with ⟨h, _⟩ | ⟨g', c', cur, h, hg, hh, hcc, hcm, hsz, htk⟩
    · cases h
    · cases h
      exact ⟨g, c, rfl, by omega, fun j hj => by omega, hcc, hcm, hC, hbel⟩
  · refine (callsIn_wide.1 (collect10 Fence.wide 4 trivial rfl (by omega) 9 trivial enters9 _ _ m (by omega) w (by rw [hw]; exact iter9 Fence.wide 3 trivial rfl (by omega) B b off len cap m ss hm hmax w hb hcaps hc) (hS _))).mono ?_
    rintro e W' ⟨g, c, xs, rfl, hown, rfl, hC, hbel⟩
    rw [upto_length] at hown ⊢
    rcases hown.2 with ⟨h, _⟩ | ⟨g', c', cur, h, hg, hh, hcc, hcm, hsz, htk⟩
    · cases h
    · cases h
      refine ⟨g, c, rfl, by omega, fun j hj => ?_, hcc, hcm, hC, hbel⟩
      have e1 : (cur.toList.take (m * 1))[j]? = some (.string (ss[j]?.getD ByteArray.empty)) := by rw [htk]; simp [upto, hj]
      rw [List.getElem?_take_of_lt (by omega)] at e1
      simp [World.cell?, hh]
      simpa using e1

abbrev laid5 (w : World) (sv : Value) (m : Nat) : World := ((((w.alloc (.cells #[sv] 27)).alloc (.cells #[.int .i64 m] 3)).alloc (.cells #[.int .i64 0] 3)).alloc (.cells #[.int .i64 0] 3)).alloc (.cells #[.int .i64 0] 3)

theorem caps_new (w : World) (sv : Value) (m : Nat) : Caps (laid5 w sv m) w.heap.size sv m 0 0 := by
  have b1 := Boxed.new w 27 sv
  have b2 := Boxed.new (w.alloc (.cells #[sv] 27)) 3 (.int .i64 m)
  have b3 := Boxed.new ((w.alloc (.cells #[sv] 27)).alloc (.cells #[.int .i64 m] 3)) 3 (.int .i64 0)
  have b4 := Boxed.new (((w.alloc (.cells #[sv] 27)).alloc (.cells #[.int .i64 m] 3)).alloc (.cells #[.int .i64 0] 3)) 3 (.int .i64 0)
  have b5 := Boxed.new ((((w.alloc (.cells #[sv] 27)).alloc (.cells #[.int .i64 m] 3)).alloc (.cells #[.int .i64 0] 3)).alloc (.cells #[.int .i64 0] 3)) 3 (.int .i64 0)
  simp only [World.size_alloc] at b2 b3 b4 b5
  exact ⟨(((b1.alloc _).alloc _).alloc _).alloc _, ((b2.alloc _).alloc _).alloc _, (b3.alloc _).alloc _, b4.alloc _, b5⟩

theorem below_laid5 (w : World) (sv : Value) (m : Nat) : Below w.heap.size w (laid5 w sv m) :=
  (((((Below.refl _ w).alloc (Nat.le_refl _) _).alloc (by simp) _).alloc (by simp; omega) _).alloc (by simp; omega) _).alloc (by simp; omega) _

set_option maxHeartbeats 1000000 in
theorem stops_long (a0 : Option Addr) (len cap : Nat) (k : Int) (w : World) (hlen : 1024 < len) (hm : len ≤ maxLen) :
    Calls Yba.prog 4 #[.slice a0 len cap, .int .u16 k] w fun e w' => e = .returned (.bool true) ∧ Below w.heap.size w w' := by
  unfold maxLen at hm
  go_enter Yba.func4, Yba.ntmps4
  go_wp2
  go_ret
  exact ⟨rfl, (Below.refl _ _).alloc (Nat.le_refl _) _⟩

set_option maxHeartbeats 1000000 in
theorem stops_le (a : Option Addr) (len cap k : Nat) (ss : List ByteArray) (w : World) (hmax : len ≤ 1024) (hk : k ≤ len) 
    (hrow : k = 0 ∨ ∃ b off, a = some ⟨b, off, none⟩ ∧ b < w.heap.size ∧ ∀ j, j < len → w.cell? ⟨b, off + j, none⟩ = some (.string (ss[j]?.getD ByteArray.empty))) :
    Calls Yba.prog 4 #[.slice a len cap, .int .u16 k] w fun e w' => e = .returned (.bool true) ∧ Below w.heap.size w w' := by
  have hnil := fun (w : World) (a : Option Addr) (n c : Nat) => Lib.run_eql_slice_nil (P := Yba.prog) w 27 9 a n c 0 0 Yba.underlying27
  go_enter Yba.func4, Yba.ntmps4
  go_wp2_with fail
  have hb0 := below_laid5 w (.slice a len cap) k
  refine (stops_collect w.heap.size len cap k a ss (by omega) hmax _ (by simp [World.size_alloc]) (caps_new w (.slice a len cap) k) (hrow.imp id fun ⟨b, off, ha, hb, hc⟩ => ⟨b, off, ha, hb, fun j hj => by rw [hb0.cell (p := ⟨b, off + j, none⟩) hb]; exact hc j hj⟩)).mono ?_
  rintro e W' ⟨g, c, rfl, hg, hgc, hlc, hcm, hC, hbel⟩
  have hB : Below w.heap.size w W' := hb0.trans hbel
  have c1 := hC.data.cell
  have c2 := hC.m.cell
  have c3 := hC.calls.cell
  have c4 := hC.yields.cell
  have c5 := hC.refused.cell
  have hrow' : k = 0 ∨ ∃ b off, a = some ⟨b, off, none⟩ ∧ ∀ j, j < len → W'.cell? ⟨b, off + j, none⟩ = some (.string (ss[j]?.getD ByteArray.empty)) := hrow.imp id fun ⟨b, off, ha, hb, hc⟩ => ⟨b, off, ha, fun j hj => by rw [hB.cell (p := ⟨b, off + j, none⟩) hb]; exact hc j hj⟩
  clear hbel hb0 hrow hC
  go_wp2
  go_loopw [11] (fun i wr => ∃ k : Nat, k ≤ k ∧ i = .int .i64 k ∧ ∃ nq, wr = W'.drewN nq) (fun i _ => k - (intOf i).toNat)
  case atStart => exact ⟨0, Nat.zero_le _, rfl, 0, rfl⟩
  case round =>
    obtain ⟨q, hq, rfl, nq, rfl⟩ := hrel
    by_cases hlt : q < k
    · rcases hrow' with h | ⟨b, off, rfl, hcd⟩
      · omega
      · have h1 := hgc q hlt
        have h2 := hcd q (by omega)
        clear hgc hcd
        have hki : (q : Int) < (k : Int) := by omega
        have hkl : (q : Int) < (len : Int) := by omega
        go_wp2
        go_quiet (fail)
        go_wp2
        exact ⟨⟨q + 1, by omega, by simp, _, rfl⟩, by simp [intOf]; omega⟩
    · go_wp2
      go_ret
      exact ⟨rfl, below_drewN hB _⟩

set_option maxHeartbeats 1000000 in
theorem stops_gt (a : Option Addr) (len cap k : Nat) (ss : List ByteArray) (w : World) (hmax : len ≤ 1024) (hk : len < k) (hk16 : k ≤ 65535)
    (hrow : len = 0 ∨ ∃ b off, a = some ⟨b, off, none⟩ ∧ b < w.heap.size ∧ ∀ j, j < len → w.cell? ⟨b, off + j, none⟩ = some (.string (ss[j]?.getD ByteArray.empty))) :
    Calls Yba.prog 4 #[.slice a len cap, .int .u16 k] w fun e w' => e = .returned (.bool true) ∧ Below w.heap.size w w' := by
  have hnil := fun (w : World) (a : Option Addr) (n c : Nat) => Lib.run_eql_slice_nil (P := Yba.prog) w 27 9 a n c 0 0 Yba.underlying27
  go_enter Yba.func4, Yba.ntmps4
  go_wp2_with fail
  have hb0 := below_laid5 w (.slice a len cap) len
  refine (stops_collect w.heap.size len cap len a ss (by omega) hmax _ (by simp [World.size_alloc]) (caps_new w (.slice a len cap) len) (hrow.imp id fun ⟨b, off, ha, hb, hc⟩ => ⟨b, off, ha, hb, fun j hj => by rw [hb0.cell (p := ⟨b, off + j, none⟩) hb]; exact hc j hj⟩)).mono ?_
  rintro e W' ⟨g, c, rfl, hg, hgc, hlc, hcm, hC, hbel⟩
  have hB : Below w.heap.size w W' := hb0.trans hbel
  have c1 := hC.data.cell
  have c2 := hC.m.cell
  have c3 := hC.calls.cell
  have c4 := hC.yields.cell
  have c5 := hC.refused.cell
  have hrow' : len = 0 ∨ ∃ b off, a = some ⟨b, off, none⟩ ∧ ∀ j, j < len → W'.cell? ⟨b, off + j, none⟩ = some (.string (ss[j]?.getD ByteArray.empty)) := hrow.imp id fun ⟨b, off, ha, hb, hc⟩ => ⟨b, off, ha, fun j hj => by rw [hB.cell (p := ⟨b, off + j, none⟩) hb]; exact hc j hj⟩
  clear hbel hb0 hrow hC
  go_wp2
  go_loopw [11] (fun i wr => ∃ k : Nat, k ≤ len ∧ i = .int .i64 k ∧ ∃ nq, wr = W'.drewN nq) (fun i _ => len - (intOf i).toNat)
  case atStart => exact ⟨0, Nat.zero_le _, rfl, 0, rfl⟩
  case round =>
    obtain ⟨q, hq, rfl, nq, rfl⟩ := hrel
    by_cases hlt : q < len
    · rcases hrow' with h | ⟨b, off, rfl, hcd⟩
      · omega
      · have h1 := hgc q hlt
        have h2 := hcd q (by omega)
        clear hgc hcd
        have hki : (q : Int) < (len : Int) := by omega
        have hkl : (q : Int) < (len : Int) := by omega
        go_wp2
        go_quiet (fail)
        go_wp2
        exact ⟨⟨q + 1, by omega, by simp, _, rfl⟩, by simp [intOf]; omega⟩
    · go_wp2
      go_ret
      exact ⟨rfl, below_drewN hB _⟩
theorem lawS4333AStops.walk (a0 : Option Addr) (len0 cap0 : Nat) (z0 : List ByteArray) (a1 : Int) (w : World) (w0 : IsStrs w a0 len0 cap0 z0) (w1 : (Lit.int .u16 a1).wf = true) :
    Calls Yba.prog 4 #[.slice a0 len0 cap0, .int .u16 a1] w fun e w' => e = .returned (.bool true) ∧ Below w.heap.size w w' := by
  obtain ⟨hml, hrow, _⟩ := w0.rows
  have hk := bounds_u16 w1
  obtain ⟨k, rfl⟩ := Int.eq_ofNat_of_zero_le hk.1
  by_cases h1 : 1024 < len0
  · exact stops_long _ _ _ _ _ h1 hml
  · by_cases h2 : k ≤ len0
    · refine stops_le _ _ _ _ z0 _ (by omega) h2 ?_
      rcases hrow with h | ⟨b, off, ha, hb, _, hc⟩
      · exact .inl (by omega)
      · exact .inr ⟨b, off, ha, hb, hc⟩
    · refine stops_gt _ _ _ _ z0 _ (by omega) (by omega) (by omega) ?_
      rcases hrow with h | ⟨b, off, ha, hb, _, hc⟩
      · exact .inl h
      · exact .inr ⟨b, off, ha, hb, hc⟩

end Go.Proofs.Ybulkckse
