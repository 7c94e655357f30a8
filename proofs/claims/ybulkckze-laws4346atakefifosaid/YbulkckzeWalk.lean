import Derived.Test.YbulkckzeMade
import Derived.Deep.DeepCutAuto
import Derived.LoopTactic
import Derived.BigQuiet
import Derived.Great.BuildSlice
namespace Go.Proofs.Ybulkckze
open Go Go.RowKit

set_option maxRecDepth 100000 in
set_option maxHeartbeats 4000000 in
theorem fifo (a0 : Option Addr) (k e h m n cap0 : Nat) (z : Nat → Int) (a1 a2 a3 : Int) (w : World)
    (hd : ∀ j, j < k → ∃ xb xo, a0 = some ⟨xb, xo, none⟩ ∧ w.cell? ⟨xb, xo + j, none⟩ = some (.int .i64 (z j)) ∧ xb < w.heap.size) (hk : k ≤ 1024) (he : a1.tmod 8 = (e : Int)) (he7 : e ≤ 7) (hh : a2 = (h : Int)) (hh2 : h ≤ 65535) (hm : a3.tmod 16 = (m : Int)) (hm2 : m ≤ 15)
    (hn : n = if k + e = 0 then 1 else k + e) :
    Calls Yba.prog 3 #[.slice a0 k cap0, .int .u8 a1, .int .u16 a2, .int .u8 a3] w fun r w' => r = .returned (.bool true) ∧ Below w.heap.size w w' := by
  subst hh
  have Hd : Hid (∀ j, j < k → ∃ xb xo, a0 = some ⟨xb, xo, none⟩ ∧ w.cell? ⟨xb, xo + j, none⟩ = some (.int .i64 (z j)) ∧ xb < w.heap.size) := hd
  have hn1 : 1 ≤ n := by split at hn <;> omega
  have hkn : k ≤ n := by split at hn <;> omega
  have hn2 : n ≤ 1031 := by split at hn <;> omega
  have Hn : Hid (n = if k + e = 0 then 1 else k + e) := hn
  clear hd hn
  go_enter Yba.func3, Yba.ntmps3
  go_upto_if 45 with (fail)
  go_cut [10] from 44 to 45 (fun s wc => s = .int .i64 n ∧ wc = w)
  case first =>
    by_cases hc : k + e = 0
    · have hc1 : ((k : Int) + e == 0) = true := by simp; omega
      have hc2 : ((k : Int) + e) = 0 := by omega
      go_wp2_with fail
      go_meet
      exact ⟨by rw [Hn.out, if_pos hc]; rfl, rfl⟩
    · have hc1 : ((k : Int) + e == 0) = false := by simp; omega
      have hc2 : ¬ ((k : Int) + e) = 0 := by omega
      go_wp2_with fail
      go_meet
      exact ⟨by rw [Hn.out, if_neg hc]; simp, rfl⟩
  case rest =>
    obtain ⟨rfl, hw⟩ := hcut
    obtain rfl := hw.symm
    clear Hn
    have hmk1 := make25 n (by omega)
    have hmk2 := make22 n (by omega)
    go_wp2_with fail
    have hF0 := Filling.zero n h k z w
    have hB0 : Below w.heap.size w ((w.alloc (.cells (madeCells #[.int .u64 0] n) 24)).alloc (.cells (madeCells #[.int .i64 0] n) 3)) := ((Below.refl _ w).alloc (Nat.le_refl _) _).alloc (by simp) _
    have hz0 : ((w.alloc (.cells (madeCells #[.int .u64 0] n) 24)).alloc (.cells (madeCells #[.int .i64 0] n) 3)).heap.size = w.heap.size + 2 := by simp
    obtain ⟨B, hBd⟩ : ∃ B, w.heap.size = B := ⟨_, rfl⟩
    rw [hBd] at hF0 hB0 hz0 Hd ⊢
    go_loopw [15] (fun i wr => ∃ j : Nat, j ≤ n ∧ i = .int .i64 j ∧ Filling B n h k z j wr ∧ Below B w wr ∧ wr.heap.size = B + 2) (fun i _ => n - (intOf i).toNat)
    case atStart => exact ⟨0, Nat.zero_le _, rfl, hF0, hB0, hz0⟩
    case round =>
      obtain ⟨j, hj, rfl, hF, hB, hsz⟩ := hrel
      clear hF0 hB0 hz0 hmk1 hmk2
      by_cases hjn : j < n
      · obtain ⟨r, hr⟩ : ∃ r, (h + j) % n = r := ⟨_, rfl⟩
        have hrn : r < n := by rw [← hr]; exact Nat.mod_lt _ hn1
        have hri : ((h : Int) + (j : Int)) % (n : Int) = (r : Int) := by rw [← hr]; simp
        have hb : 0 ≤ (r : Int) ∧ (r : Int) < (n : Int) := by omega
        have hz2 : ¬ (n : Int) = 0 := by omega
        have hz1 : ((n : Int) == 0) = false := by simp; omega
        have cs := hF.1.cell hrn
        have fs := hF.1.frozen r
        have ci := hF.2.cell hrn
        have fi := hF.2.frozen r
        have HF : Hid (Filling B n h k z j wr) := hF
        have Hr : Hid ((h + j) % n = r) := hr
        by_cases hjk : j < k
        · obtain ⟨xb, xo, rfl, hx, hxB⟩ := Hd.out j hjk
          have hx2 : (wr.setCell ⟨B, r, none⟩ (.int .u64 (2 * ((h : Int) + j) + 1))).cell? ⟨xb, xo + j, none⟩ = some (.int .i64 (z j)) := cell_set_blk ((hB.cell (p := ⟨xb, xo + j, none⟩) hxB).trans hx) (by omega) _
          have hbk : 0 ≤ (j : Int) ∧ (j : Int) < (k : Int) := by omega
          have ci2 := cell_set_blk (i := r) ci (show B ≠ B + 1 by omega) (.int .u64 (2 * ((h : Int) + j) + 1))
          have hF' := HF.out.low hn1 hjn hjk
          rw [hr] at hF'
          have HF' : Hid (Filling B n h k z (j + 1) ((wr.setCell ⟨B, r, none⟩ (.int .u64 (2 * ((h : Int) + j) + 1))).setCell ⟨B + 1, r, none⟩ (.int .i64 (z j)))) := hF'
          clear hF hr hF'
          go_wp2_with fail
          exact ⟨⟨j + 1, by omega, by simp, HF'.out, (hB.setCell (by simp) _).setCell (by simp) _, by simpa [World.setCell] using hsz⟩, by simp [intOf]; omega⟩
        · have hF' := HF.out.high hn1 hjn hjk
          rw [hr] at hF'
          have HF' : Hid (Filling B n h k z (j + 1) (wr.setCell ⟨B, r, none⟩ (.int .u64 (2 * ((h : Int) + j))))) := hF'
          clear hF hr hF'
          go_wp2_with fail
          exact ⟨⟨j + 1, by omega, by simp, HF'.out, hB.setCell (by simp) _, by simpa [World.setCell] using hsz⟩, by simp [intOf]; omega⟩
      · obtain rfl : j = n := by omega
        obtain ⟨hR1, hR2⟩ := hF.full hn1
        have HR1 : Hid (wr.rowIs B 24 j (fun i => .int .u64 (seqv j h k 0 (jOf j h i)))) := hR1
        have HR2 : Hid (wr.rowIs (B + 1) 3 j (fun i => .int .i64 (itemv k z 0 (jOf j h i)))) := hR2
        clear hF hR1 hR2 hj
        have hx29 := run_box29
        have hx66 := run_box66
        have hmk3 := make67 m (by omega)
        go_wp2_with (first
          | (refine wpList_buildTo rfl 29 _ rfl (some 94) rfl (qcells (.int .u64 h) (.int .u64 ((h : Int) + k)) (.slice (some ⟨B, 0, none⟩) j j) (.slice (some ⟨B + 1, 0, none⟩) j j)) (by kernel_rfl) ?_)
          | (refine wpList_buildTo rfl 66 _ rfl (some 97) rfl (pcells (.pointer (some ⟨B + 2, 0, none⟩))) (by kernel_rfl) ?_))
        have hM0 := Made.start (m := m) HR1.out HR2.out hsz (fun _ => none) (fun _ => none)
        have hB0 : Below B w (((wr.alloc (.cells (qcells (.int .u64 h) (.int .u64 ((h : Int) + k)) (.slice (some ⟨B, 0, none⟩) j j) (.slice (some ⟨B + 1, 0, none⟩) j j)) 29)).alloc (.cells (pcells (.pointer (some ⟨B + 2, 0, none⟩))) 66)).alloc (.cells (madeCells #[.pointer none] m) 45)) := ((hB.alloc (by omega) _).alloc (by simp; omega) _).alloc (by simp; omega) _
        have hz0 : (((wr.alloc (.cells (qcells (.int .u64 h) (.int .u64 ((h : Int) + k)) (.slice (some ⟨B, 0, none⟩) j j) (.slice (some ⟨B + 1, 0, none⟩) j j)) 29)).alloc (.cells (pcells (.pointer (some ⟨B + 2, 0, none⟩))) 66)).alloc (.cells (madeCells #[.pointer none] m) 45)).heap.size = B + 5 := by simp [hsz]
        generalize (((wr.alloc (.cells (qcells (.int .u64 h) (.int .u64 ((h : Int) + k)) (.slice (some ⟨B, 0, none⟩) j j) (.slice (some ⟨B + 1, 0, none⟩) j j)) 29)).alloc (.cells (pcells (.pointer (some ⟨B + 2, 0, none⟩))) 66)).alloc (.cells (madeCells #[.pointer none] m) 45)) = W0 at hM0 hB0 hz0 ⊢
        rw [show B + 2 + 1 = B + 3 from rfl, show B + 3 + 1 = B + 4 from rfl]
        clear HR1 HR2 hB hsz hx29 hx66 hmk3 hjn
        go_loopw [22] (fun i wr => ∃ c : Nat, c ≤ m ∧ i = .int .i64 c ∧ Made B j h k m z (svTo B c) (fun _ => none) (fun _ => none) c wr ∧ Below B w wr ∧ wr.heap.size = B + 5 + 2 * c) (fun i _ => m - (intOf i).toNat)
        case atStart => exact ⟨0, Nat.zero_le _, rfl, hM0.congr (fun i _ => by simp [svTo]) (fun _ _ => rfl) (fun _ _ => rfl), hB0, hz0⟩
        case round =>
          obtain ⟨c, hc, rfl, hM, hB, hsz⟩ := hrel
          clear hM0 hB0 hz0
          by_cases hcm : c < m
          · have hM1 := (hM.add hsz rfl rfl).congr (sv' := svTo B (c + 1)) (fun i _ => by
              by_cases h1 : i = c
              · subst h1; simp [svTo]
              · have : (i < c + 1) ↔ (i < c) := by omega
                simp only [h1, if_false, svTo, this]) (fun _ _ => rfl) (fun _ _ => rfl)
            have HM1 : Hid (Made B j h k m z (svTo B (c + 1)) (fun _ => none) (fun _ => none) (c + 1) (((wr.alloc (.chan 1 #[] false 0 0 false)).alloc (.cells #[.chan (some (bell B c)), .pointer none, .pointer none, .bool true] 69)).setCell ⟨B + 4, c, none⟩ (.pointer (some ⟨wtr B c, 0, none⟩)))) := hM1
            have cw := ((hM.ws.alloc (.chan 1 #[] false 0 0 false)).alloc (.cells #[.chan (some (bell B c)), .pointer none, .pointer none, .bool true] 69)).cell hcm
            have fw := ((hM.ws.alloc (.chan 1 #[] false 0 0 false)).alloc (.cells #[.chan (some (bell B c)), .pointer none, .pointer none, .bool true] 69)).frozen c
            have hbm : 0 ≤ (c : Int) ∧ (c : Int) < (m : Int) := by omega
            have hmc := mkchan
            have hzb : wr.heap.size = bell B c := by rw [hsz]; rfl
            have hzw : bell B c + 1 = wtr B c := by unfold bell wtr; omega
            have Hsz : Hid (wr.heap.size = B + 5 + 2 * c) := hsz
            clear hM hM1 hsz
            go_wp2_with fail
            exact ⟨⟨c + 1, by omega, by simp, HM1.out, ((hB.alloc (by have := hB.size; omega) _).alloc (by have := hB.size; simp <;> omega) _).setCell (by simp <;> omega) _, by simp [World.setCell]; have := Hsz.out; omega⟩, by simp [intOf]; omega⟩
          · obtain rfl : c = m := by omega
            have hM1 : Made B j h k c z (svTo B c) (prTo B 0) (nxTo B c 0) c wr := hM.congr (fun _ _ => rfl) (fun i _ => by simp [prTo]) (fun i _ => by simp [nxTo])
            clear hM hc hcm
            go_wp2_with fail
            go_loopw [23] (fun i wr => ∃ d : Nat, d ≤ c ∧ i = .int .i64 d ∧ Made B j h k c z (svTo B c) (prTo B d) (nxTo B c d) c wr ∧ Below B w wr ∧ wr.heap.size = B + 5 + 2 * c) (fun i _ => c - (intOf i).toNat)
            case atStart => exact ⟨0, Nat.zero_le _, rfl, hM1, hB, hsz⟩
            case round =>
              clear hM1 hB hsz
              obtain ⟨d, hd, rfl, hM, hB, hsz⟩ := hrel
              by_cases hdc : d < c
              · have cw := hM.ws.cell hdc
                have hcd : svTo B c d = .pointer (some ⟨wtr B d, 0, none⟩) := by simp [svTo, hdc]
                rw [hcd] at cw
                have wt := hM.wait d hdc
                have e1 := wt.prev
                have f1 := wt.fz 1
                have hbd : 0 ≤ (d : Int) ∧ (d : Int) < (c : Int) := by omega
                have HM : Hid (Made B j h k c z (svTo B c) (prTo B d) (nxTo B c d) c wr) := hM
                by_cases hd0 : d = 0
                · subst hd0
                  by_cases hd1 : 0 + 1 < c
                  · have cx := hM.ws.cell hd1
                    have hcx : svTo B c (0 + 1) = .pointer (some ⟨wtr B 1, 0, none⟩) := by simp [svTo, hd1]
                    rw [hcx] at cx
                    have hd1' : (1 : Int) < (c : Int) := by omega
                    have hbx : 0 ≤ (1 : Int) ∧ (1 : Int) < (c : Int) := by omega
                    have hb0 : 0 ≤ (0 : Int) ∧ (0 : Int) < (c : Int) := by omega
                    have f2 := wt.fz 2
                    have e2 := wt.next
                    have hM2 : Hid _ := hM.nextOnly hd1
                    clear hM wt hcd hcx
                    go_wp2_with fail
                    go_region
                    go_wp2_with fail
                    exact ⟨⟨1, by omega, by simp, hM2.out.drew, (hB.setCell (by simp [wtr] <;> omega) _).drew, by simpa [World.setCell] using hsz⟩, by simp [intOf]; omega⟩
                  · have hd1' : ¬ (1 : Int) < (c : Int) := by omega
                    have hM2 : Hid _ := hM.neither hd1
                    clear hM wt hcd
                    go_wp2_with fail
                    exact ⟨⟨1, by omega, by simp, hM2.out, hB, hsz⟩, by simp [intOf]; omega⟩
                · obtain ⟨i, hi⟩ : ∃ i, d = i + 1 := ⟨d - 1, by omega⟩
                  have cv := hM.ws.cell (show i < c by omega)
                  have hci : svTo B c i = .pointer (some ⟨wtr B i, 0, none⟩) := by simp [svTo, show i < c by omega]
                  rw [hci] at cv
                  have hdi : (d : Int) - 1 = (i : Int) := by omega
                  have hbi : 0 ≤ (i : Int) ∧ (i : Int) < (c : Int) := by omega
                  have hdp : 0 < (d : Int) := by omega
                  have Hi : Hid (d = i + 1) := hi
                  clear hi
                  by_cases hd1 : d + 1 < c
                  · have cx := hM.ws.cell hd1
                    have hcx : svTo B c (d + 1) = .pointer (some ⟨wtr B (d + 1), 0, none⟩) := by simp [svTo, hd1]
                    rw [hcx] at cx
                    have hd1' : (d : Int) + 1 < (c : Int) := by omega
                    have hbx : 0 ≤ (d : Int) + 1 ∧ (d : Int) + 1 < (c : Int) := by omega
                    have f2 := wt.fz 2
                    have e2 := wt.next
                    have hne : wtr B d ≠ B + 4 := by unfold wtr; omega
                    have cw2 := cell_set_blk (i := 1) cw hne (.pointer (some ⟨wtr B i, 0, none⟩))
                    have cx2 := cell_set_blk (i := 1) cx hne (.pointer (some ⟨wtr B i, 0, none⟩))
                    have e22 := cell_set_off (i := 1) e2 (by decide) (.pointer (some ⟨wtr B i, 0, none⟩))
                    have hM1 := hM.both hd0 hd1
                    rw [show d - 1 = i by omega] at hM1
                    have hM2 : Hid _ := hM1
                    clear hM wt hcd hci hcx hM1
                    go_wp2_with fail
                    go_region
                    go_wp2_with fail
                    go_region
                    go_wp2_with fail
                    exact ⟨⟨d + 1, by omega, by simp, hM2.out.drew.drew, ((hB.setCell (by simp [wtr] <;> omega) _).setCell (by simp [wtr] <;> omega) _).drew.drew, by simpa [World.setCell] using hsz⟩, by simp [intOf]; omega⟩
                  · have hd1' : ¬ (d : Int) + 1 < (c : Int) := by omega
                    have hM1 := hM.prevOnly hd0 hdc hd1
                    rw [show d - 1 = i by omega] at hM1
                    have hM2 : Hid _ := hM1
                    clear hM wt hcd hci hM1
                    go_wp2_with fail
                    go_region
                    go_wp2_with fail
                    exact ⟨⟨d + 1, by omega, by simp, hM2.out.drew, (hB.setCell (by simp [wtr] <;> omega) _).drew, by simpa [World.setCell] using hsz⟩, by simp [intOf]; omega⟩
              · obtain rfl : d = c := by omega
                clear hd hdc
                have hP0 := hM.pool
                have HM : Hid (Made B j h k d z (svTo B d) (prTo B d) (nxTo B d d) d wr) := hM
                go_upto_if 149 with (fail)
                go_cut [] from 148 to 165 (fun wq => PoolIs wq (B + 3) (B + 2) 0 0 (if 0 < d then ptr B 0 else none) (if 0 < d then ptr B (d - 1) else none) ∧ Only (fun x => x = B + 3) wr wq ∧ Below B w wq)
                case first =>
                  by_cases hd0 : d = 0
                  · have hd1 : ¬ (0 : Int) < (d : Int) := by omega
                    have Hd0 : Hid (d = 0) := hd0
                    clear hM hd0
                    go_wp2_with fail
                    go_meet
                    refine ⟨?_, Only.refl _ _, hB⟩
                    rw [if_neg (by have := Hd0.out; omega), if_neg (by have := Hd0.out; omega)]
                    exact hP0
                  · have hd1 : (0 : Int) < (d : Int) := by omega
                    have cw := hM.ws.cell (show 0 < d by omega)
                    have hcd : svTo B d 0 = .pointer (some ⟨wtr B 0, 0, none⟩) := by simp [svTo, show 0 < d by omega]
                    rw [hcd] at cw
                    obtain ⟨i, hi⟩ : ∃ i, d = i + 1 := ⟨d - 1, by omega⟩
                    have cv := hM.ws.cell (show i < d by omega)
                    have hci : svTo B d i = .pointer (some ⟨wtr B i, 0, none⟩) := by simp [svTo, show i < d by omega]
                    rw [hci] at cv
                    have hdi : (d : Int) - 1 = (i : Int) := by omega
                    have hbi : 0 ≤ (i : Int) ∧ (i : Int) < (d : Int) := by omega
                    have l0 := hP0.first
                    have g0 := hP0.fz 193
                    have cv2 := cell_set_blk (i := 193) cv (show B + 3 ≠ B + 4 by omega) (.pointer (some ⟨wtr B 0, 0, none⟩))
                    have l1 := cell_set_off (i := 193) hP0.last (by decide) (.pointer (some ⟨wtr B 0, 0, none⟩))
                    have g1 := hP0.fz 194
                    have Hi : Hid (d = i + 1) := hi
                    have HP0 : Hid (PoolIs wr (B + 3) (B + 2) 0 0 none none) := hP0
                    clear hM hd0 hcd hci hi hP0
                    go_wp2_with fail
                    go_meet
                    refine ⟨?_, ?_, (hB.setCell (by simp) _).setCell (by simp) _⟩
                    · rw [if_pos (by have := Hi.out; omega), if_pos (by have := Hi.out; omega), show d - 1 = i by have := Hi.out; omega]
                      exact (HP0.out.setFirst (ptr B 0)).setLast (ptr B i)
                    · exact ((Only.refl (fun x => x = B + 3) wr).setCell (p := ⟨B + 3, 193, none⟩) (fun _ => rfl) _).setCell (p := ⟨B + 3, 194, none⟩) (fun _ => rfl) _
                case rest =>
                  obtain ⟨hP, hO, hB⟩ := hcut
                  clear hM hP0 hsz
                  have l4 := hP.n
                  have g4 := hP.fz 190
                  have hI := HM.out.inv (hO.setCell (p := ⟨B + 3, 190, none⟩) (fun _ => rfl) (.int .i64 d)) (hP.setN d)
                  have hB1 : Below B w (wc.setCell ⟨B + 3, 190, none⟩ (.int .i64 d)) := hB.setCell (by simp) _
                  have HI : Hid (Inv B j h k d z 0 (wc.setCell ⟨B + 3, 190, none⟩ (.int .i64 d))) := hI
                  clear hI HM hP hO hB
                  go_wp2_with fail
                  go_loopw [24] (fun i wr => ∃ t : Nat, t ≤ k + 1 ∧ i = .int .i64 t ∧ Inv B j h k d z (min t k) wr ∧ Below B w wr) (fun i _ => k + 1 - (intOf i).toNat)
                  case atStart => exact ⟨0, Nat.zero_le _, rfl, by rw [Nat.zero_min]; exact HI.out, hB1⟩
                  case round =>
                    obtain ⟨t, ht, rfl, hI, hB⟩ := hrel
                    clear HI hB1 l4 g4
                    by_cases htk : t < k
                    · rw [Nat.min_eq_left (by omega)] at hI
                      have hst := take_step hI htk hkn (by omega) (by omega) (by omega)
                      obtain ⟨xb, xo, rfl, hx, hxB⟩ := Hd.out t htk
                      have hlt : (t : Int) ≤ (k : Int) := by omega
                      have hlt2 : (t : Int) < (k : Int) := by omega
                      have hbk : 0 ≤ (t : Int) ∧ (t : Int) < (k : Int) := by omega
                      clear hI
                      go_wp2_with fail
                      refine hst.mono ?_
                      rintro r w1 ⟨rfl, hI1, hB1⟩
                      have hx1 : w1.cell? ⟨xb, xo + t, none⟩ = some (.int .i64 (z t)) := (hB1.cell (p := ⟨xb, xo + t, none⟩) hxB).trans ((hB.cell (p := ⟨xb, xo + t, none⟩) hxB).trans hx)
                      have hbe : (z t != z t) = false := by simp
                      have HI1 : Hid (Inv B j h k d z (t + 1) w1) := hI1
                      clear hI1 hst
                      go_wp2_with fail
                      exact ⟨⟨t + 1, by omega, by simp, by rw [Nat.min_eq_left (by omega)]; exact HI1.out, hB.trans hB1⟩, by simp [intOf]; omega⟩
                    · rw [Nat.min_eq_right (by omega)] at hI
                      by_cases htk2 : t = k
                      · subst htk2
                        have hst := take_none hI hn1 hkn (by omega) (by omega)
                        have hlt : (t : Int) ≤ (t : Int) := by omega
                        have hlt2 : ¬ (t : Int) < (t : Int) := by omega
                        have HI : Hid (Inv B j h t d z t wr) := hI
                        clear hI
                        go_wp2_with fail
                        refine hst.mono ?_
                        rintro r w1 ⟨rfl, rfl⟩
                        clear hst
                        go_wp2_with fail
                        exact ⟨⟨t + 1, by omega, by simp, by rw [Nat.min_eq_right (by omega)]; exact HI.out, hB⟩, by simp [intOf] <;> omega⟩
                      · obtain rfl : t = k + 1 := by omega
                        clear ht htk htk2
                        have hlt : ¬ ((k : Int) + 1) ≤ (k : Int) := by omega
                        have hq0 := hI.queue.head
                        have hq1 := hI.queue.tail
                        have ehk : ((h + k : Nat) : Int) = (h : Int) + k := by omega
                        rw [ehk] at hq0 hq1
                        have hbe : ((h : Int) + (k : Int) != (h : Int) + (k : Int)) = false := by simp
                        have HI : Hid (Inv B j h k d z k wr) := hI
                        clear hI ehk
                        go_wp2_with fail
                        go_loop [27] (fun i => ∃ q : Nat, q ≤ j ∧ i = .int .i64 q) (fun i => j - (intOf i).toNat)
                        case atStart => exact ⟨0, Nat.zero_le _, rfl⟩
                        case round =>
                          obtain ⟨q, hq, rfl⟩ := hrel
                          by_cases hqj : q < j
                          · have ci := HI.out.items.cell hqj
                            have ez : itemv k z k (jOf j h q) = 0 := by unfold itemv; split <;> rfl
                            rw [ez] at ci
                            have hbq : 0 ≤ (q : Int) ∧ (q : Int) < (j : Int) := by omega
                            go_wp2_with fail
                            exact ⟨⟨q + 1, by omega, by simp⟩, by simp [intOf]; omega⟩
                          · obtain rfl : j = q := by omega
                            clear hq hqj hq0 hq1 hbe hlt
                            go_wp2_with fail
                            go_loop [28] (fun i => ∃ q : Nat, q ≤ j ∧ i = .int .i64 q) (fun i => j - (intOf i).toNat)
                            case atStart => exact ⟨0, Nat.zero_le _, rfl⟩
                            case round =>
                              obtain ⟨q, hq, rfl⟩ := hrel
                              by_cases hqj : q < j
                              · obtain ⟨r, hr⟩ : ∃ r, (h + q) % j = r := ⟨_, rfl⟩
                                have hrn : r < j := by rw [← hr]; exact Nat.mod_lt _ hn1
                                have hri : ((h : Int) + (q : Int)) % (j : Int) = (r : Int) := by rw [← hr]; simp
                                have hb : 0 ≤ (r : Int) ∧ (r : Int) < (j : Int) := by omega
                                have hz2 : ¬ (j : Int) = 0 := by omega
                                have hz1 : ((j : Int) == 0) = false := by simp; omega
                                have ci := HI.out.seqs.cell hrn
                                have ej : jOf j h r = q := by rw [← hr]; exact jOf_at hn1 h hqj
                                rw [ej] at ci
                                by_cases hqk : q < k
                                · have es : seqv j h k k q = 2 * ((h : Int) + (q : Int) + (j : Int)) := by unfold seqv; rw [if_pos hqk]
                                  rw [es] at ci
                                  have hlt : (q : Int) < (k : Int) := by omega
                                  have hbe : ((2 * ((h : Int) + (q : Int) + (j : Int))) != (2 * ((h : Int) + (q : Int) + (j : Int)))) = false := by simp
                                  clear hr ej es
                                  go_wp2_with fail
                                  exact ⟨⟨q + 1, by omega, by simp⟩, by simp [intOf]; omega⟩
                                · have es : seqv j h k k q = 2 * ((h : Int) + (q : Int)) := by unfold seqv; rw [if_neg hqk, if_neg hqk]
                                  rw [es] at ci
                                  have hlt : ¬ (q : Int) < (k : Int) := by omega
                                  have hbe : ((2 * ((h : Int) + (q : Int))) != (2 * ((h : Int) + (q : Int)))) = false := by simp
                                  clear hr ej es
                                  go_wp2_with fail
                                  exact ⟨⟨q + 1, by omega, by simp⟩, by simp [intOf]; omega⟩
                              · obtain rfl : j = q := by omega
                                clear hq hqj
                                go_upto_if 263 with (fail)
                                obtain ⟨v, hv⟩ : ∃ v, v = min k d := ⟨_, rfl⟩
                                have Hv : Hid (v = min k d) := hv
                                clear hv
                                go_cut [31] from 261 to 264 (fun s wq => s = .int .i64 v ∧ wq = wr)
                                case first =>
                                  by_cases hc : d < k
                                  · have hc1 : (d : Int) < (k : Int) := by omega
                                    go_wp2_with fail
                                    go_meet
                                    exact ⟨by rw [Hv.out, Nat.min_eq_right (by omega)], rfl⟩
                                  · have hc1 : ¬ (d : Int) < (k : Int) := by omega
                                    go_wp2_with fail
                                    go_meet
                                    exact ⟨by rw [Hv.out, Nat.min_eq_left (by omega)], rfl⟩
                                case rest =>
                                  obtain ⟨rfl, hwq⟩ := hcut
                                  obtain rfl := hwq.symm
                                  have hvk : v ≤ k := by rw [Hv.out]; omega
                                  have hvd : v ≤ d := by rw [Hv.out]; omega
                                  go_wp2_with fail
                                  go_loop [32] (fun i => ∃ q : Nat, q ≤ d ∧ i = .int .i64 q) (fun i => d - (intOf i).toNat)
                                  case atStart => exact ⟨0, Nat.zero_le _, rfl⟩
                                  case round =>
                                    obtain ⟨q, hq, rfl⟩ := hrel
                                    by_cases hqd : q < d
                                    · have cw := HI.out.ws.cell hqd
                                      have hwt := HI.out.wait q hqd
                                      have hbl := HI.out.bells q hqd
                                      have hbq : 0 ≤ (q : Int) ∧ (q : Int) < (d : Int) := by omega
                                      have e0 := hwt.bell
                                      have e1 := hwt.prev
                                      have e2 := hwt.next
                                      have e3 := hwt.listed
                                      by_cases hqv : q < v
                                      · rw [prevOf, if_pos (by omega)] at e1
                                        rw [nextOf, if_pos (by omega)] at e2
                                        rw [decF (by omega)] at e3
                                        have hlt : (q : Int) < (v : Int) := by omega
                                        have hnn := nil_neq_nil
                                        have cw' : wr.cell? ⟨B + 4, q, none⟩ = some (.pointer (some ⟨wtr B q, 0, none⟩)) := cw
                                        rw [decT (by omega)] at hbl
                                        have hlen := len_bell hbl
                                        clear hwt cw hbl
                                        go_wp2_with fail
                                        exact ⟨⟨q + 1, by omega, by simp⟩, by simp [intOf]; omega⟩
                                      · rw [decT (by have := Hv.out; omega)] at e3
                                        have hlt : ¬ (q : Int) < (v : Int) := by omega
                                        have hnot : ∀ (x : Bool) (w : World), (Op.unary .not (.bool x)).run Yba.prog w = .ok (.bool (!x)) w := fun _ _ => rfl
                                        have cw' : wr.cell? ⟨B + 4, q, none⟩ = some (.pointer (some ⟨wtr B q, 0, none⟩)) := cw
                                        rw [decF (by have := Hv.out; omega)] at hbl
                                        have hlen := len_bell hbl
                                        clear hwt cw hbl
                                        go_wp2_with fail
                                        exact ⟨⟨q + 1, by omega, by simp⟩, by simp [intOf]; omega⟩
                                    · obtain rfl : d = q := by omega
                                      clear hq hqd
                                      have hP := HI.out.pool
                                      have p0 := hP.n
                                      have p1 := hP.first
                                      have p2 := hP.last
                                      have p3 := hP.idleN
                                      have p4 := hP.idleF
                                      have hnn := nil_neq_nil
                                      have hps := ptr_neq_same
                                      have evd : ((d - k : Nat) : Int) = (d : Int) - (v : Int) := by have := Hv.out; omega
                                      rw [evd] at p0
                                      have hbe : ((d : Int) - (v : Int) != (d : Int) - (v : Int)) = false := by simp
                                      clear hP evd
                                      by_cases hvl : v < d
                                      · have hvk2 : v = k := by have := Hv.out; omega
                                        subst hvk2
                                        have hvl1 : (v : Int) < (d : Int) := by omega
                                        rw [if_pos hvl] at p1 p2
                                        have c1 : wr.cell? ⟨B + 4, v, none⟩ = some (.pointer (some ⟨wtr B v, 0, none⟩)) := HI.out.ws.cell hvl
                                        obtain ⟨i, hi⟩ : ∃ i, d - 1 = i := ⟨_, rfl⟩
                                        have c2 : wr.cell? ⟨B + 4, i, none⟩ = some (.pointer (some ⟨wtr B i, 0, none⟩)) := HI.out.ws.cell (show i < d by omega)
                                        rw [hi] at p2
                                        have p1' : wr.cell? ⟨B + 3, 193, none⟩ = some (.pointer (some ⟨wtr B v, 0, none⟩)) := p1
                                        have p2' : wr.cell? ⟨B + 3, 194, none⟩ = some (.pointer (some ⟨wtr B i, 0, none⟩)) := p2
                                        have e1 := (HI.out.wait v hvl).prev
                                        rw [prevOf, if_pos (by omega)] at e1
                                        have hb1 : 0 ≤ (v : Int) ∧ (v : Int) < (d : Int) := by omega
                                        have hb2 : 0 ≤ (i : Int) ∧ (i : Int) < (d : Int) := by omega
                                        have hdi : (d : Int) - 1 = (i : Int) := by omega
                                        clear p1 p2 hi
                                        go_wp2_with fail
                                        go_quiet (fail)
                                        go_wp2_with fail
                                        go_ret
                                        rw [hBd]
                                        exact ⟨rfl, hB.os, hB.tape, hB.output, hB.size, hB.block⟩
                                      · have hvk2 : v = d := by omega
                                        have hvl1 : ¬ (v : Int) < (d : Int) := by omega
                                        rw [if_neg (by have := Hv.out; omega)] at p1 p2
                                        clear hvk2
                                        go_wp2_with fail
                                        go_ret
                                        exact ⟨rfl, hB⟩
end Go.Proofs.Ybulkckze
