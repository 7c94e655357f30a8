import Derived.Test.YbulkcktuState2
import Derived.Maps.AppendAt
import Derived.Carry
namespace Go.Proofs.Ybulkcktu
open Go Go.RowKit Go.Maps

theorem info30 : (Yba.prog.info? 30).map (fun i => (i.zero, i.size, i.bytes)) = some (some (.slice none 0 0), 1, 24) := by kernel_rfl
theorem info31 : (Yba.prog.info? 31).map (fun i => (i.zero, i.size, i.bytes)) = some (some (.pointer none), 1, 8) := by kernel_rfl
theorem info3 : (Yba.prog.info? 3).map (fun i => (i.zero, i.size, i.bytes)) = some (some (.int .i64 0), 1, 8) := by kernel_rfl

/-- The size of list i. -/
def szOf (zs : List Int) (i : Nat) : Nat := ((zs[i]?.getD 0) % 9).toNat

set_option maxHeartbeats 4000000 in
theorem build_some (b off N cap : Nat) (zs : List Int) (w : World) (hN : N ≤ 256) (hN0 : 0 < N) (hb : b < w.heap.size)
    (hc : ∀ j, j < N → w.cell? ⟨b, off + j, none⟩ = some (.int .u8 (zs[j]?.getD 0))) (hz : ∀ j : Nat, 0 ≤ zs[j]?.getD 0 ∧ zs[j]?.getD 0 ≤ 255) :
    Calls Yba.prog 5 #[.slice (some ⟨b, off, none⟩) N cap] w fun r w' => ∃ bm bv bp B bs sv, r = .returned (.tuple #[.map (some bm), .slice (some ⟨bv, 0, none⟩) N N, .slice (some ⟨bp, 0, none⟩) N N]) ∧
      Outer w' w.heap.size bm bp N N (szOf zs) B bs sv ∧ w'.rowIs bv 30 N sv ∧ Below w.heap.size w w' ∧ w.heap.size ≤ bm ∧ (∀ i, i < N → w.heap.size ≤ B i ∧ ∀ b ∈ bs i, w.heap.size ≤ b) := by
  have hmm := @run_makeMap Yba.prog
  have hmk1 := fun (w : World) => run_make_row' (P := Yba.prog) 25 30 (.slice none 0 0) 24 Yba.underlying25 info30 rfl .i64 .i64 N (by omega) (by omega) w
  have hmk2 := fun (w : World) => run_make_row' (P := Yba.prog) 26 31 (.pointer none) 8 Yba.underlying26 info31 rfl .i64 .i64 N (by omega) (by omega) w
  obtain ⟨i0, hi, hz0, hz1, hz2⟩ := info_parts info3
  go_enter Yba.func5, Yba.ntmps5
  go_wp2
  clear hmm hmk1 hmk2
  obtain ⟨bm, hbm⟩ : ∃ bm, bm = w.heap.size := ⟨_, rfl⟩
  obtain ⟨bv, hbv⟩ : ∃ bv, bv = w.heap.size + 1 := ⟨_, rfl⟩
  obtain ⟨bp, hbp⟩ : ∃ bp, bp = w.heap.size + 1 + 1 := ⟨_, rfl⟩
  have hO : Outer (((w.alloc (.map #[] 0)).alloc (.cells (madeCells #[.slice none 0 0] N) 30)).alloc (.cells (madeCells #[.pointer none] N) 31)) w.heap.size bm bp N 0 (szOf zs) (fun _ => 0) (fun _ => []) (fun _ => .slice none 0 0) := by
    refine ⟨?_, ?_, fun i hi => by omega, fun i hi => by omega, fun i j hi => by omega⟩
    · rw [hbm]
      exact ((World.ownsMap_made w _ _ _).alloc _).alloc _
    · have := World.rowIs_made ((w.alloc (.map #[] 0)).alloc (.cells (madeCells #[.slice none 0 0] N) 30)) (.pointer none) N 31
      simp only [World.size_alloc] at this
      rw [hbp]
      exact this.congr (fun i _ => by simp)
  have hR : (((w.alloc (.map #[] 0)).alloc (.cells (madeCells #[.slice none 0 0] N) 30)).alloc (.cells (madeCells #[.pointer none] N) 31)).rowIs bv 30 N (fun j => if j < 0 then .slice none 0 0 else .slice none 0 0) := by
    have := World.rowIs_made (w.alloc (.map #[] 0)) (.slice none 0 0) N 30
    simp only [World.size_alloc] at this
    rw [hbv]
    exact (this.alloc _).congr (fun i _ => by simp)
  have hB : Below w.heap.size w (((w.alloc (.map #[] 0)).alloc (.cells (madeCells #[.slice none 0 0] N) 30)).alloc (.cells (madeCells #[.pointer none] N) 31)) := (((Below.refl _ w).alloc (Nat.le_refl _) _).alloc (by simp) _).alloc (by simp; omega) _
  have hlo : w.heap.size ≤ bm ∧ w.heap.size ≤ bv ∧ w.heap.size ≤ bp := by omega
  obtain ⟨n₀, hn₀⟩ : ∃ n₀, n₀ = w.heap.size := ⟨_, rfl⟩
  rw [← hbp, ← hbv, ← hbm]
  rw [← hn₀] at hO hB hlo hb
  have Hn : Hid (n₀ = w.heap.size) := hn₀
  clear hbm hbv hbp hn₀
  go_loopw [8] (fun i wr => ∃ (k : Nat) (B : Nat → Nat) (bs : Nat → List Nat) (sv : Nat → Value), k ≤ N ∧ i = .int .i64 k ∧ Outer wr n₀ bm bp N k (szOf zs) B bs sv ∧ wr.rowIs bv 30 N (fun j => if j < k then sv j else .slice none 0 0) ∧ Below n₀ w wr ∧ n₀ ≤ wr.heap.size ∧ (∀ i, i < k → n₀ ≤ B i ∧ ∀ b ∈ bs i, n₀ ≤ b))
    (fun i _ => N - (intOf i).toNat)
  case atStart => exact ⟨0, _, _, _, Nat.zero_le _, rfl, hO, hR, hB, by rw [Hn.out]; exact hB.size, fun i hi => by omega⟩
  case round =>
    obtain ⟨k, B, bs, sv, hk, rfl, hOk, hRk, hBk, hnk, hlk⟩ := hrel
    have Hlk : Hid (∀ i, i < k → n₀ ≤ B i ∧ ∀ b ∈ bs i, n₀ ≤ b) := hlk
    clear hlk
    clear hO hR hB
    obtain ⟨wo, rfl⟩ : ∃ wo : World, wo = wr := ⟨_, rfl⟩
    by_cases hlt : k < N
    · have hcx : wo.cell? ⟨b, off + k, none⟩ = some (.int .u8 (zs[k]?.getD 0)) := (hBk.cell (p := ⟨b, off + k, none⟩) hb).trans (hc k hlt)
      have hzk := hz k
      obtain ⟨z, hzd⟩ : ∃ z, zs[k]?.getD 0 = z := ⟨_, rfl⟩
      obtain ⟨n, hnd⟩ : ∃ n, szOf zs k = n := ⟨_, rfl⟩
      have hzn : z % 9 = (n : Int) := by rw [← hnd, szOf, hzd]; omega
      have hn8 : n ≤ 8 := by omega
      rw [hzd] at hcx hzk
      have Hn2 : Hid (szOf zs k = n) := hnd
      clear hzd hnd
      have HO : Hid (Outer wo n₀ bm bp N k (szOf zs) B bs sv) := hOk
      have HR : Hid (wo.rowIs bv 30 N (fun j => if j < k then sv j else .slice none 0 0)) := hRk
      clear hOk hRk
      go_wp2_with fail
      refine (new_any wo).mono ?_
      rintro r w1 ⟨rfl, hL1, hw1⟩
      have hI1 : Inner w1 n₀ bm bv bp N k (szOf zs) B bs sv wo.heap.size [] (.slice none 0 0) 0 0 := by
        rw [hw1]
        refine ⟨HO.out.alloc _, hw1 ▸ hL1, World.ownsRow_nil _ _ _ _, (HR.out.alloc _).congr (fun i _ => ?_), fun g hg => by simp [Value.ownBlock] at hg, fun i hi e => ?_⟩
        · by_cases h1 : i < k
          · simp [h1]
          · simp [h1]
        · have := (HO.out.lists i hi).lt; omega
      have hB1 : Below n₀ w w1 := by rw [hw1]; exact hBk.alloc hnk _
      have hn1 : n₀ ≤ w1.heap.size := by rw [hw1]; simp; omega
      obtain ⟨Bl, hBl⟩ : ∃ Bl, wo.heap.size = Bl := ⟨_, rfl⟩
      rw [hBl] at hI1 ⊢
      have hBln : n₀ ≤ Bl := by omega
      clear hw1 hL1 HO HR hBk hnk hcx hBl
      go_wp2
      go_loopw [11] (fun j wr => ∃ (q : Nat) (bl : List Nat) (s : Value), q ≤ n ∧ j = .int .i64 q ∧ Inner wr n₀ bm bv bp N k (szOf zs) B bs sv Bl bl s q q ∧ Below n₀ w wr ∧ n₀ ≤ wr.heap.size ∧ ∀ b ∈ bl, n₀ ≤ b)
        (fun j _ => n - (intOf j).toNat)
      case atStart => exact ⟨0, [], _, Nat.zero_le _, rfl, hI1, hB1, hn1, by simp⟩
      case round =>
        obtain ⟨q, bl, s, hq, rfl, hI, hBq, hnq, hlq⟩ := hrel
        clear hI1 hB1 hn1
        by_cases hqn : q < n
        · have hlen : bl.length ≤ 1000 := by have := hI.list.len; rw [vlist_length] at this; omega
          have hpush := push_any Bl bl (vlist k q) ((k : Int) * 16 + q) wr hI.list hlen
          have HI : Hid (Inner wr n₀ bm bv bp N k (szOf zs) B bs sv Bl bl s q q) := hI
          clear hI
          have hmx : (1024 : Nat) ≤ maxLen := by decide
          have hvv : vlist k q ++ [(k : Int) * 16 + q] = vlist k (q + 1) := by rw [vlist_succ]; simp
          have hvm : (vlist k q).map (Value.int .i64) ++ [.int .i64 ((k : Int) * 16 + q)] = (vlist k (q + 1)).map (Value.int .i64) := by rw [← hvv]; simp
          have Hvm : Hid ((vlist k q).map (Value.int .i64) ++ [.int .i64 ((k : Int) * 16 + q)] = (vlist k (q + 1)).map (Value.int .i64)) := hvm
          rw [hvv] at hpush
          clear hvv hvm
          go_wp2_with fail
          refine hpush.mono ?_
          rintro r w2 ⟨rfl, hL2, ho2⟩
          have hI2 := HI.out.pushed hL2 ho2
          have hB2 : Below n₀ w w2 := hBq.trans (ho2.below hnq (fun j _ hm => by
            rcases hm with h | h
            · omega
            · exact hlq j h))
          have hn2 : n₀ ≤ w2.heap.size := Nat.le_trans hnq ho2.size
          have hcv : w2.cell? ⟨bv, k, none⟩ = some s := by have := hI2.row.cell hlt; simpa using this
          have hHs : (w2.alloc (.cells #[.int .i64 ((k : Int) * 16 + q)] 3)).ownsRow n₀ 3 1 s q ((vlist k q).map (Value.int .i64)) := by
            have := (hI2.alloc (.cells #[.int .i64 ((k : Int) * 16 + q)] 3)).hold
            rwa [Holds, vlist_length] at this
          have HI2 : Hid (Inner w2 n₀ bm bv bp N k (szOf zs) B bs sv Bl (bl ++ [wr.heap.size]) s (q + 1) q) := hI2
          clear hpush hL2 ho2 hI2
          go_wp2_with (at_builtin; go_must (refine wpList_append_own_at _ rfl _ _ 30 rfl n₀ 3 i0 (.int .i64 0) 1 8 Yba.underlying30 hi hz0 hz1 hz2 rfl (by decide) s q ((vlist k q).map (Value.int .i64)) rfl hHs ⟨w2.heap.size, 0, none⟩ 1 1 [.int .i64 ((k : Int) * 16 + q)] rfl rfl (cell_one_new _ _ _) (by simp [Value.oneCell']) (by omega) (by omega) (by simp; omega) ?_); intro v' w3 hown' hgrow _ hloc; obtain ⟨g', cap', rfl⟩ := ownsRow_succ hown'; obtain ⟨⟨cr, hcr⟩, hrow3, hfin⟩ := (HI2.out.alloc _).appended (by rw [← Hvm.out]; exact hown') hgrow hloc; have hcv3 := hrow3.cell hlt; have hfv3 := hrow3.frozen k; have hfin2 := hfin hlt; have hB3 : Below n₀ w w3 := (hB2.alloc hn2 _).grown hgrow (by simp; omega) (fun j e => (HI2.out.hold.block e).1); clear hfin hrow3 hown' hgrow hloc hHs)
          exact ⟨⟨q + 1, bl ++ [wr.heap.size], _, by omega, by simp, hfin2, hB3.setCell (by simp; omega) _, by rw [show (w3.setCell ⟨bv, k, none⟩ _).heap.size = w3.heap.size by simp [World.setCell]]; exact Nat.le_trans (by rw [Hn.out]; exact Nat.le_refl _) hB3.size, by intro b hb; rcases List.mem_append.1 hb with h | h; exact hlq b h; simp at h; omega⟩, by simp [intOf]; omega⟩
        · obtain rfl : q = n := by omega
          have hwf : (Lit.int .i64 (k : Int)).wf = true := WalkArith.wf_i64 (by omega)
          have hI' : Inner wr n₀ bm bv bp N k (szOf zs) B bs sv Bl bl s (szOf zs k) (szOf zs k) := by rw [Hn2.out]; exact hI
          have hown := hI'.out.own
          have hmx : (1024 : Nat) < maxLen := by decide
          have HI : Hid (Inner wr n₀ bm bv bp N k (szOf zs) B bs sv Bl bl s (szOf zs k) (szOf zs k)) := hI'
          clear hI hI'
          go_wp2_with (at_mapUpdate; go_must (refine wpList_mapUpdate_own _ rfl _ _ _ 24 rfl 3 31 law3 Yba.underlying24 heldElem bm k _ rfl hown (by omega) _ _ (keyI k) rfl rfl (keyOf_int_mk Yba.underlying3 hwf) (ptrD Bl) [] rfl ?_); intro w2 hown2 hgrow2; obtain ⟨hP2, hfin⟩ := HI.out.stored hown2 hgrow2 hlt; have hcp := hP2.cell hlt; have hfp := hP2.frozen k; have hB2 : Below n₀ w w2 := hBq.grown hgrow2 hnq (fun j e => by cases e; exact hlo.1); clear hown2 hgrow2 hP2 hown)
          exact ⟨⟨k + 1, _, _, _, by omega, by simp, hfin.1, hfin.2, hB2.setCell (by simp; omega) _, by rw [show (w2.setCell ⟨bp, k, none⟩ _).heap.size = w2.heap.size by simp [World.setCell]]; exact Nat.le_trans (by rw [Hn.out]; exact Nat.le_refl _) hB2.size, fun i hi => by
            by_cases h1 : i = k
            · subst h1; rw [upd_same, upd_same]; exact ⟨hBln, hlq⟩
            · rw [upd_ne B Bl h1, upd_ne bs bl h1]; exact Hlk.out i (by omega)⟩, by simp [intOf]; omega⟩
    · obtain rfl : k = N := by omega
      have HO : Hid (Outer wo n₀ bm bp k k (szOf zs) B bs sv) := hOk
      have HR : Hid (wo.rowIs bv 30 k (fun j => if j < k then sv j else .slice none 0 0)) := hRk
      clear hOk hRk
      go_wp2
      go_ret3
      exact ⟨bm, bv, bp, B, bs, sv, rfl, by rw [← Hn.out]; exact HO.out, HR.out.congr (fun i hi => by simp [hi]), by rw [← Hn.out]; exact hBk, by rw [← Hn.out]; exact hlo.1, by rw [← Hn.out]; exact Hlk.out⟩
end Go.Proofs.Ybulkcktu
