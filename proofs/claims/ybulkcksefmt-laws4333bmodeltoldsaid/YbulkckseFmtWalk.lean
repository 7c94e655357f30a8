import Derived.Test.YbulkckseFmtCls
namespace Go.Proofs.YbulkckseFmt
open Go Go.RowKit Go.Maps Go.Stop

set_option maxRecDepth 100000 in
set_option maxHeartbeats 12000000 in
/-- The law at arguments that are not long. -/
theorem law_small (F : Interp) (n m : Nat) (R : Nat → RC) (v : Nat → Int) (ra va : Option Addr) (rcap vcap : Nat) (s : Int) (aE : Addr) (sE : ByteArray) (w : World) (hn : n ≤ 1024) (hm : m ≤ 1024) (hs : 0 ≤ s)
    (hR : RecsAt n R ra w) (hRv : ∀ j, 0 ≤ (R j).val) (hV : ValsAt m v va w) (hVv : ∀ j, 0 ≤ v j) (hF : F.answers w.tape)
    (hE : w.cell? ⟨0, 0, none⟩ = some (.iface 49 (.pointer (some aE)))) (hES : w.cell? aE = some (.string sE)) :
    Calls Ybaf.prog 3 #[.slice ra n rcap, .slice va m vcap, .int .u8 s] w fun e w' => e = .returned (.bool true) ∧ Below w.heap.size w w' := by
  have HR : Hid (RecsAt n R ra w) := hR
  have HV : Hid (ValsAt m v va w) := hV
  have HE : Hid (w.cell? ⟨0, 0, none⟩ = some (.iface 49 (.pointer (some aE)))) := hE
  have HES : Hid (w.cell? aE = some (.string sE)) := hES
  obtain ⟨B, hB⟩ : ∃ B, w.heap.size = B := ⟨_, rfl⟩
  clear hR hV hE hES
  have hmk := run_make27 n hn
  go_enter Ybaf.func3, Ybaf.ntmps3
  go_wp2_with fail
  refine (errorsNew _ _).mono ?_
  rintro e w1 ⟨rfl, rfl⟩
  go_wp2_with fail
  have hb0 : Bld B n R ra rcap (fun _ => (none, none, 0, 0)) 0 w (((((w.alloc (.cells #[.slice ra n rcap] 22)).alloc (.cells #[.string ⟨#[115, 111, 117, 114, 99, 101, 32, 102, 97, 105, 108, 101, 100]⟩] 51)).alloc (.cells #[.iface 49 (.pointer (some ⟨B + 1, 0, none⟩))] 25)).alloc (.cells (madeCells #[.int .i64 0, .int .i64 0, .string ⟨#[]⟩, .pointer none, .slice none 0 0] (n * 5)) 31)).alloc (.cells #[.slice (some ⟨B + 1 + 1 + 1, 0, none⟩) n n] 27)) := by
    refine ⟨?_, ?_, ?_, ?_, ?_, ?_, fun j hj => by omega, by simp; omega⟩
    · exact (((((Below.refl _ w).alloc (by omega) _).alloc (by simp; omega) _).alloc (by simp; omega) _).alloc (by simp; omega) _).alloc (by simp; omega) _
    · exact heap_up (heap_up (heap_up (heap_up (heap_new _ _ (by omega)) _) _) _) _
    · exact heap_up (heap_up (heap_up (heap_new _ _ (by simp; omega)) _) _) _
    · exact heap_up (heap_up (heap_new _ _ (by simp; omega)) _) _
    · have hr := builtAt_zero (((w.alloc (.cells #[.slice ra n rcap] 22)).alloc (.cells #[.string ⟨#[115, 111, 117, 114, 99, 101, 32, 102, 97, 105, 108, 101, 100]⟩] 51)).alloc (.cells #[.iface 49 (.pointer (some ⟨B + 1, 0, none⟩))] 25)) (fun _ => (none, none, 0, 0)) n
      rw [World.size_alloc, World.size_alloc, World.size_alloc, hB] at hr
      exact hr.alloc _
    · exact heap_new _ _ (by simp; omega)
  have Hb0 : Hid _ := hb0
  clear hb0 hmk
  go_loopw [41] (fun i wr => ∃ (k : Nat) (V : VT), k ≤ n ∧ i = .int .i64 k ∧ Bld B n R ra rcap V k w wr) (fun i _ => n - (intOf i).toNat)
  case atStart => exact ⟨0, _, Nat.zero_le _, rfl, Hb0.out⟩
  case round =>
    obtain ⟨k, V, hk, rfl, hbl⟩ := hrel
    clear Hb0
    by_cases hlt : k < n
    · obtain ⟨br, off, rfl, q0, q1, q2, q3⟩ := (HR.out.below (by rw [hB]; exact hbl.below)) k hlt
      have hbrec := brec_any k (R k).has (R k).wide (R k).val (.bool (R k).fail) (by omega) (hRv k) wr.drew
      have cB := hbl.built.cell
      have cR := hbl.recs.cell
      have after : ∀ w1, Below wr.drew.heap.size wr.drew w1 → w1.cell? ⟨B + 1 + 1 + 1 + 1, 0, none⟩ = some (.slice (some ⟨B + 1 + 1 + 1, 0, none⟩) n n) ∧ (∀ q, q < 5 → w1.cell? ⟨B + 1 + 1 + 1, k * 5 + q, none⟩ = some (builtAt V k (k * 5 + q))) ∧ (∀ q, w1.frozen? ⟨B + 1 + 1 + 1, q, none⟩ = false) := by
        intro w1 h1
        have h2 := hbl.only ((Below.refl wr.heap.size wr).drew.trans h1)
        exact ⟨h2.built.cell, fun q hq => h2.row.cell (by omega), fun q => h2.row.frozen q⟩
      have Hbl : Hid (Bld B n R (some ⟨br, off, none⟩) rcap V k w wr) := hbl
      clear hbl
      go_wp2_with fail
      go_region_with (go_at_call 5; go_must (refine hbrec.mono ?_); rintro e w1 ⟨Bs, vb, q, rfl, hBs, hlook, hb1⟩; obtain ⟨a1, a2, a3⟩ := after w1 hb1; obtain ⟨⟨g0, g0'⟩, ⟨g1, g1'⟩, ⟨g2, g2'⟩, ⟨g3, g3'⟩, ⟨g4, g4'⟩⟩ := chain5 a2 a3 (.int .i64 ((k : Int) + 1)) (.int .i64 ((k : Int) + 2)) (.string ⟨#[116]⟩) (.pointer (some ⟨Bs, 0, none⟩)); clear a3; have hsucc := Hbl.out.succ (some ⟨Bs, 0, none⟩, some ⟨vb, 0, none⟩, q, q) ((Below.refl wr.heap.size wr).drew.trans hb1) hlook; have Hsucc : Hid _ := hsucc; clear hsucc hlook hb1 a2 hbrec after)
      all_goals
        go_wp2_with fail
        exact ⟨⟨k + 1, _, by omega, by simp, Hsucc.out⟩, by simp [intOf]; omega⟩
    · have enk : n = k := by omega
      subst enk
      obtain ⟨wA, hwA⟩ : ∃ wA, wA = wr := ⟨_, rfl⟩
      subst hwA
      obtain ⟨C, hC⟩ : ∃ C, wA.heap.size = C := ⟨_, rfl⟩
      have hmk := run_make29 m hm
      have hBC := hbl.size
      have hbw := hbl.below
      have Hbl : Hid (Bld B n R ra rcap V n w wA) := hbl
      clear hbl
      go_wp2_with fail
      have hs0 : Sts C m v 0 wA ((wA.alloc (.cells #[.int .i64 0] 3)).alloc (.cells (madeCells #[.string ⟨#[]⟩] m) 9)) := by
        refine ⟨((Below.refl _ wA).alloc (by omega) _).alloc (by simp; omega) _, heap_up (heap_new _ _ (by omega)) _, ?_, by simp; omega⟩
        have := strAt_zero (wA.alloc (.cells #[.int .i64 0] 3)) v m
        rw [World.size_alloc, hC] at this
        exact this
      have Hs0 : Hid _ := hs0
      clear hs0 hmk
      go_loopw [60] (fun i wq => ∃ j : Nat, j ≤ m ∧ i = .int .i64 j ∧ Sts C m v j wA wq) (fun i _ => m - (intOf i).toNat)
      case atStart => exact ⟨0, Nat.zero_le _, rfl, Hs0.out⟩
      case round =>
        obtain ⟨j, hj, rfl, hst⟩ := hrel
        clear Hs0
        by_cases hjl : j < m
        · --LOOP2
          obtain ⟨bv, off, rfl, q0⟩ := (HV.out.below (by rw [hB]; exact hbw.trans (hst.below.mono (by omega)))) j hjl
          have hbval := bval_any (v j) (hVv j) wr
          have cS := hst.row.cell hjl
          have fS := hst.row.frozen j
          have hsu := hst.succ
          have Hsu : Hid _ := hsu
          clear hsu hst
          go_wp2_with fail
          refine hbval.mono ?_
          rintro e w2 ⟨rfl, rfl⟩
          clear hbval
          go_wp2_with fail
          exact ⟨⟨j + 1, by omega, by simp, Hsu.out⟩, by simp [intOf]; omega⟩
        · have ejm : m = j := by omega
          subst ejm
          obtain ⟨lim, hlim⟩ : ∃ lim : Nat, s.tmod 8 = (lim : Int) := ⟨(s.tmod 8).toNat, by rw [Int.tmod_eq_emod_of_nonneg hs]; omega⟩
          have hlim8 : lim < 8 := by rw [Int.tmod_eq_emod_of_nonneg hs] at hlim; omega
          obtain ⟨wB, hwB⟩ : ∃ wB, wB = wr := ⟨_, rfl⟩
          subst hwB
          have hsB := hst.size
          have HsB : Hid (Sts C m v m wA wB) := hst
          have HC : Hid (wA.heap.size = C) := hC
          clear hst hC
          go_wp2_with fail
          refine (restrict_here (B := B) (lim := lim) hm HsB.out).mono ?_
          rintro e wE ⟨bN, bW, bm, bq, bf, bs, bk, mapn, rfl, hrest, hlo, hbe⟩
          obtain ⟨hgood, hcore⟩ := good_here (F := F) (sE := sE) hn hlim8 hB HR.out hF HE.out HES.out Hbl.out HC.out HsB.out hrest hlo hbe
          have hstream := stream_any _ F hgood wE rfl hcore
          have hBC2 : B + 5 ≤ C := by rw [← HC.out]; exact hBC
          have hE2 : Below B w wE := below_here hbw (by omega) HsB.out hbe
          have hsE : B ≤ wE.heap.size := by have h1 := hbe.size; rw [show (wD lim wB).heap.size = C + 7 by simp [wD]; omega] at h1; omega
          go_wp2_with fail
          refine hstream.mono ?_
          rintro e Wf ⟨⟨vv, rfl⟩, hend⟩
          clear hstream
          obtain ⟨T, kk, pp, oR, oE, cR, cE, hres⟩ := res_of hgood hend
          have hrow := strs_here HsB.out hbe hres.only
          have hBf := below_end hE2 hBC2 hsE hres.only
          have hTn : T ≤ n := hres.hT
          have hkk := hres.kk1
          have f0 := fx_here hgood hres hrow
          have c0 := f0.recs
          have Hres : Hid (Res (envOf n m R v V ra rcap lim B C aE sE bN bW bm bq bf bs bk mapn wE) Wf T kk pp oR oE cR cE) := hres
          have Hrow : Hid (Wf.rowIs (C + 1) 9 m (strAt v m)) := hrow
          clear hend hrest hlo hbe hcore f0 hres hrow HR HV HE HES HC HsB Hbl hBC hsB hbw hE2 hsE
          go_wp2_with fail
          go_loopw [82, 19, 20] (fun i k e wr => ∃ j : Nat, j ≤ T ∧ i = .int .i64 j ∧ k = .int .i64 ((envOf n m R v V ra rcap lim B C aE sE bN bW bm bq bf bs bk mapn wE).k j : Nat) ∧ e = .int .i64 j ∧ Res (envOf n m R v V ra rcap lim B C aE sE bN bW bm bq bf bs bk mapn wE) wr T kk pp oR oE cR cE ∧ wr.rowIs (C + 1) 9 m (strAt v m) ∧ Below B w wr) (fun i _ _ _ => n - (intOf i).toNat)
          case atStart => exact ⟨0, Nat.zero_le _, rfl, rfl, rfl, Hres.out, Hrow.out, hBf⟩
          case round =>
            obtain ⟨j, hj, rfl, rfl, rfl, hres, hrow, hBr⟩ := hrel
            clear Hres Hrow hBf c0
            have hfx := fx_here hgood hres hrow
            by_cases hjT : j < T
            · have hjn : j < n := by omega
              obtain ⟨hf, hh, hkp⟩ := hres.run j hjT
              have Hh : Hid ((R j).has = true) := hh
              have hkept : (envOf n m R v V ra rcap lim B C aE sE bN bW bm bq bf bs bk mapn wE).kept j = inL (strsOf v m) (bvalS (R j).val) := by
                show inL _ (if (R j).has then _ else _) = _
                rw [show (R j).has = true from hh]
                rfl
              have hk1 := (envOf n m R v V ra rcap lim B C aE sE bN bW bm bq bf bs bk mapn wE).k_le j
              have hkno := @Env.k_no (envOf n m R v V ra rcap lim B C aE sE bN bW bm bq bf bs bk mapn wE) j
              have hkyes := @Env.k_yes (envOf n m R v V ra rcap lim B C aE sE bN bW bm bq bf bs bk mapn wE) j
              obtain ⟨K, hK⟩ : ∃ K, (envOf n m R v V ra rcap lim B C aE sE bN bW bm bq bf bs bk mapn wE).k j = K := ⟨_, rfl⟩
              rw [hK] at hkp hk1 hkno hkyes ⊢
              rw [hkept] at hkp hkno hkyes
              obtain ⟨br, off, rfl, q0, q1, q2, q3⟩ := hfx.row j hjn
              rw [show (R j).has = true from hh] at q0
              rw [show (R j).fail = false from hf] at q3
              have cRecs := hfx.recs
              have hbval := bval_any (R j).val (hRv j)
              have Hkp : Hid _ := hkp
              have Hres : Hid (Res (envOf n m R v V (some ⟨br, off, none⟩) rcap lim B C aE sE bN bW bm bq bf bs bk mapn wE) wr T kk pp oR oE cR cE) := hres
              have Hrow : Hid (wr.rowIs (C + 1) 9 m (strAt v m)) := hrow
              have Hno : Hid _ := hkno
              have Hyes : Hid _ := hkyes
              clear hkp hres hrow hfx hkno hkyes hkept hK hf hh
              go_wp2_with fail
              refine (hbval _).mono ?_
              rintro e w1 ⟨rfl, rfl⟩
              have hb1 : Below wr.heap.size wr (wr.alloc (.cells #[.bool true, .bool (R j).wide, .int .u8 (R j).val, .bool false] 34)) := (Below.refl _ wr).alloc (Nat.le_refl _) _
              generalize wr.alloc (.cells #[.bool true, .bool (R j).wide, .int .u8 (R j).val, .bool false] 34) = W1 at hb1 ⊢
              have hres1 := Hres.out.below hb1
              have hrow1 := Hrow.out.of_block (hb1.block _ Hrow.out.lt)
              have hfx1 := fx_here hgood hres1 hrow1
              have hbin := bin_any (some ⟨C + 1, 0, none⟩) m (strsOf v m) (bvalS (R j).val) W1 (by rw [strsOf_length]; exact hm) (fun i hi => ⟨C + 1, 0, rfl, by
                rw [strsOf_length] at hi
                rw [Nat.zero_add, strsOf_at v m i hi]
                exact hfx1.strs i hi⟩)
              rw [strsOf_length] at hbin
              clear q0 q1 q2 q3 cRecs hbval
              have hB1 : Below B w W1 := hBr.trans (hb1.mono (by have := hBr.size; omega))
              have Hr1 : Hid (Res (envOf n m R v V (some ⟨br, off, none⟩) rcap lim B C aE sE bN bW bm bq bf bs bk mapn wE) W1 T kk pp oR oE cR cE ∧ W1.rowIs (C + 1) 9 m (strAt v m)) := ⟨hres1, hrow1⟩
              clear hres1 hrow1
              go_wp2_with fail
              refine hbin.mono ?_
              rintro e w2 ⟨rfl, rfl⟩
              clear hbin
              obtain ⟨x, hx⟩ : ∃ x, inL (strsOf v m) (bvalS (R j).val) = x := ⟨_, rfl⟩
              rw [hx]
              have Hx : Hid (inL (strsOf v m) (bvalS (R j).val) = x) := hx
              clear hx

              cases x
              · clear hfx1
                go_wp2_with fail
                exact ⟨⟨j + 1, by omega, by simp, by rw [Hno.out Hx.out], by simp, Hr1.out.1, Hr1.out.2, hB1⟩, by simp [intOf]; omega⟩
              · obtain ⟨hnl, hKk, g, g', rfl, rfl, hcq, hce⟩ := Hkp.out Hx.out
                have hcq : ∀ q, q < 5 → wr.cell? ⟨g, K * 5 + q, none⟩ = some (recCell V j q) := hcq
                have k0 := (hb1.cell (p := ⟨g, K * 5 + 0, none⟩) (lt_of_cell (hcq 0 (by decide)))).trans (hcq 0 (by decide))
                have k1 := (hb1.cell (p := ⟨g, K * 5 + 1, none⟩) (lt_of_cell (hcq 1 (by decide)))).trans (hcq 1 (by decide))
                have k2 := (hb1.cell (p := ⟨g, K * 5 + 2, none⟩) (lt_of_cell (hcq 2 (by decide)))).trans (hcq 2 (by decide))
                have k3 := (hb1.cell (p := ⟨g, K * 5 + 3, none⟩) (lt_of_cell (hcq 3 (by decide)))).trans (hcq 3 (by decide))
                have k4 := (hb1.cell (p := ⟨g, K * 5 + 4, none⟩) (lt_of_cell (hcq 4 (by decide)))).trans (hcq 4 (by decide))
                have ke := (hb1.cell (p := ⟨g', K, none⟩) (lt_of_cell hce)).trans hce
                simp only [Nat.add_zero, recCell] at k0 k1 k2 k3 k4
                have cgR := hfx1.gR
                have HF1 : Hid (Fx n m R v V (some ⟨br, off, none⟩) rcap lim B C kk pp aE (some ⟨g, 0, none⟩) (some ⟨g', 0, none⟩) cR cE w2) := hfx1
                clear hcq hce hfx1
                go_wp2_with fail
                obtain ⟨W3, hW3⟩ : ∃ W3, W3 = w2.alloc (.cells #[.int .i64 ((j : Int) + 1), .int .i64 ((j : Int) + 2), .string ⟨#[116]⟩, .pointer (V j).1, .slice (V j).2.1 (V j).2.2.1 (V j).2.2.2] 31) := ⟨_, rfl⟩
                rw [← hW3]
                have hb3 : Below w2.heap.size w2 W3 := by rw [hW3]; exact (Below.refl _ w2).alloc (Nat.le_refl _) _
                have hblk : W3.heap[w2.heap.size]? = some (.cells #[.int .i64 ((j : Int) + 1), .int .i64 ((j : Int) + 2), .string ⟨#[116]⟩, .pointer (V j).1, .slice (V j).2.1 (V j).2.2.1 (V j).2.2.2] 31 (0, 0)) := by rw [hW3]; exact World.alloc_heap_new _ _
                have ke3 := (hb3.cell (p := ⟨g', K, none⟩) (lt_of_cell ke)).trans ke
                clear hW3 k0 k1 k2 k3 k4 ke cgR
                have hres3 := Hr1.out.1.below hb3
                have hrow3 := Hr1.out.2.of_block (hb3.block _ Hr1.out.2.lt)
                have hfx3 := fx_here hgood hres3 hrow3
                have d0 : W3.cell? ⟨w2.heap.size, 0, none⟩ = some (.int .i64 ((j : Int) + 1)) := cell_of hblk rfl
                have d1 : W3.cell? ⟨w2.heap.size, 1, none⟩ = some (.int .i64 ((j : Int) + 2)) := cell_of hblk rfl
                have d2 : W3.cell? ⟨w2.heap.size, 2, none⟩ = some (.string ⟨#[116]⟩) := cell_of hblk rfl
                have d3 : W3.cell? ⟨w2.heap.size, 3, none⟩ = some (.pointer (V j).1) := cell_of hblk rfl
                have d4 : W3.cell? ⟨w2.heap.size, 4, none⟩ = some (.slice (V j).2.1 (V j).2.2.1 (V j).2.2.2) := cell_of hblk rfl
                have cgE := hfx3.gE
                have cbu := hfx3.built
                have cbr := hfx3.brow j hjn
                have hfield : ∀ W4, Below W3.heap.size W3 W4 → Calls Ybaf.prog 12 #[recV ((j : Int) + 1) ((j : Int) + 2) ⟨#[116]⟩ (V j).1 (.slice (V j).2.1 (V j).2.2.1 (V j).2.2.2), .string ⟨#[107]⟩] W4 fun e w' => e = .returned (.string (bvalS (R j).val)) ∧ Below W4.heap.size W4 w' := by
                  intro W4 h4
                  refine Field_of _ sK (bvalS (R j).val) true _ _ _ _ _ _ _ rfl _ ?_
                  have hl := hgood.look j hjn (W4.alloc (.cells #[.int .i64 ((j : Int) + 1), .int .i64 ((j : Int) + 2), .string ⟨#[116]⟩, .pointer (V j).1, .slice (V j).2.1 (V j).2.2.1 (V j).2.2.2] 31)) ((hres3.only.andThen (Only.of_below h4 (fun _ => False)) (fun _ _ hf => hf.elim)).alloc _)
                  have e1 : (envOf n m R v V (some ⟨br, off, none⟩) rcap lim B C aE sE bN bW bm bq bf bs bk mapn wE).vOf j = bvalS (R j).val := by
                    show (if (R j).has then bvalS (R j).val else ⟨#[]⟩) = _
                    rw [show (R j).has = true from Hh.out]
                    rfl
                  rw [e1, show ((envOf n m R v V (some ⟨br, off, none⟩) rcap lim B C aE sE bN bW bm bq bf bs bk mapn wE).R j).has = true from Hh.out] at hl
                  exact hl.mono fun e w' h => ⟨h.1, by have := h.2; rwa [World.size_alloc] at this⟩
                have hne28 := neq28_same
                have hB3 : Below B w W3 := hB1.trans (hb3.mono (by have := hB1.size; omega))
                have Hr3 : Hid (Res (envOf n m R v V (some ⟨br, off, none⟩) rcap lim B C aE sE bN bW bm bq bf bs bk mapn wE) W3 T kk pp (some ⟨g, 0, none⟩) (some ⟨g', 0, none⟩) cR cE ∧ W3.rowIs (C + 1) 9 m (strAt v m)) := ⟨hres3, hrow3⟩
                have HB3 : Hid (Below B w W3) := hB3
                obtain ⟨X, U, hU, hUb⟩ := cls_of W3
                have hfU : ∀ x, Calls Ybaf.prog 12 #[recV ((j : Int) + 1) ((j : Int) + 2) ⟨#[116]⟩ (V j).1 (.slice (V j).2.1 (V j).2.2.1 (V j).2.2.2), .string ⟨#[107]⟩] (U x) fun e w' => e = .returned (.string (bvalS (R j).val)) ∧ ∃ x', w' = U x' := fun x => (hfield (U x) (hU x)).mono fun e w' h => ⟨h.1, hUb _ ((hU x).trans (h.2.mono (hU x).size))⟩
                have hst : ∃ x, W3.drew = U x := hUb _ (Below.refl _ W3).drew
                have hNE : Nonempty X := ⟨hst.choose⟩
                have kU : ∀ {a : Addr} {u : Value}, W3.cell? a = some u → ∀ x, (U x).cell? a = some u := fun hc x => ((hU x).cell (lt_of_cell hc)).trans hc
                have v0 := kU d0
                have v1 := kU d1
                have v2 := kU d2
                have v3 := kU d3
                have v4 := kU d4
                have ve := kU ke3
                have vE := kU cgE
                have vB := kU cbu
                have vr := kU cbr
                clear hres3 hrow3 hblk hfx3 HF1 kU d0 d1 d2 d3 d4 ke3 cgE cbu cbr hfield
                refine wp_region_cls U (by kernel_rfl) (by kernel_rfl) hst ?_
                repeat (go_big_quiet_step (exact hfU _))
                refine wpQuiet_nil ?_
                rintro w4 ⟨x4, rfl⟩
                have Hb4 : Hid (Below W3.heap.size W3 (U x4)) := hU x4
                generalize U x4 = w4 at Hb4 ⊢
                clear v0 v1 v2 v3 v4 ve vE vB vr hfU hst hU hUb hNE

                have hres4 := Hr3.out.1.below Hb4.out
                have hrow4 := Hr3.out.2.of_block (Hb4.out.block _ Hr3.out.2.lt)
                have hB4 : Below B w w4 := HB3.out.trans (Hb4.out.mono (by have := HB3.out.size; omega))
                have hfx4 := fx_here hgood hres4 hrow4
                have cM := hfx4.M

                clear hfx4
                by_cases hl0 : 0 < lim
                · have hl1 : ¬ (K + 1 = lim) := fun h => hnl ⟨hl0, h⟩
                  have hl2 : ((K : Int) + 1 == (lim : Int)) = false := by simp; omega
                  go_wp2_with fail
                  exact ⟨⟨j + 1, by omega, by simp, by rw [Hyes.out Hx.out]; simp, by simp, hres4, hrow4, hB4⟩, by simp [intOf]; omega⟩
                · go_wp2_with fail
                  exact ⟨⟨j + 1, by omega, by simp, by rw [Hyes.out Hx.out]; simp, by simp, hres4, hrow4, hB4⟩, by simp [intOf]; omega⟩

            · have ejT : j = T := by omega
              subst ejT
              rcases hres.fin with ⟨h1, h2, h3⟩ | ⟨hjn0, hpp, hkk1, g, g', e1, e2, hc⟩
              · have cL := hfx.L
                have cP := hfx.P
                have cgR := hfx.gR
                have cRecs := hfx.recs
                have e1 : j = n := h1
                have e2 : kk = (envOf n m R v V ra rcap lim B C aE sE bN bW bm bq bf bs bk mapn wE).k n := h2
                have e3 : pp = n := h3
                rw [show j = n from e1, ← e2]
                subst e3
                clear hres hrow hfx h1 h2 h3 e2
                go_wp2_with fail
                go_ret
                exact ⟨rfl, by rw [hB]; exact hBr⟩

              · have hjn0 : j < n := hjn0
                subst hpp
                rcases hc with ⟨hf, hcq, hce⟩ | ⟨hf, hh, hcq, b, c, t, hce, hblk, hcblk⟩ | ⟨hf, hh, hkt, hl0, hl1, hcq, hce⟩
                · have hjn : j < n := by omega
                  have hk1 := (envOf n m R v V ra rcap lim B C aE sE bN bW bm bq bf bs bk mapn wE).k_le j
                  obtain ⟨K, hK⟩ : ∃ K, (envOf n m R v V ra rcap lim B C aE sE bN bW bm bq bf bs bk mapn wE).k j = K := ⟨_, rfl⟩
                  rw [hK] at hcq hce hkk1 hk1 ⊢
                  subst hkk1
                  obtain ⟨br, off, rfl, q0, q1, q2, q3⟩ := hfx.row j hjn
                  rw [show (R j).fail = true from hf] at q3
                  subst e1 e2
                  have hce : wr.cell? ⟨g', K, none⟩ = some (.iface 49 (.pointer (some ⟨B + 1, 0, none⟩))) := hce
                  have cRecs := hfx.recs
                  have k0 := hcq 0 (by decide)
                  have k3 := hcq 3 (by decide)
                  simp only [Nat.add_zero, zeroCell] at k0 k3
                  have hb1 : Below wr.heap.size wr (wr.alloc (.cells #[.bool (R j).has, .bool (R j).wide, .int .u8 (R j).val, .bool true] 34)) := (Below.refl _ wr).alloc (Nat.le_refl _) _
                  have hres1 := hres.below hb1
                  have hrow1 := hrow.of_block (hb1.block _ hrow.lt)
                  have hfx1 := fx_here hgood hres1 hrow1
                  have j0 := (hb1.cell (p := ⟨g, K * 5, none⟩) (lt_of_cell k0)).trans k0
                  have j3 := (hb1.cell (p := ⟨g, K * 5 + 3, none⟩) (lt_of_cell k3)).trans k3
                  have je := (hb1.cell (p := ⟨g', K, none⟩) (lt_of_cell hce)).trans hce
                  have hB1 := hBr.trans (hb1.mono (by have := hBr.size; omega))
                  have cgR := hfx1.gR
                  have cgE := hfx1.gE
                  have cErr := hfx1.err
                  have cL := hfx1.L
                  have cP := hfx1.P
                  have hq25 := neq25_same
                  have hq28 := neq28_same
                  have HB1 : Hid (Below B w (wr.alloc (.cells #[.bool (R j).has, .bool (R j).wide, .int .u8 (R j).val, .bool true] 34))) := hB1
                  clear hcq hce k0 k3 hres hrow hfx hres1 hrow1 hfx1 hb1 hB1
                  go_wp2_with fail
                  go_quiet (fail)
                  go_wp2_with fail
                  go_ret
                  exact ⟨rfl, by rw [hB]; exact ⟨HB1.out.os, HB1.out.tape, HB1.out.output, HB1.out.size, HB1.out.block⟩⟩

                · have hjn : j < n := by omega
                  have hk1 := (envOf n m R v V ra rcap lim B C aE sE bN bW bm bq bf bs bk mapn wE).k_le j
                  obtain ⟨K, hK⟩ : ∃ K, (envOf n m R v V ra rcap lim B C aE sE bN bW bm bq bf bs bk mapn wE).k j = K := ⟨_, rfl⟩
                  rw [hK] at hcq hce hkk1 hk1 ⊢
                  subst hkk1
                  obtain ⟨br, off, rfl, q0, q1, q2, q3⟩ := hfx.row j hjn
                  rw [show (R j).fail = false from hf] at q3
                  rw [show (R j).has = false from hh] at q0
                  subst e1 e2
                  have cRecs := hfx.recs
                  have k0 := hcq 0 (by decide)
                  have k3 := hcq 3 (by decide)
                  simp only [Nat.add_zero, zeroCell] at k0 k3
                  have hb1 : Below wr.heap.size wr (wr.alloc (.cells #[.bool false, .bool (R j).wide, .int .u8 (R j).val, .bool false] 34)) := (Below.refl _ wr).alloc (Nat.le_refl _) _
                  have hres1 := hres.below hb1
                  have hrow1 := hrow.of_block (hb1.block _ hrow.lt)
                  have hfx1 := fx_here hgood hres1 hrow1
                  have j0 := (hb1.cell (p := ⟨g, K * 5, none⟩) (lt_of_cell k0)).trans k0
                  have j3 := (hb1.cell (p := ⟨g, K * 5 + 3, none⟩) (lt_of_cell k3)).trans k3
                  have je := (hb1.cell (p := ⟨g', K, none⟩) (lt_of_cell hce)).trans hce
                  have hB1 := hBr.trans (hb1.mono (by have := hBr.size; omega))
                  have cgR := hfx1.gR
                  have cgE := hfx1.gE
                  have cGl := hfx1.glob
                  have jb := heap_up hblk (.cells #[.bool false, .bool (R j).wide, .int .u8 (R j).val, .bool false] 34)
                  have jc := heap_up hcblk (.cells #[.bool false, .bool (R j).wide, .int .u8 (R j).val, .bool false] 34)
                  have cL := hfx1.L
                  have cP := hfx1.P
                  have has41 := assert41
                  have hq28 := neq28_same
                  have HB1 : Hid (Below B w (wr.alloc (.cells #[.bool false, .bool (R j).wide, .int .u8 (R j).val, .bool false] 34))) := hB1
                  clear hcq hce k0 k3 hres hrow hfx hres1 hrow1 hfx1 hb1 hB1
                  go_wp2_with fail
                  generalize wr.alloc (.cells #[.bool false, .bool (R j).wide, .int .u8 (R j).val, .bool false] 34) = W1 at HB1 j0 j3 je cgR cgE cGl jb jc cL cP ⊢
                  have b0 : W1.cell? ⟨b, 0, none⟩ = some (.int .i64 ((j : Int) + 1)) := cell_of jb rfl
                  have b1 : W1.cell? ⟨b, 1, none⟩ = some (.int .i64 ((j : Int) + 2)) := cell_of jb rfl
                  have b2 : W1.cell? ⟨b, 2, none⟩ = some (.iface 76 (.pointer (some ⟨c, 0, none⟩))) := cell_of jb rfl
                  have jc' : W1.cell? ⟨c, 0 + 1, none⟩ = some (.iface 49 (.pointer (some aE))) := cell_of jc rfl
                  obtain ⟨X, U, hU, hUb⟩ := cls_of W1
                  have kU : ∀ {a : Addr} {u : Value}, W1.cell? a = some u → ∀ x, (U x).cell? a = some u := fun hc x => ((hU x).cell (lt_of_cell hc)).trans hc
                  have hiU : ∀ x, Calls Ybaf.prog 10 #[.iface 76 (.pointer (some ⟨c, 0, none⟩)), .iface 49 (.pointer (some aE))] (U x) fun e w' => e = .returned (.bool true) ∧ ∃ x', w' = U x' := fun x => (is_wrap_same c 0 aE (U x) (kU jc' x)).mono fun e w' h => ⟨h.1, x, h.2⟩
                  have hst : ∃ x, W1.drew = U x := hUb _ (Below.refl _ W1).drew
                  have hNE : Nonempty X := ⟨hst.choose⟩
                  have v0 := kU b0
                  have v1 := kU b1
                  have v2 := kU b2
                  have v3 := kU j0
                  have v4 := kU j3
                  have vR := kU cgR
                  have vG := kU cGl
                  have vL := kU cL
                  have vP := kU cP
                  clear jb jc jc' b0 b1 b2 j0 j3 cGl
                  go_wp2_with fail
                  clear cgR cL cP je cgE
                  refine wp_region_cls U (by kernel_rfl) (by kernel_rfl) hst ?_
                  repeat (go_big_quiet_step (exact hiU _))
                  refine wpQuiet_nil ?_
                  rintro w4 ⟨x4, rfl⟩
                  go_wp2_with fail
                  go_ret
                  exact ⟨rfl, by rw [hB]; exact HB1.out.trans ((hU x4).mono (by have := HB1.out.size; omega))⟩

                · have hjn : j < n := by omega
                  have Hh : Hid ((R j).has = true) := hh
                  have hkp : (envOf n m R v V ra rcap lim B C aE sE bN bW bm bq bf bs bk mapn wE).kept j = true → (0 < lim ∧ (envOf n m R v V ra rcap lim B C aE sE bN bW bm bq bf bs bk mapn wE).k j + 1 = lim) ∧ (envOf n m R v V ra rcap lim B C aE sE bN bW bm bq bf bs bk mapn wE).k j + 1 = kk ∧ ∃ g g', oR = some ⟨g, 0, none⟩ ∧ oE = some ⟨g', 0, none⟩ ∧ (∀ q, q < 5 → wr.cell? ⟨g, (envOf n m R v V ra rcap lim B C aE sE bN bW bm bq bf bs bk mapn wE).k j * 5 + q, none⟩ = some (recCell V j q)) ∧ wr.cell? ⟨g', (envOf n m R v V ra rcap lim B C aE sE bN bW bm bq bf bs bk mapn wE).k j, none⟩ = some .nilIface := fun _ => ⟨⟨hl0, hl1⟩, hkk1.symm, g, g', e1, e2, hcq, hce⟩
                  have Hkt : Hid ((envOf n m R v V ra rcap lim B C aE sE bN bW bm bq bf bs bk mapn wE).kept j = true) := hkt
                  clear hcq hce e1 e2 hkt hkk1 hl1
                  have hkept : (envOf n m R v V ra rcap lim B C aE sE bN bW bm bq bf bs bk mapn wE).kept j = inL (strsOf v m) (bvalS (R j).val) := by
                    show inL _ (if (R j).has then _ else _) = _
                    rw [show (R j).has = true from hh]
                    rfl
                  have hk1 := (envOf n m R v V ra rcap lim B C aE sE bN bW bm bq bf bs bk mapn wE).k_le j
                  have hkno := @Env.k_no (envOf n m R v V ra rcap lim B C aE sE bN bW bm bq bf bs bk mapn wE) j
                  have hkyes := @Env.k_yes (envOf n m R v V ra rcap lim B C aE sE bN bW bm bq bf bs bk mapn wE) j
                  obtain ⟨K, hK⟩ : ∃ K, (envOf n m R v V ra rcap lim B C aE sE bN bW bm bq bf bs bk mapn wE).k j = K := ⟨_, rfl⟩
                  rw [hK] at hkp hk1 hkno hkyes ⊢
                  rw [hkept] at hkp hkno hkyes
                  obtain ⟨br, off, rfl, q0, q1, q2, q3⟩ := hfx.row j hjn
                  rw [show (R j).has = true from hh] at q0
                  rw [show (R j).fail = false from hf] at q3
                  have cRecs := hfx.recs
                  have hbval := bval_any (R j).val (hRv j)
                  have Hkp : Hid _ := hkp
                  have Hres : Hid (Res (envOf n m R v V (some ⟨br, off, none⟩) rcap lim B C aE sE bN bW bm bq bf bs bk mapn wE) wr j kk (j + 1) oR oE cR cE) := hres
                  have Hrow : Hid (wr.rowIs (C + 1) 9 m (strAt v m)) := hrow
                  have Hno : Hid _ := hkno
                  have Hyes : Hid _ := hkyes
                  have Hkt2 : Hid (inL (strsOf v m) (bvalS (R j).val) = true) := by rw [show _ = _ from hkept.symm]; exact Hkt.out
                  clear hkp hres hrow hfx hkno hkyes hkept hK hf hh Hkt
                  go_wp2_with fail
                  refine (hbval _).mono ?_
                  rintro e w1 ⟨rfl, rfl⟩
                  have hb1 : Below wr.heap.size wr (wr.alloc (.cells #[.bool true, .bool (R j).wide, .int .u8 (R j).val, .bool false] 34)) := (Below.refl _ wr).alloc (Nat.le_refl _) _
                  generalize wr.alloc (.cells #[.bool true, .bool (R j).wide, .int .u8 (R j).val, .bool false] 34) = W1 at hb1 ⊢
                  have hres1 := Hres.out.below hb1
                  have hrow1 := Hrow.out.of_block (hb1.block _ Hrow.out.lt)
                  have hfx1 := fx_here hgood hres1 hrow1
                  have hbin := bin_any (some ⟨C + 1, 0, none⟩) m (strsOf v m) (bvalS (R j).val) W1 (by rw [strsOf_length]; exact hm) (fun i hi => ⟨C + 1, 0, rfl, by
                    rw [strsOf_length] at hi
                    rw [Nat.zero_add, strsOf_at v m i hi]
                    exact hfx1.strs i hi⟩)
                  rw [strsOf_length] at hbin
                  clear q0 q1 q2 q3 cRecs hbval
                  have hB1 : Below B w W1 := hBr.trans (hb1.mono (by have := hBr.size; omega))
                  have Hr1 : Hid (Res (envOf n m R v V (some ⟨br, off, none⟩) rcap lim B C aE sE bN bW bm bq bf bs bk mapn wE) W1 j kk (j + 1) oR oE cR cE ∧ W1.rowIs (C + 1) 9 m (strAt v m)) := ⟨hres1, hrow1⟩
                  clear hres1 hrow1
                  go_wp2_with fail
                  refine hbin.mono ?_
                  rintro e w2 ⟨rfl, rfl⟩
                  clear hbin
                  obtain ⟨x, hx⟩ : ∃ x, inL (strsOf v m) (bvalS (R j).val) = x := ⟨_, rfl⟩
                  rw [hx]
                  have Hx : Hid (inL (strsOf v m) (bvalS (R j).val) = x) := hx
                  clear hx

                  obtain rfl : x = true := Hx.out.symm.trans Hkt2.out
                  obtain ⟨⟨hl0', hl1⟩, hkk1, g, g', rfl, rfl, hcq, hce⟩ := Hkp.out Hx.out
                  subst hkk1
                  have k0 := (hb1.cell (p := ⟨g, K * 5 + 0, none⟩) (lt_of_cell (hcq 0 (by decide)))).trans (hcq 0 (by decide))
                  have k1 := (hb1.cell (p := ⟨g, K * 5 + 1, none⟩) (lt_of_cell (hcq 1 (by decide)))).trans (hcq 1 (by decide))
                  have k2 := (hb1.cell (p := ⟨g, K * 5 + 2, none⟩) (lt_of_cell (hcq 2 (by decide)))).trans (hcq 2 (by decide))
                  have k3 := (hb1.cell (p := ⟨g, K * 5 + 3, none⟩) (lt_of_cell (hcq 3 (by decide)))).trans (hcq 3 (by decide))
                  have k4 := (hb1.cell (p := ⟨g, K * 5 + 4, none⟩) (lt_of_cell (hcq 4 (by decide)))).trans (hcq 4 (by decide))
                  have ke := (hb1.cell (p := ⟨g', K, none⟩) (lt_of_cell hce)).trans hce
                  simp only [Nat.add_zero, recCell] at k0 k1 k2 k3 k4
                  have cgR := hfx1.gR
                  have HF1 : Hid (Fx n m R v V (some ⟨br, off, none⟩) rcap lim B C (K + 1) (j + 1) aE (some ⟨g, 0, none⟩) (some ⟨g', 0, none⟩) cR cE w2) := hfx1
                  clear hcq hce hfx1
                  go_wp2_with fail
                  obtain ⟨W3, hW3⟩ : ∃ W3, W3 = w2.alloc (.cells #[.int .i64 ((j : Int) + 1), .int .i64 ((j : Int) + 2), .string ⟨#[116]⟩, .pointer (V j).1, .slice (V j).2.1 (V j).2.2.1 (V j).2.2.2] 31) := ⟨_, rfl⟩
                  rw [← hW3]
                  have hb3 : Below w2.heap.size w2 W3 := by rw [hW3]; exact (Below.refl _ w2).alloc (Nat.le_refl _) _
                  have hblk : W3.heap[w2.heap.size]? = some (.cells #[.int .i64 ((j : Int) + 1), .int .i64 ((j : Int) + 2), .string ⟨#[116]⟩, .pointer (V j).1, .slice (V j).2.1 (V j).2.2.1 (V j).2.2.2] 31 (0, 0)) := by rw [hW3]; exact World.alloc_heap_new _ _
                  have ke3 := (hb3.cell (p := ⟨g', K, none⟩) (lt_of_cell ke)).trans ke
                  clear hW3 k0 k1 k2 k3 k4 ke cgR
                  have hres3 := Hr1.out.1.below hb3
                  have hrow3 := Hr1.out.2.of_block (hb3.block _ Hr1.out.2.lt)
                  have hfx3 := fx_here hgood hres3 hrow3
                  have d0 : W3.cell? ⟨w2.heap.size, 0, none⟩ = some (.int .i64 ((j : Int) + 1)) := cell_of hblk rfl
                  have d1 : W3.cell? ⟨w2.heap.size, 1, none⟩ = some (.int .i64 ((j : Int) + 2)) := cell_of hblk rfl
                  have d2 : W3.cell? ⟨w2.heap.size, 2, none⟩ = some (.string ⟨#[116]⟩) := cell_of hblk rfl
                  have d3 : W3.cell? ⟨w2.heap.size, 3, none⟩ = some (.pointer (V j).1) := cell_of hblk rfl
                  have d4 : W3.cell? ⟨w2.heap.size, 4, none⟩ = some (.slice (V j).2.1 (V j).2.2.1 (V j).2.2.2) := cell_of hblk rfl
                  have cgE := hfx3.gE
                  have cbu := hfx3.built
                  have cbr := hfx3.brow j hjn
                  have hfield : ∀ W4, Below W3.heap.size W3 W4 → Calls Ybaf.prog 12 #[recV ((j : Int) + 1) ((j : Int) + 2) ⟨#[116]⟩ (V j).1 (.slice (V j).2.1 (V j).2.2.1 (V j).2.2.2), .string ⟨#[107]⟩] W4 fun e w' => e = .returned (.string (bvalS (R j).val)) ∧ Below W4.heap.size W4 w' := by
                    intro W4 h4
                    refine Field_of _ sK (bvalS (R j).val) true _ _ _ _ _ _ _ rfl _ ?_
                    have hl := hgood.look j hjn (W4.alloc (.cells #[.int .i64 ((j : Int) + 1), .int .i64 ((j : Int) + 2), .string ⟨#[116]⟩, .pointer (V j).1, .slice (V j).2.1 (V j).2.2.1 (V j).2.2.2] 31)) ((hres3.only.andThen (Only.of_below h4 (fun _ => False)) (fun _ _ hf => hf.elim)).alloc _)
                    have e1 : (envOf n m R v V (some ⟨br, off, none⟩) rcap lim B C aE sE bN bW bm bq bf bs bk mapn wE).vOf j = bvalS (R j).val := by
                      show (if (R j).has then bvalS (R j).val else ⟨#[]⟩) = _
                      rw [show (R j).has = true from Hh.out]
                      rfl
                    rw [e1, show ((envOf n m R v V (some ⟨br, off, none⟩) rcap lim B C aE sE bN bW bm bq bf bs bk mapn wE).R j).has = true from Hh.out] at hl
                    exact hl.mono fun e w' h => ⟨h.1, by have := h.2; rwa [World.size_alloc] at this⟩
                  have hne28 := neq28_same
                  have hB3 : Below B w W3 := hB1.trans (hb3.mono (by have := hB1.size; omega))
                  have Hr3 : Hid (Res (envOf n m R v V (some ⟨br, off, none⟩) rcap lim B C aE sE bN bW bm bq bf bs bk mapn wE) W3 j (K + 1) (j + 1) (some ⟨g, 0, none⟩) (some ⟨g', 0, none⟩) cR cE ∧ W3.rowIs (C + 1) 9 m (strAt v m)) := ⟨hres3, hrow3⟩
                  have HB3 : Hid (Below B w W3) := hB3
                  obtain ⟨X, U, hU, hUb⟩ := cls_of W3
                  have hfU : ∀ x, Calls Ybaf.prog 12 #[recV ((j : Int) + 1) ((j : Int) + 2) ⟨#[116]⟩ (V j).1 (.slice (V j).2.1 (V j).2.2.1 (V j).2.2.2), .string ⟨#[107]⟩] (U x) fun e w' => e = .returned (.string (bvalS (R j).val)) ∧ ∃ x', w' = U x' := fun x => (hfield (U x) (hU x)).mono fun e w' h => ⟨h.1, hUb _ ((hU x).trans (h.2.mono (hU x).size))⟩
                  have hst : ∃ x, W3.drew = U x := hUb _ (Below.refl _ W3).drew
                  have hNE : Nonempty X := ⟨hst.choose⟩
                  have kU : ∀ {a : Addr} {u : Value}, W3.cell? a = some u → ∀ x, (U x).cell? a = some u := fun hc x => ((hU x).cell (lt_of_cell hc)).trans hc
                  have v0 := kU d0
                  have v1 := kU d1
                  have v2 := kU d2
                  have v3 := kU d3
                  have v4 := kU d4
                  have ve := kU ke3
                  have vE := kU cgE
                  have vB := kU cbu
                  have vr := kU cbr
                  clear hres3 hrow3 hblk hfx3 HF1 kU d0 d1 d2 d3 d4 ke3 cgE cbu cbr hfield
                  refine wp_region_cls U (by kernel_rfl) (by kernel_rfl) hst ?_
                  repeat (go_big_quiet_step (exact hfU _))
                  refine wpQuiet_nil ?_
                  rintro w4 ⟨x4, rfl⟩
                  have Hb4 : Hid (Below W3.heap.size W3 (U x4)) := hU x4
                  generalize U x4 = w4 at Hb4 ⊢
                  clear v0 v1 v2 v3 v4 ve vE vB vr hfU hst hU hUb hNE

                  have hres4 := Hr3.out.1.below Hb4.out
                  have hrow4 := Hr3.out.2.of_block (Hb4.out.block _ Hr3.out.2.lt)
                  have hB4 : Below B w w4 := HB3.out.trans (Hb4.out.mono (by have := HB3.out.size; omega))
                  have hfx4 := fx_here hgood hres4 hrow4
                  have cM := hfx4.M

                  have cL := hfx4.L
                  have cP := hfx4.P
                  have cgR4 := hfx4.gR
                  clear hfx4 hres4 hrow4
                  have hl2 : ((K : Int) + 1 == (lim : Int)) = true := by simp; omega
                  have hl3 : (K : Int) + 1 = lim := by omega
                  go_wp2_with fail
                  go_ret
                  exact ⟨rfl, by rw [hB]; exact hB4⟩

end Go.Proofs.YbulkckseFmt
