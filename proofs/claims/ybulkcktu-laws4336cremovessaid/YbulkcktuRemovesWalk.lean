import Derived.Test.YbulkcktuForeignWalk
namespace Go.Proofs.Ybulkcktu
open Go Go.RowKit Go.Maps

variable {n₀ bm bv bp N : Nat} {sz B : Nat → Nat} {bs : Nat → List Nat} {sv : Nat → Value} {w0 w : World}

/-- A drop of a foreign element at an empty list, 'want' nil. -/
theorem drop_empty (k Bx c n p : Nat) (v : Int) (bx : List Nat) (vx : List Int) (hO : Outer w0 n₀ bm bp N N sz B bs sv) (hV : w0.rowIs bv 30 N sv) (ho0 : Only (fun _ => False) w0 w) (hk : k < N) (hN : N ≤ 256) (hsz : ∀ i, i < N → sz i ≤ 8) (h0 : sz k = 0)
    (hx : IsL w Bx bx vx) (hne : Bx ≠ B k) (hc : LNode w c n p Bx v) :
    Calls Yba.prog 9 #[.map (some bm), .int .i64 k, .pointer (some ⟨c, 0, none⟩)] w fun r w' => (∃ u, r = .returned u) ∧ Only (fun j => j = bm) w w' ∧ LNode w' c n p Bx v ∧ ∃ D bsf, Final w' n₀ N bm bv bp k N D B bsf sv (fun i => vlist i (sz i)) (.slice none 0 0) [] := by
  refine (drop_foreign k Bx c n p v bx vx hO hV ho0 hk hN hsz hx hne hc).mono ?_
  rintro r w' ⟨hu, ho, D, bsf, hF⟩
  have e : vlist k (sz k) = [] := by rw [h0]; rfl
  rw [e] at hF
  have hown : w.ownsMap Yba.prog 3 heldElem bm N (mapD B N) := by
    obtain ⟨es, clock, hb, r⟩ := hO.own
    exact ⟨es, clock, ho0.at hb (fun h => h), r⟩
  exact ⟨hu, ho, ho.at hc (fun e => map_ne hc hown e), D, bsf, ⟨hF.own, hF.vals, hF.ptrs, hF.holds, hF.lists, hF.listk, World.ownsRow_nil _ _ _ _, hF.has, hF.at_, hF.size, hF.small⟩⟩

theorem Holds.base {w : World} {n₁ : Nat} {v : Value} {vs : List Int} (h : Holds w n₁ v vs) (hn : n₀ ≤ n₁) : Holds w n₀ v vs := by
  refine ⟨h.1, ?_⟩
  rcases h.2 with h0 | ⟨g, cap, cur, hv, hb, r⟩
  · exact .inl h0
  · exact .inr ⟨g, cap, cur, hv, Nat.le_trans hn hb, r⟩

/-- A drop of the element at place p of list k. -/
theorem drop_hit (k p : Nat) (wk : Value) (hO : Outer w0 n₀ bm bp N N sz B bs sv) (hV : w0.rowIs bv 30 N sv) (ho0 : Only (fun _ => False) w0 w) (hk : k < N) (hN : N ≤ 256) (hsz : ∀ i, i < N → sz i ≤ 8) (hp : p < sz k)
    (hwk : Holds w n₀ wk ((vlist k (sz k)).eraseIdx p)) :
    Calls Yba.prog 9 #[.map (some bm), .int .i64 k, .pointer (some ⟨(bs k)[p]?.getD 0, 0, none⟩)] w fun r w' => (∃ u, r = .returned u) ∧ Only (Turned (B k) (bs k) bm) w w' ∧ Gone w' ((bs k)[p]?.getD 0) ((vlist k (sz k))[p]?.getD 0) ∧ ∃ D bsf, Final w' n₀ N bm bv bp k N D B bsf sv (fun i => vlist i (sz i)) wk ((vlist k (sz k)).eraseIdx p) := by
  have hlk : IsL w (B k) (bs k) (vlist k (sz k)) := (hO.lists k hk).only ho0 (fun h => h) (fun _ _ h => h)
  have hown : w.ownsMap Yba.prog 3 heldElem bm N (mapD B N) := by
    obtain ⟨es, clock, hb, r⟩ := hO.own
    exact ⟨es, clock, ho0.at hb (fun h => h), r⟩
  have hlen : (bs k).length = sz k := by rw [hlk.len, vlist_length]
  have hs8 := hsz k hk
  have hbmS : ¬ Mine (B k) (bs k) bm := by
    rintro (e | hm)
    · exact map_ne hlk.root hown e.symm
    · obtain ⟨n, p, v, hn⟩ := hlk.at hm
      exact map_ne hn hown rfl
  have hle : ((bs k).eraseIdx p).length = ((vlist k (sz k)).eraseIdx p).length := by
    rw [List.length_eraseIdx_of_lt (by omega), List.length_eraseIdx_of_lt (by rw [vlist_length]; exact hp), hlen, vlist_length]
  refine (drop_of bm N k (B k) (mapD B N) _ ((bs k).eraseIdx p) ((vlist k (sz k)).eraseIdx p) (Mine (B k) (bs k)) (fun W => Gone W ((bs k)[p]?.getD 0) ((vlist k (sz k))[p]?.getD 0)) w (by omega) hown (mapD_at B k N hk _) hbmS (fun e => map_ne hlk.root hown e) (fun b hb e => by
      obtain ⟨n, p, v, hn⟩ := hlk.at (List.mem_of_mem_eraseIdx hb)
      exact map_ne hn hown e)
    (Remove_hit (B k) (bs k) (vlist k (sz k)) p w hlk (by omega) (by omega)) ?_).mono ?_
  · intro X Y hG hturn
    obtain ⟨es, clock, es', clock', hb, _⟩ := hturn
    have hno : Only (fun j => j = bm) X Y := (Only.refl _ X).grown (World.mapTurned.grown ⟨es, clock, es', clock', hb, by assumption⟩) (fun j e _ => by cases e; rfl)
    refine hno.at hG (fun e => ?_)
    rw [e] at hG
    have := hG.symm.trans hb
    cases this
  · rintro r w' ⟨hu, hl, hG, ho, hown'⟩
    have hot' : Only (Turned (B k) (bs k) bm) w w' := ho.mono (fun j _ h => h)
    have hot : Only (Turned (B k) (bs k) bm) w0 w' := (ho0.mono (fun _ _ h => h.elim)).trans hot'
    rw [hle] at hown'
    refine ⟨hu, hot', hG, _, _, final_of hO hV hk hsz hot (bl := (bs k).eraseIdx p) (by rw [List.length_eraseIdx_of_lt (by omega)]; omega) hown' (fun _ => hl) (hwk.only hot' (fun g hg => ?_))⟩
    obtain ⟨_, c, hc⟩ := hwk.block hg
    rintro ((e | hm) | e)
    · exact kinds_ne hc hlk.root (by decide) e
    · obtain ⟨n, p, v, hn⟩ := hlk.at hm
      exact kinds_ne hc hn (by decide) rfl
    · exact map_ne hc hown e


set_option maxHeartbeats 4000000 in
theorem removes_empty (b off N cap : Nat) (zs : List Int) (a1 a2 : Int) (kk : Nat) (w : World) (hN : N ≤ 256) (hN0 : 0 < N) (hb : b < w.heap.size)
    (hc : ∀ j, j < N → w.cell? ⟨b, off + j, none⟩ = some (.int .u8 (zs[j]?.getD 0))) (hz : ∀ j : Nat, 0 ≤ zs[j]?.getD 0 ∧ zs[j]?.getD 0 ≤ 255)
    (h1 : a1 % (N : Int) = (kk : Int)) (p1 : 0 ≤ a1) (h0 : szOf zs kk = 0) :
    Calls Yba.prog 3 #[.slice (some ⟨b, off, none⟩) N cap, .int .u64 a1, .int .u64 a2] w fun r w' => r = .returned (.bool true) ∧ Below w.heap.size w w' := by
  have hk : kk < N := by have := Int.emod_lt_of_pos a1 (show (0 : Int) < N by omega); omega
  have hbuild := build_some b off N cap zs w hN hN0 hb hc hz
  have hg1 : ((N : Int) == 0) = false := by simp; omega
  have hg2 : decide ((256 : Int) < N) = false := by simp; omega
  have hta := assert_int (-1)
  clear hc hz
  go_enter Yba.func3, Yba.ntmps3
  go_wp2_with fail
  refine hbuild.mono ?_
  rintro r w1 ⟨bm, bv, bp, B, bs, sv, rfl, hO, hV, hB1, hbm, hlow⟩
  clear hbuild
  have HO : Hid (Outer w1 w.heap.size bm bp N N (szOf zs) B bs sv) := hO
  have HV : Hid (w1.rowIs bv 30 N sv) := hV
  have hcj := hV.cell hk
  obtain ⟨sj, hsj⟩ : ∃ sj, sv kk = sj := ⟨_, rfl⟩
  have hshape := (hO.holds kk hk).shape
  rw [hsj] at hcj hshape
  obtain ⟨ja, jc, rfl⟩ := hshape
  rw [vlist_length, h0] at hcj hsj
  have Hsj : Hid (sv kk = .slice ja 0 jc) := hsj
  have H0 : Hid (szOf zs kk = 0) := h0
  clear hO hV hsj h0 hlow
  go_wp2_with fail
  refine (new_any w1).mono ?_
  rintro r w2 ⟨rfl, hL2, hw2⟩
  have ho2 : Only (fun _ => False) w1 w2 := by rw [hw2]; exact (Only.refl _ w1).alloc _
  have hpush := push_any w1.heap.size [] [] (-1) w2 hL2 (by simp)
  clear hw2 hL2
  go_wp2_with fail
  refine hpush.mono ?_
  rintro r w3 ⟨rfl, hL3, ho3⟩
  have ho13 : Only (fun _ => False) w1 w3 := ho2.andThen ho3 (fun i hi h => by
    rcases h with h | h
    · omega
    · simp at h)
  have hnode := hL3.node 0 (by simp)
  simp only [List.nil_append, List.getElem?_cons_zero, Option.getD_some] at hnode
  have hXk : w1.heap.size ≠ B kk := by have := (HO.out.lists kk hk).lt; omega
  have hdrop := drop_empty kk _ _ _ _ _ _ _ HO.out HV.out ho13 hk hN (fun i _ => szOf_le zs i) H0.out hL3 hXk hnode
  clear hpush ho2 ho3 hL3 hnode
  go_wp2_with fail
  refine hdrop.mono ?_
  rintro r w4 ⟨⟨u, rfl⟩, ho4, hn4, D, bsf, hF⟩
  have hck := check_any _ N bm bv bp kk N D B bsf sv _ _ _ w4 hN hk hF
  have hck4 : w4.cell? ⟨bv, kk, none⟩ = some (.slice ja 0 jc) := by rw [hF.vals kk hk, Hsj.out]
  have e3 := cell_of hn4 (i := 3) rfl
  simp only [List.getElem_toArray, List.getElem_cons_zero, List.getElem_cons_succ] at e3
  have hB4 : Below w.heap.size w w4 := hB1.trans (((ho13.mono (fun _ _ h => h.elim)).trans ho4).below hB1.size (fun j _ e => by rw [e]; exact hbm))
  clear hdrop hF ho4 ho13 hn4
  go_wp2_with fail
  refine hck.mono ?_
  rintro r w5 ⟨rfl, rfl⟩
  go_wp2
  go_ret
  exact ⟨rfl, hB4⟩

/-- 'want' behind j rounds. -/
def wantTo (L : List Int) (p j : Nat) : List Int := (L.take j).eraseIdx p
theorem wantTo_skip (L : List Int) (p : Nat) (hp : p < L.length) : wantTo L p (p + 1) = wantTo L p p := by
  unfold wantTo
  have hl : (L.take p).length = p := by simp; omega
  rw [List.take_succ_eq_append_getElem hp, List.eraseIdx_append_of_length_le (by omega), hl, Nat.sub_self]
  show L.take p ++ [] = _
  rw [List.append_nil, List.eraseIdx_of_length_le (by omega)]
theorem wantTo_step (L : List Int) (p j : Nat) (hj : j < L.length) (hne : j ≠ p) : wantTo L p (j + 1) = wantTo L p j ++ [L[j]?.getD 0] := by
  unfold wantTo
  rw [List.take_succ_eq_append_getElem hj, List.getElem?_eq_getElem hj]
  by_cases h : p < j
  · rw [List.eraseIdx_append_of_lt_length (by simp; omega)]
    rfl
  · rw [List.eraseIdx_append_of_length_le (by simp; omega), List.eraseIdx_of_length_le (by simp; omega)]
    rw [List.eraseIdx_of_length_le (by simp; omega)]
    rfl
theorem wantTo_all (L : List Int) (p : Nat) : wantTo L p L.length = L.eraseIdx p := by unfold wantTo; rw [List.take_length]
theorem wantTo_length (L : List Int) (p j : Nat) : (wantTo L p j).length ≤ j := by
  unfold wantTo
  exact Nat.le_trans (List.length_eraseIdx_le _ _) (by simp; omega)


set_option maxHeartbeats 4000000 in
theorem removes_hit (b off N cap : Nat) (zs : List Int) (a1 a2 : Int) (kk n pp : Nat) (w : World) (hN : N ≤ 256) (hN0 : 0 < N) (hb : b < w.heap.size)
    (hc : ∀ j, j < N → w.cell? ⟨b, off + j, none⟩ = some (.int .u8 (zs[j]?.getD 0))) (hz : ∀ j : Nat, 0 ≤ zs[j]?.getD 0 ∧ zs[j]?.getD 0 ≤ 255)
    (h1 : a1 % (N : Int) = (kk : Int)) (p1 : 0 ≤ a1) (p2 : 0 ≤ a2) (hn : szOf zs kk = n) (hn0 : 0 < n) (h2 : a2 % (n : Int) = (pp : Int)) :
    Calls Yba.prog 3 #[.slice (some ⟨b, off, none⟩) N cap, .int .u64 a1, .int .u64 a2] w fun r w' => r = .returned (.bool true) ∧ Below w.heap.size w w' := by
  have hk : kk < N := by have := Int.emod_lt_of_pos a1 (show (0 : Int) < N by omega); omega
  have hp : pp < n := by have := Int.emod_lt_of_pos a2 (show (0 : Int) < n by omega); omega
  have hn8 : n ≤ 8 := by rw [← hn]; exact szOf_le zs kk
  have hbuild := build_some b off N cap zs w hN hN0 hb hc hz
  have hg1 : ((N : Int) == 0) = false := by simp; omega
  have hg2 : decide ((256 : Int) < N) = false := by simp; omega
  have hg3 : ¬ ((n : Int) = 0) := by omega
  obtain ⟨i0, hi, hz0, hz1, hz2⟩ := info_parts info3
  clear hc hz
  go_enter Yba.func3, Yba.ntmps3
  go_wp2_with fail
  refine hbuild.mono ?_
  rintro r w1 ⟨bm, bv, bp, B, bs, sv, rfl, hO, hV, hB1, hbm, hlow⟩
  clear hbuild
  have HO : Hid (Outer w1 w.heap.size bm bp N N (szOf zs) B bs sv) := hO
  have HV : Hid (w1.rowIs bv 30 N sv) := hV
  have Hlow : Hid (∀ i, i < N → w.heap.size ≤ B i ∧ ∀ b ∈ bs i, w.heap.size ≤ b) := hlow
  have hcj := hV.cell hk
  have hpj : w1.cell? ⟨bp, kk, none⟩ = some (.pointer (some ⟨B kk, 0, none⟩)) := by have := hO.ptrs.cell hk; simpa [hk] using this
  have hLk := hO.lists kk hk
  have hlk : (bs kk).length = n := by rw [hLk.len, vlist_length, hn]
  rcases (hO.holds kk hk).cases with ⟨_, h⟩ | ⟨g, jc, cur, hsj, hg0, hgh, hgc, hgm, hcell⟩
  · exfalso
    have := congrArg List.length h
    rw [vlist_length] at this
    simp at this
    omega
  rw [vlist_length, hn] at hsj hgc hcell
  rw [hsj] at hcj
  have Hsj : Hid (sv kk = .slice (some ⟨g, 0, none⟩) n jc) := hsj
  have Hn : Hid (szOf zs kk = n) := hn
  have hgl : g < w1.heap.size := (Array.getElem?_eq_some_iff.1 hgh).1
  have hbvl := hV.lt
  have hat := at_any (B kk) (bs kk) _ pp w1 hLk (by omega) (by omega)
  rw [ptrAt_lt (by omega)] at hat
  obtain ⟨c, hcc⟩ : ∃ c, (bs kk)[pp]?.getD 0 = c := ⟨_, rfl⟩
  rw [hcc] at hat
  have Hcc : Hid ((bs kk)[pp]?.getD 0 = c) := hcc
  have hcp := hcell pp hp
  have Hcell : Hid (∀ j, j < n → w1.cell? ⟨g, j, none⟩ = some (.int .i64 ((vlist kk n)[j]?.getD 0))) := hcell
  clear hcell
  obtain ⟨vp, hvp⟩ : ∃ vp, (vlist kk n)[pp]?.getD 0 = vp := ⟨_, rfl⟩
  rw [hvp] at hcp
  have Hvp : Hid ((vlist kk n)[pp]?.getD 0 = vp) := hvp
  have hkN : (kk : Int) < (N : Int) := by omega
  clear hO hV hsj hlow hLk hlk hcc hvp hgh hn
  go_wp2_with fail
  refine hat.mono ?_
  rintro r w2 ⟨rfl, rfl⟩
  clear hat
  go_wp2
  go_loopw [12, 15] (fun wv j wr => ∃ q : Nat, q ≤ n ∧ j = .int .i64 q ∧ Holds wr w2.heap.size wv (wantTo (vlist kk n) pp q) ∧ Below w2.heap.size w2 wr) (fun _ j _ => n - (intOf j).toNat)
  case atStart => exact ⟨0, Nat.zero_le _, rfl, World.ownsRow_nil _ _ _ _, Below.refl _ _⟩
  case round =>
    obtain ⟨q, hq, rfl, hH, hBq⟩ := hrel
    have hcv : wr.cell? ⟨bv, kk, none⟩ = some (.slice (some ⟨g, 0, none⟩) n jc) := (hBq.cell (p := ⟨bv, kk, none⟩) hbvl).trans hcj
    by_cases hqn : q < n
    · have hcx : wr.cell? ⟨g, q, none⟩ = some (.int .i64 ((vlist kk n)[q]?.getD 0)) := (hBq.cell (p := ⟨g, q, none⟩) hgl).trans (Hcell.out q hqn)
      obtain ⟨v, hv⟩ : ∃ v, (vlist kk n)[q]?.getD 0 = v := ⟨_, rfl⟩
      rw [hv] at hcx
      have Hv : Hid ((vlist kk n)[q]?.getD 0 = v) := hv
      clear hv
      have hwl := wantTo_length (vlist kk n) pp q
      have hmx : (1024 : Nat) ≤ maxLen := by decide
      have HH : Hid (Holds wr w2.heap.size _ (wantTo (vlist kk n) pp q)) := hH
      by_cases hqp : q = pp
      · subst hqp
        have hbe : ((q : Int) != (q : Int)) = false := by simp
        have hst : wantTo (vlist kk n) q (q + 1) = wantTo (vlist kk n) q q := wantTo_skip _ _ (by rw [vlist_length]; omega)
        have Hst : Hid (wantTo (vlist kk n) q (q + 1) = wantTo (vlist kk n) q q) := hst
        clear hst hH
        go_wp2
        exact ⟨⟨q + 1, by omega, by simp, by rw [Hst.out]; exact HH.out, hBq⟩, by simp [intOf]; omega⟩
      · have hbe : ((q : Int) != (pp : Int)) = true := by simp; omega
        have hst : wantTo (vlist kk n) pp (q + 1) = wantTo (vlist kk n) pp q ++ [v] := by rw [wantTo_step _ _ _ (by rw [vlist_length]; omega) hqp, Hv.out]
        have Hst : Hid (wantTo (vlist kk n) pp (q + 1) = wantTo (vlist kk n) pp q ++ [v]) := hst
        obtain ⟨L, hL⟩ : ∃ L, wantTo (vlist kk n) pp q = L := ⟨_, rfl⟩
        rw [hL] at hH hwl
        have HL : Hid (wantTo (vlist kk n) pp q = L) := hL
        have hHs := fun o : Obj => World.ownsRow.alloc hH o
        clear hst hL
        have hsz := hBq.size
        go_wp2_with (at_builtin; go_must (refine wpList_append_own _ rfl _ _ 30 rfl w2.heap.size 3 i0 (.int .i64 0) 1 8 Yba.underlying30 hi hz0 hz1 hz2 rfl (by decide) u12 L.length (L.map (Value.int .i64)) rfl (hHs _) ⟨wr.heap.size, 0, none⟩ 1 1 [.int .i64 v] rfl rfl (cell_one_new _ _ _) (by simp [Value.oneCell']) (by omega) (by omega) (by simp; omega) ?_); intro v' w3 hown' hgrow _)
        have hH' : Holds w3 w2.heap.size v' (wantTo (vlist kk n) pp (q + 1)) := by
          rw [Hst.out, HL.out]
          have e1 : (L ++ [v]).length = L.length + 1 := by simp
          have e2 : (L ++ [v]).map (Value.int .i64) = L.map (Value.int .i64) ++ [.int .i64 v] := by simp
          rw [Holds, e1, e2]
          exact hown'
        exact ⟨⟨q + 1, by omega, by simp, hH', (hBq.alloc hsz _).grown hgrow (by simp; omega) (fun j e => (hH.block e).1)⟩, by simp [intOf]; omega⟩
    · obtain rfl : q = n := by omega
      have hwa : wantTo (vlist kk q) pp q = (vlist kk q).eraseIdx pp := by
        have := wantTo_all (vlist kk q) pp
        rwa [vlist_length] at this
      rw [hwa] at hH
      have hO1 : Only (fun _ => False) w2 wr := Only.of_below hBq _
      have hH1 : Holds wr w.heap.size u12 ((vlist kk (szOf zs kk)).eraseIdx pp) := by rw [Hn.out]; exact hH.base hB1.size
      have hdrop := drop_hit kk pp u12 HO.out HV.out hO1 hk hN (fun i _ => szOf_le zs i) (by rw [Hn.out]; exact hp) hH1
      rw [Hcc.out, Hn.out, Hvp.out] at hdrop
      have hta := assert_int vp
      clear hH hH1 hwa
      go_wp2_with fail
      refine hdrop.mono ?_
      rintro r w4 ⟨⟨u, rfl⟩, ho4, hG, D, bsf, hF⟩
      have hck := check_any _ N bm bv bp kk N D B bsf sv _ _ _ w4 hN hk hF
      have hck4 : w4.cell? ⟨bv, kk, none⟩ = some (.slice (some ⟨g, 0, none⟩) q jc) := by rw [hF.vals kk hk, Hsj.out]
      have e3 := cell_of hG (i := 3) rfl
      simp only [List.getElem_toArray, List.getElem_cons_zero, List.getElem_cons_succ] at e3
      have hnx := next_gone c vp w4 hG
      have hpv := prev_gone c vp w4 hG
      have hB4 : Below w.heap.size w w4 := hB1.trans (((hO1.mono (fun _ _ h => h.elim)).trans ho4).below hB1.size (fun j _ h => by
        rcases h with (e | hm) | e
        · rw [e]; exact (Hlow.out kk hk).1
        · exact (Hlow.out kk hk).2 j hm
        · rw [e]; exact hbm))
      have hbn : ((vp : Int) != vp) = false := by simp
      have hdq : decide ((0 : Int) < (q : Int)) = true := by simp; omega
      clear hdrop hF ho4 hO1 hG hBq hcv hcj hcp hpj
      go_wp2_with fail
      refine hnx.mono ?_
      rintro r w5 ⟨rfl, rfl⟩
      clear hnx
      go_wp2_with fail
      refine hpv.mono ?_
      rintro r w6 ⟨rfl, rfl⟩
      clear hpv
      go_wp2_with fail
      refine hck.mono ?_
      rintro r w7 ⟨rfl, rfl⟩
      go_wp2
      go_ret
      exact ⟨rfl, hB4⟩

set_option maxHeartbeats 1000000 in
theorem removes_zero (a : Option Addr) (cap : Nat) (a1 a2 : Int) (w : World) :
    Calls Yba.prog 3 #[.slice a 0 cap, .int .u64 a1, .int .u64 a2] w fun r w' => r = .returned (.bool true) ∧ Below w.heap.size w w' := by
  go_enter Yba.func3, Yba.ntmps3
  go_wp2
  go_ret
  exact ⟨rfl, Below.refl _ _⟩
set_option maxHeartbeats 1000000 in
theorem removes_long (a : Option Addr) (N cap : Nat) (a1 a2 : Int) (w : World) (h : 256 < N) (hm : N ≤ maxLen) :
    Calls Yba.prog 3 #[.slice a N cap, .int .u64 a1, .int .u64 a2] w fun r w' => r = .returned (.bool true) ∧ Below w.heap.size w w' := by
  unfold maxLen at hm
  have hg1 : ((N : Int) == 0) = false := by simp; omega
  have hg2 : decide ((256 : Int) < N) = true := by simp; omega
  go_enter Yba.func3, Yba.ntmps3
  go_wp2
  go_ret
  exact ⟨rfl, Below.refl _ _⟩

/-- At every slice that is not empty and not too long. -/
theorem removes_any (b off N cap : Nat) (zs : List Int) (a1 a2 : Int) (w : World) (hN : N ≤ 256) (hN0 : 0 < N) (hb : b < w.heap.size)
    (hc : ∀ j, j < N → w.cell? ⟨b, off + j, none⟩ = some (.int .u8 (zs[j]?.getD 0))) (hz : ∀ j : Nat, 0 ≤ zs[j]?.getD 0 ∧ zs[j]?.getD 0 ≤ 255) (p1 : 0 ≤ a1) (p2 : 0 ≤ a2) :
    Calls Yba.prog 3 #[.slice (some ⟨b, off, none⟩) N cap, .int .u64 a1, .int .u64 a2] w fun r w' => r = .returned (.bool true) ∧ Below w.heap.size w w' := by
  obtain ⟨kk, h1⟩ := Int.eq_ofNat_of_zero_le (Int.emod_nonneg a1 (show (N : Int) ≠ 0 by omega))
  by_cases e : szOf zs kk = 0
  · exact removes_empty b off N cap zs a1 a2 kk w hN hN0 hb hc hz h1 p1 e
  · obtain ⟨pp, h3⟩ := Int.eq_ofNat_of_zero_le (Int.emod_nonneg a2 (show ((szOf zs kk : Nat) : Int) ≠ 0 by omega))
    exact removes_hit b off N cap zs a1 a2 kk _ pp w hN hN0 hb hc hz h1 p1 p2 rfl (by omega) h3
end Go.Proofs.Ybulkcktu
