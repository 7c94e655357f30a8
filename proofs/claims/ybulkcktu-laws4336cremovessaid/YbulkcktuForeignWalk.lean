import Derived.Test.YbulkcktuBuild
import Derived.Test.YbulkcktuFinal
import Derived.Deep.QuietTactic
import Derived.BigQuiet
import Derived.Laws.Bits64
namespace Go.Proofs.Ybulkcktu
open Go Go.RowKit Go.Maps

theorem wrapu (s : Nat) (h : s ≤ 1000) : IntKind.u64.wrap (s : Int) = (s : Int) := by rw [IntKind.wrap_u64]; omega
theorem wrapi (s : Nat) (h : s ≤ 1000) : IntKind.i64.wrap (s : Int) = (s : Int) := by rw [IntKind.wrap_i64]; omega

theorem szOf_le (zs : List Int) (i : Nat) : szOf zs i ≤ 8 := by unfold szOf; omega

/-- A drop of an element that is not of list k, out of what was built. -/
theorem drop_foreign {n₀ bm bv bp N : Nat} {sz B : Nat → Nat} {bs : Nat → List Nat} {sv : Nat → Value} {w0 w : World} (k Bx c n p : Nat) (v : Int) (bx : List Nat) (vx : List Int) (hO : Outer w0 n₀ bm bp N N sz B bs sv) (hV : w0.rowIs bv 30 N sv) (ho0 : Only (fun _ => False) w0 w) (hk : k < N) (hN : N ≤ 256) (hsz : ∀ i, i < N → sz i ≤ 8)
    (hx : IsL w Bx bx vx) (hne : Bx ≠ B k) (hc : LNode w c n p Bx v) :
    Calls Yba.prog 9 #[.map (some bm), .int .i64 k, .pointer (some ⟨c, 0, none⟩)] w fun r w' => (∃ u, r = .returned u) ∧ Only (fun j => j = bm) w w' ∧ ∃ D bsf, Final w' n₀ N bm bv bp k N D B bsf sv (fun i => vlist i (sz i)) (sv k) (vlist k (sz k)) := by
  have hlk : IsL w (B k) (bs k) (vlist k (sz k)) := (hO.lists k hk).only ho0 (fun h => h) (fun _ _ h => h)
  have hown : w.ownsMap Yba.prog 3 heldElem bm N (mapD B N) := by
    obtain ⟨es, clock, hb, r⟩ := hO.own
    exact ⟨es, clock, ho0.at hb (fun h => h), r⟩
  have hlen : (bs k).length = (vlist k (sz k)).length := hlk.len
  refine (drop_of bm N k (B k) (mapD B N) c (bs k) (vlist k (sz k)) (fun _ => False) (fun _ => True) w (by omega) hown (mapD_at B k N hk _) (fun h => h) (fun e => map_ne hlk.root hown e) (fun b hb e => by
      obtain ⟨n, p, v, hn⟩ := hlk.at hb
      exact map_ne hn hown e)
    ((Remove_foreign (B k) Bx c n p v (bs k) bx (vlist k (sz k)) vx w hlk hx hne hc).mono ?_) (fun _ _ _ _ => trivial)).mono ?_
  · rintro r w' ⟨hu, rfl⟩
    exact ⟨hu, hlk, trivial, Only.refl _ _⟩
  · rintro r w' ⟨hu, hl, _, ho, hown'⟩
    have ho' : Only (fun j => j = bm) w w' := ho.mono (fun j _ h => h.elim (fun h => h.elim) id)
    have hot : Only (Turned (B k) (bs k) bm) w0 w' := (ho0.mono (fun _ _ h => h.elim)).trans (ho'.mono (fun _ _ h => .inr h))
    rw [hlen] at hown'
    refine ⟨hu, ho', _, _, final_of hO hV hk hsz hot (bl := bs k) (by rw [hlen, vlist_length]; have := hsz k hk; omega) hown' (fun _ => hl) (hO.hold_kept hk hk hot)⟩

set_option maxHeartbeats 4000000 in
theorem foreign_fresh (b off N cap : Nat) (zs : List Int) (a1 a2 a3 : Int) (kk jj : Nat) (w : World) (hN : N ≤ 256) (hN0 : 0 < N) (hb : b < w.heap.size)
    (hc : ∀ j, j < N → w.cell? ⟨b, off + j, none⟩ = some (.int .u8 (zs[j]?.getD 0))) (hz : ∀ j : Nat, 0 ≤ zs[j]?.getD 0 ∧ zs[j]?.getD 0 ≤ 255)
    (h1 : a1 % (N : Int) = (kk : Int)) (h2 : a2 % (N : Int) = (jj : Int)) (p1 : 0 ≤ a1) (p2 : 0 ≤ a2) (hcase : jj = kk ∨ szOf zs jj = 0) :
    Calls Yba.prog 4 #[.slice (some ⟨b, off, none⟩) N cap, .int .u64 a1, .int .u64 a2, .int .u64 a3] w fun r w' => r = .returned (.bool true) ∧ Below w.heap.size w w' := by
  have hk : kk < N := by have := Int.emod_lt_of_pos a1 (show (0 : Int) < N by omega); omega
  have hj : jj < N := by have := Int.emod_lt_of_pos a2 (show (0 : Int) < N by omega); omega
  have hbuild := build_some b off N cap zs w hN hN0 hb hc hz
  have hg1 : ((N : Int) == 0) = false := by simp; omega
  have hg2 : decide ((256 : Int) < N) = false := by simp; omega
  clear hc hz
  go_enter Yba.func4, Yba.ntmps4
  go_wp2_with fail
  refine hbuild.mono ?_
  rintro r w1 ⟨bm, bv, bp, B, bs, sv, rfl, hO, hV, hB1, hbm, hlow⟩
  clear hbuild
  have HO : Hid (Outer w1 w.heap.size bm bp N N (szOf zs) B bs sv) := hO
  have HV : Hid (w1.rowIs bv 30 N sv) := hV
  have hcj := hV.cell hj
  obtain ⟨sj, hsj⟩ : ∃ sj, sv jj = sj := ⟨_, rfl⟩
  have hshape := (hO.holds jj hj).shape
  rw [hsj] at hcj hshape
  obtain ⟨ja, jc, rfl⟩ := hshape
  rw [vlist_length] at hcj hsj
  obtain ⟨sl, hsl⟩ : ∃ sl, szOf zs jj = sl := ⟨_, rfl⟩
  rw [hsl] at hcj hsj
  have hor : ((jj : Int) == (kk : Int)) = true ∨ (((jj : Int) == (kk : Int)) = false ∧ sl = 0) := by
    by_cases e : jj = kk
    · left; simp [e]
    · right; exact ⟨by simp; omega, by rcases hcase with h | h; exact absurd h e; omega⟩
  have Hlow : Hid (∀ i, i < N → w.heap.size ≤ B i ∧ ∀ b ∈ bs i, w.heap.size ≤ b) := hlow
  clear hO hV hsj hsl hcase hlow
  rcases hor with hbe | ⟨hbe, rfl⟩
  all_goals
    go_wp2_with fail
    refine (new_any w1).mono ?_
    rintro r w2 ⟨rfl, hL2, hw2⟩
    have ho2 : Only (fun _ => False) w1 w2 := by rw [hw2]; exact (Only.refl _ w1).alloc _
    have hpush := push_any w1.heap.size [] [] (-1) w2 hL2 (by simp)
    clear hw2 hL2
    go_wp2_with fail
    refine hpush.mono ?_
    rintro r w3 ⟨rfl, hL3, ho3⟩
    have ho13 : Only (fun _ => False) w1 w3 := ho2.andThen ho3 (fun i hi h => by
      rcases h with h | h
      · omega
      · simp at h)
    obtain ⟨nx, px, vx, hnode⟩ := hL3.at (b := w2.heap.size) (by simp)
    have hXk : w1.heap.size ≠ B kk := by have := (HO.out.lists kk hk).lt; omega
    have hdrop := drop_foreign kk _ _ _ _ _ _ _ HO.out HV.out ho13 hk hN (fun i _ => szOf_le zs i) hL3 hXk hnode
    clear hpush ho2 ho3 hL3 hnode
    go_wp2_with fail
    refine hdrop.mono ?_
    rintro r w4 ⟨⟨u, rfl⟩, ho4, D, bsf, hF⟩
    have hck := check_any _ N bm bv bp kk N D B bsf sv _ _ _ w4 hN hk hF
    have hck4 := hF.vals kk hk
    have hB4 : Below w.heap.size w w4 := hB1.trans (((ho13.mono (fun _ _ h => h.elim)).trans ho4).below hB1.size (fun j _ e => by rw [e]; exact hbm))
    clear hdrop hF ho4 ho13
    go_wp2_with fail
    refine hck.mono ?_
    rintro r w5 ⟨rfl, rfl⟩
    go_wp2
    go_ret
    exact ⟨rfl, hB4⟩

set_option maxHeartbeats 4000000 in
theorem foreign_other (b off N cap : Nat) (zs : List Int) (a1 a2 a3 : Int) (kk jj sl pp : Nat) (w : World) (hN : N ≤ 256) (hN0 : 0 < N) (hb : b < w.heap.size)
    (hc : ∀ j, j < N → w.cell? ⟨b, off + j, none⟩ = some (.int .u8 (zs[j]?.getD 0))) (hz : ∀ j : Nat, 0 ≤ zs[j]?.getD 0 ∧ zs[j]?.getD 0 ≤ 255)
    (h1 : a1 % (N : Int) = (kk : Int)) (h2 : a2 % (N : Int) = (jj : Int)) (p1 : 0 ≤ a1) (p2 : 0 ≤ a2) (p3 : 0 ≤ a3) (hne : jj ≠ kk) (hsl : szOf zs jj = sl) (hs0 : 0 < sl) (h3 : a3 % (sl : Int) = (pp : Int)) :
    Calls Yba.prog 4 #[.slice (some ⟨b, off, none⟩) N cap, .int .u64 a1, .int .u64 a2, .int .u64 a3] w fun r w' => r = .returned (.bool true) ∧ Below w.heap.size w w' := by
  have hk : kk < N := by have := Int.emod_lt_of_pos a1 (show (0 : Int) < N by omega); omega
  have hj : jj < N := by have := Int.emod_lt_of_pos a2 (show (0 : Int) < N by omega); omega
  have hp : pp < sl := by have := Int.emod_lt_of_pos a3 (show (0 : Int) < sl by omega); omega
  have hs8 : sl ≤ 8 := by rw [← hsl]; exact szOf_le zs jj
  have hbuild := build_some b off N cap zs w hN hN0 hb hc hz
  have hg1 : ((N : Int) == 0) = false := by simp; omega
  have hg2 : decide ((256 : Int) < N) = false := by simp; omega
  clear hc hz
  go_enter Yba.func4, Yba.ntmps4
  go_wp2_with fail
  refine hbuild.mono ?_
  rintro r w1 ⟨bm, bv, bp, B, bs, sv, rfl, hO, hV, hB1, hbm, hlow⟩
  clear hbuild
  have HO : Hid (Outer w1 w.heap.size bm bp N N (szOf zs) B bs sv) := hO
  have HV : Hid (w1.rowIs bv 30 N sv) := hV
  have hcj := hV.cell hj
  have hpj : w1.cell? ⟨bp, jj, none⟩ = some (.pointer (some ⟨B jj, 0, none⟩)) := by have := hO.ptrs.cell hj; simpa [hj] using this
  have hLj := hO.lists jj hj
  have hlj : (bs jj).length = sl := by rw [hLj.len, vlist_length, hsl]
  obtain ⟨sj, hsj⟩ : ∃ sj, sv jj = sj := ⟨_, rfl⟩
  have hshape := (hO.holds jj hj).shape
  rw [hsj] at hcj hshape
  obtain ⟨ja, jc, rfl⟩ := hshape
  rw [vlist_length, hsl] at hcj
  have hbe : ((jj : Int) == (kk : Int)) = false := by simp; omega
  have hse : ((sl : Int) == 0) = false := by simp; omega
  have hsn : ¬ sl = 0 := by omega
  have hw1 := wrapu sl (by omega)
  have hw2 := wrapi pp (by omega)
  have hw3 := wrapu pp (by omega)
  have htm : a3.tmod (sl : Int) = (pp : Int) := by rw [Int.tmod_eq_emod_of_nonneg p3]; exact h3
  have hat := fun nq => at_any (B jj) (bs jj) _ pp (w1.drewN nq) (show IsL (w1.drewN nq) _ _ _ from ⟨hLj.len, hLj.root, hLj.node, hLj.nodup⟩) (by omega) (by omega)
  have hpt := ptrAt_lt (bs := bs jj) (k := pp) (by omega)
  obtain ⟨nx, px, vx, hnode⟩ := hLj.at (b := (bs jj)[pp]?.getD 0) (getD_mem (by omega))
  simp only [hpt] at hat
  obtain ⟨c, hcc⟩ : ∃ c, (bs jj)[pp]?.getD 0 = c := ⟨_, rfl⟩
  simp only [hcc] at hat
  rw [hcc] at hnode
  have hjk : B jj ≠ B kk := hO.inj jj kk hj hk hne
  have hdrop := fun nq => drop_foreign (w := w1.drewN nq) kk _ _ _ _ _ _ _ HO.out HV.out ⟨rfl, rfl, rfl, Nat.le_refl _, fun _ _ _ => rfl⟩ hk hN (fun i _ => szOf_le zs i) (show IsL (w1.drewN nq) _ _ _ from ⟨hLj.len, hLj.root, hLj.node, hLj.nodup⟩) hjk (show LNode (w1.drewN nq) _ _ _ _ _ from hnode)
  have Hlow : Hid (∀ i, i < N → w.heap.size ≤ B i ∧ ∀ b ∈ bs i, w.heap.size ≤ b) := hlow
  have hjN : (jj : Int) < (N : Int) := by omega
  clear hO hV hsj hlow hLj hlj hpt hnode hcc
  go_wp2
  go_quiet ((go_at_call 8; exact Calls.quiet_of_same (hat _)))
  go_wp2_with fail
  refine (hdrop _).mono ?_
  rintro r w4 ⟨⟨u, rfl⟩, ho4, D, bsf, hF⟩
  have hck := check_any _ N bm bv bp kk N D B bsf sv _ _ _ w4 hN hk hF
  have hck4 := hF.vals kk hk
  have hB4 : Below w.heap.size w w4 := hB1.trans ((show Only (fun j => j = bm) w1 w4 from ⟨ho4.os, ho4.tape, ho4.output, ho4.size, ho4.block⟩).below hB1.size (fun j _ e => by rw [e]; exact hbm))
  clear hdrop hF ho4
  go_wp2_with fail
  refine hck.mono ?_
  rintro r w5 ⟨rfl, rfl⟩
  go_wp2
  go_ret
  exact ⟨rfl, hB4⟩

set_option maxHeartbeats 1000000 in
theorem foreign_zero (a : Option Addr) (cap : Nat) (a1 a2 a3 : Int) (w : World) :
    Calls Yba.prog 4 #[.slice a 0 cap, .int .u64 a1, .int .u64 a2, .int .u64 a3] w fun r w' => r = .returned (.bool true) ∧ Below w.heap.size w w' := by
  go_enter Yba.func4, Yba.ntmps4
  go_wp2
  go_ret
  exact ⟨rfl, Below.refl _ _⟩
set_option maxHeartbeats 1000000 in
theorem foreign_long (a : Option Addr) (N cap : Nat) (a1 a2 a3 : Int) (w : World) (h : 256 < N) (hm : N ≤ maxLen) :
    Calls Yba.prog 4 #[.slice a N cap, .int .u64 a1, .int .u64 a2, .int .u64 a3] w fun r w' => r = .returned (.bool true) ∧ Below w.heap.size w w' := by
  unfold maxLen at hm
  have hg1 : ((N : Int) == 0) = false := by simp; omega
  have hg2 : decide ((256 : Int) < N) = true := by simp; omega
  go_enter Yba.func4, Yba.ntmps4
  go_wp2
  go_ret
  exact ⟨rfl, Below.refl _ _⟩

/-- At every slice that is not empty and not too long. -/
theorem foreign_any (b off N cap : Nat) (zs : List Int) (a1 a2 a3 : Int) (w : World) (hN : N ≤ 256) (hN0 : 0 < N) (hb : b < w.heap.size)
    (hc : ∀ j, j < N → w.cell? ⟨b, off + j, none⟩ = some (.int .u8 (zs[j]?.getD 0))) (hz : ∀ j : Nat, 0 ≤ zs[j]?.getD 0 ∧ zs[j]?.getD 0 ≤ 255) (p1 : 0 ≤ a1) (p2 : 0 ≤ a2) (p3 : 0 ≤ a3) :
    Calls Yba.prog 4 #[.slice (some ⟨b, off, none⟩) N cap, .int .u64 a1, .int .u64 a2, .int .u64 a3] w fun r w' => r = .returned (.bool true) ∧ Below w.heap.size w w' := by
  obtain ⟨kk, h1⟩ := Int.eq_ofNat_of_zero_le (Int.emod_nonneg a1 (show (N : Int) ≠ 0 by omega))
  obtain ⟨jj, h2⟩ := Int.eq_ofNat_of_zero_le (Int.emod_nonneg a2 (show (N : Int) ≠ 0 by omega))
  by_cases e : jj = kk ∨ szOf zs jj = 0
  · exact foreign_fresh b off N cap zs a1 a2 a3 kk jj w hN hN0 hb hc hz h1 h2 p1 p2 e
  · obtain ⟨pp, h3⟩ := Int.eq_ofNat_of_zero_le (Int.emod_nonneg a3 (show ((szOf zs jj : Nat) : Int) ≠ 0 by omega))
    exact foreign_other b off N cap zs a1 a2 a3 kk jj _ pp w hN hN0 hb hc hz h1 h2 p1 p2 p3 (fun h => e (.inl h)) rfl (by omega) h3
end Go.Proofs.Ybulkcktu
