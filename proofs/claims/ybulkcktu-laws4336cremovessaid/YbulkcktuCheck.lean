import Derived.Test.YbulkcktuMatch
namespace Go.Proofs.Ybulkcktu
open Go Go.RowKit Go.Maps

/-- WHAT 'zzs4336ccheck' IS HANDED where it is to answer true: N lists, list k with the values wl (and gone from the map where wl is empty), the others with what 'vals' says. -/
structure Final (w : World) (n₀ N bm bv bp k n : Nat) (D : DataW Value) (B : Nat → Nat) (bsf : Nat → List Nat) (sv : Nat → Value) (vf : Nat → List Int) (wk : Value) (wl : List Int) : Prop where
  own : w.ownsMap Yba.prog 3 heldElem bm n D
  vals : ∀ i, i < N → w.cell? ⟨bv, i, none⟩ = some (sv i)
  ptrs : ∀ i, i < N → w.cell? ⟨bp, i, none⟩ = some (.pointer (some ⟨B i, 0, none⟩))
  holds : ∀ i, i < N → i ≠ k → Holds w n₀ (sv i) (vf i)
  lists : ∀ i, i < N → i ≠ k → IsL w (B i) (bsf i) (vf i)
  listk : wl ≠ [] → IsL w (B k) (bsf k) wl
  wantk : Holds w n₀ wk wl
  has : ∀ i, i < N → Maps.has D (keyI i) = if i = k ∧ wl = [] then false else true
  at_ : ∀ i, i < N → atI D i = .held (.pointer (if i = k ∧ wl = [] then none else some ⟨B i, 0, none⟩))
  size : Maps.size D = if wl = [] then N - 1 else N
  small : ∀ i, (bsf i).length ≤ 1000

theorem Holds.shape {w : World} {n₀ : Nat} {v : Value} {vs : List Int} (h : Holds w n₀ v vs) : ∃ a cap, v = .slice a vs.length cap := by
  rcases h.cases with ⟨rfl, rfl⟩ | ⟨g, cap, cur, rfl, _⟩
  · exact ⟨none, 0, rfl⟩
  · exact ⟨_, cap, rfl⟩

/-- How many lists were counted ahead of place i. -/
def cnt (k : Nat) (wl : List Int) (i : Nat) : Nat := if wl = [] ∧ k < i then i - 1 else i

set_option maxHeartbeats 2000000 in
theorem check_any (n₀ N bm bv bp k n : Nat) (D : DataW Value) (B : Nat → Nat) (bsf : Nat → List Nat) (sv : Nat → Value) (vf : Nat → List Int) (wk : Value) (wl : List Int) (w : World) (hN : N ≤ 256) (hk : k < N) (hF : Final w n₀ N bm bv bp k n D B bsf sv vf wk wl) :
    Calls Yba.prog 12 #[.map (some bm), .slice (some ⟨bv, 0, none⟩) N N, .slice (some ⟨bp, 0, none⟩) N N, .int .i64 k, wk] w fun r w' => r = .returned (.bool true) ∧ w' = w := by
  obtain ⟨wa, wcap, rfl⟩ := hF.wantk.shape
  have hown := hF.own
  have hsz := hF.size
  have hlq := fun b => list_neq_same w b
  have HF : Hid (Final w n₀ N bm bv bp k n D B bsf sv vf (.slice wa wl.length wcap) wl) := hF
  clear hF
  have Hsz : Hid (Maps.size D = if wl = [] then N - 1 else N) := hsz
  clear hsz
  go_enter Yba.func12, Yba.ntmps12
  go_wp2
  go_loop [11, 12] (fun c i => ∃ q : Nat, q ≤ N ∧ i = .int .i64 q ∧ c = .int .i64 (cnt k wl q)) (fun _ i => N - (intOf i).toNat)
  case atStart => exact ⟨0, Nat.zero_le _, rfl, by simp [cnt]⟩
  case round =>
    obtain ⟨q, hq, rfl, rfl⟩ := hrel
    by_cases hlt : q < N
    · have hwf : (Lit.int .i64 (q : Int)).wf = true := WalkArith.wf_i64 (by omega)
      have hv := HF.out.vals q hlt
      have hp := HF.out.ptrs q hlt
      have hh := HF.out.has q hlt
      have ha := HF.out.at_ q hlt
      have hcl : cnt k wl q ≤ q := by unfold cnt; split <;> omega
      obtain ⟨c, hc⟩ : ∃ c, cnt k wl q = c := ⟨_, rfl⟩
      rw [hc] at hcl ⊢
      obtain ⟨s0, hs0⟩ : ∃ s0, sv q = s0 := ⟨_, rfl⟩
      rw [hs0] at hv
      by_cases hqk : q = k
      · subst hqk
        have hbe : ((q : Int) == (q : Int)) = true := by simp
        by_cases hw : wl = []
        · have hc1 : cnt q wl (q + 1) = c := by rw [← hc]; simp [cnt, hw]
          have Hc : Hid (cnt q wl (q + 1) = c) := hc1
          rw [if_pos ⟨rfl, hw⟩] at hh ha
          have hwl : (wl.length : Int) = 0 := by rw [hw]; rfl
          clear hc hc1 hp hw hs0
          go_wp2_with (at_lookup; go_must (refine wpList_lookup_held_ok rfl _ _ 24 rfl 3 31 law3 Yba.underlying24 (zero31 _) bm n D rfl hown _ (keyI q) rfl (keyOf_int_mk Yba.underlying3 hwf) _ _ ha hh ?_))
          exact ⟨⟨q + 1, by omega, by simp, by rw [Hc.out]⟩, by simp [intOf]; omega⟩
        · have hc1 : cnt q wl (q + 1) = c + 1 := by rw [← hc]; simp [cnt, hw]
          have Hc : Hid (cnt q wl (q + 1) = c + 1) := hc1
          rw [if_neg (fun h => hw h.2)] at hh ha
          have hwl : ¬ ((wl.length : Int) = 0) := by intro h; exact hw (List.length_eq_zero_iff.1 (by omega))
          have hm := matches_any (B q) (bsf q) wl n₀ _ w (HF.out.listk hw) (HF.out.small q) HF.out.wantk
          clear hc hc1 hw hs0
          go_wp2_with (at_lookup; go_must (refine wpList_lookup_held_ok rfl _ _ 24 rfl 3 31 law3 Yba.underlying24 (zero31 _) bm n D rfl hown _ (keyI q) rfl (keyOf_int_mk Yba.underlying3 hwf) _ _ ha hh ?_))
          refine hm.mono ?_
          rintro r w1 ⟨rfl, rfl⟩
          clear hm
          go_wp2
          exact ⟨⟨q + 1, by omega, by simp, by rw [Hc.out]; simp⟩, by simp [intOf]; omega⟩
      · have hbe : ((q : Int) == (k : Int)) = false := by simp; omega
        have hc1 : cnt k wl (q + 1) = c + 1 := by
          rw [← hc]; unfold cnt
          by_cases hw : wl = []
          · by_cases hkq : k < q
            · rw [if_pos ⟨hw, by omega⟩, if_pos ⟨hw, hkq⟩]; omega
            · rw [if_neg (by omega), if_neg (by omega)]
          · rw [if_neg (fun h => hw h.1), if_neg (fun h => hw h.1)]
        have Hc : Hid (cnt k wl (q + 1) = c + 1) := hc1
        rw [if_neg (fun h => hqk h.1)] at hh ha
        have hm := matches_any (B q) (bsf q) (vf q) n₀ _ w (HF.out.lists q hlt hqk) (HF.out.small q) (HF.out.holds q hlt hqk)
        rw [hs0] at hm
        clear hc hc1 hs0
        go_wp2_with (at_lookup; go_must (refine wpList_lookup_held_ok rfl _ _ 24 rfl 3 31 law3 Yba.underlying24 (zero31 _) bm n D rfl hown _ (keyI q) rfl (keyOf_int_mk Yba.underlying3 hwf) _ _ ha hh ?_))
        refine hm.mono ?_
        rintro r w1 ⟨rfl, rfl⟩
        clear hm
        go_wp2
        exact ⟨⟨q + 1, by omega, by simp, by rw [Hc.out]; simp⟩, by simp [intOf]; omega⟩
    · obtain rfl : q = N := by omega
      have hcs : (Maps.size D : Int) = (cnt k wl q : Int) := by
        rw [Hsz.out]; unfold cnt
        by_cases hw : wl = []
        · rw [if_pos hw, if_pos ⟨hw, hk⟩]
        · rw [if_neg hw, if_neg (fun h => hw h.1)]
      obtain ⟨c, hc⟩ : ∃ c, cnt k wl q = c := ⟨_, rfl⟩
      rw [hc] at hcs ⊢
      clear hc
      go_wp2_with (at_len; refine wpList_len_own _ rfl _ 24 rfl 3 31 Yba.underlying24 _ bm n D rfl hown ?_)
      go_ret
      exact ⟨by simp, rfl⟩
end Go.Proofs.Ybulkcktu
