import Derived.Test.YbulkcktuList
import Derived.BigRegion
namespace Go.Proofs.Ybulkcktu
open Go Go.RowKit

/-- A detached element. -/
def Gone (W : World) (c : Nat) (v : Int) : Prop := W.heap[c]? = some (.cells #[.pointer none, .pointer none, .pointer none, .iface 3 (.int .i64 v)] 38 (0, 0))

theorem LRoot.drew {W : World} {Bl f l n : Nat} (h : LRoot W Bl f l n) : LRoot W.drew Bl f l n := h
theorem LNode.drew {W : World} {b n p Bl : Nat} {v : Int} (h : LNode W b n p Bl v) : LNode W.drew b n p Bl v := h
theorem Gone.drew {W : World} {c : Nat} {v : Int} (h : Gone W c v) : Gone W.drew c v := h

set_option maxHeartbeats 4000000 in
theorem remove_one (Bl c len : Nat) (v : Int) (w : World) (hc : c ≠ Bl) (h1 : 1 ≤ len) (hl : len ≤ 1000) (hr : LRoot w Bl c c len) (he : LNode w c Bl Bl Bl v) :
    Calls Yba.prog 21 #[.pointer (some ⟨Bl, 0, none⟩), .pointer (some ⟨c, 0, none⟩)] w fun r w' => (∃ u, r = .returned u) ∧ LRoot w' Bl Bl Bl (len - 1) ∧ Gone w' c v ∧ Only (fun k => k = Bl ∨ k = c) w w' := by
  have e0 := cell_of he (i := 0) rfl
  have e1 := cell_of he (i := 1) rfl
  have e2 := cell_of he (i := 2) rfl
  have f0 := frozen_of he 0
  have f1 := frozen_of he 1
  have f2 := frozen_of he 2
  have l0 := cell_of hr (i := 0) rfl
  have l1 := cell_of hr (i := 1) rfl
  have l4 := cell_of hr (i := 4) rfl
  have g0 := frozen_of hr 0
  have g1 := frozen_of hr 1
  have g4 := frozen_of hr 4
  simp only [List.getElem_toArray, List.getElem_cons_zero, List.getElem_cons_succ] at e0 e1 e2 l0 l1 l4
  go_enter Yba.func21, Yba.ntmps21
  go_wp2
  go_region
  all_goals (go_wp2; go_region)
  all_goals go_wp2
  all_goals go_end0
  have elen : (len : Int) - 1 = ((len - 1 : Nat) : Int) := by omega
  have hc' : Bl ≠ c := fun h => hc h.symm
  refine ⟨⟨_, rfl⟩, ?_, ?_, ?_⟩
  · rw [elen]
    refine LRoot.drew (LRoot.drew ?_)
    exact heap_set (heap_set_other (heap_set_other (heap_set_other (heap_set (heap_set hr _ _) _ _) hc' _ _) hc' _ _) hc' _ _) _ _
  · refine Gone.drew (Gone.drew ?_)
    exact heap_set_other (heap_set (heap_set (heap_set (heap_set_other (heap_set_other he hc _ _) hc _ _) _ _) _ _) _ _) hc _ _
  · exact (((((((Only.refl _ w).setCell (fun _ => .inl rfl) _).setCell (fun _ => .inl rfl) _).setCell (fun _ => .inr rfl) _).setCell (fun _ => .inr rfl) _).setCell (fun _ => .inr rfl) _).setCell (fun _ => .inl rfl) _).drew.drew

set_option maxHeartbeats 4000000 in
theorem remove_first (Bl c n nn la len : Nat) (v vn : Int) (w : World) (hc : c ≠ Bl) (hnb : n ≠ Bl) (hnc : n ≠ c) (h1 : 1 ≤ len) (hl : len ≤ 1000) (hr : LRoot w Bl c la len) (he : LNode w c n Bl Bl v) (hn : LNode w n nn c Bl vn) :
    Calls Yba.prog 21 #[.pointer (some ⟨Bl, 0, none⟩), .pointer (some ⟨c, 0, none⟩)] w fun r w' => (∃ u, r = .returned u) ∧ LRoot w' Bl n la (len - 1) ∧ Gone w' c v ∧ LNode w' n nn Bl Bl vn ∧ Only (fun k => k = Bl ∨ k = c ∨ k = n) w w' := by
  have e0 := cell_of he (i := 0) rfl
  have e1 := cell_of he (i := 1) rfl
  have e2 := cell_of he (i := 2) rfl
  have f0 := frozen_of he 0
  have f1 := frozen_of he 1
  have f2 := frozen_of he 2
  have l0 := cell_of hr (i := 0) rfl
  have l1 := cell_of hr (i := 1) rfl
  have l4 := cell_of hr (i := 4) rfl
  have g0 := frozen_of hr 0
  have g1 := frozen_of hr 1
  have g4 := frozen_of hr 4
  have n1 := cell_of hn (i := 1) rfl
  have h1 := frozen_of hn 1
  simp only [List.getElem_toArray, List.getElem_cons_zero, List.getElem_cons_succ] at e0 e1 e2 l0 l1 l4 n1
  go_enter Yba.func21, Yba.ntmps21
  go_wp2
  go_region
  all_goals (go_wp2; go_region)
  all_goals go_wp2
  all_goals go_end0
  have hnb2 : Bl ≠ n := fun h => hnb h.symm
  have hnc2 : c ≠ n := fun h => hnc h.symm
  have elen : (len : Int) - 1 = ((len - 1 : Nat) : Int) := by omega
  have hc' : Bl ≠ c := fun h => hc h.symm
  refine ⟨⟨_, rfl⟩, ?_, ?_, ?_, ?_⟩
  · rw [elen]
    refine LRoot.drew (LRoot.drew ?_)
    exact heap_set (heap_set_other (heap_set_other (heap_set_other (heap_set_other (heap_set hr _ _) hnb2 _ _) hc' _ _) hc' _ _) hc' _ _) _ _
  · refine Gone.drew (Gone.drew ?_)
    exact heap_set_other (heap_set (heap_set (heap_set (heap_set_other (heap_set_other he hc _ _) hnc2 _ _) _ _) _ _) _ _) hc _ _
  · refine LNode.drew (LNode.drew ?_)
    exact heap_set_other (heap_set_other (heap_set_other (heap_set_other (heap_set (heap_set_other hn hnb _ _) _ _) hnc _ _) hnc _ _) hnc _ _) hnb _ _
  · exact (((((((Only.refl _ w).setCell (fun _ => .inl rfl) _).setCell (fun _ => .inr (.inr rfl)) _).setCell (fun _ => .inr (.inl rfl)) _).setCell (fun _ => .inr (.inl rfl)) _).setCell (fun _ => .inr (.inl rfl)) _).setCell (fun _ => .inl rfl) _).drew.drew

set_option maxHeartbeats 4000000 in
theorem remove_last (Bl c p pp f len : Nat) (v vp : Int) (w : World) (hc : c ≠ Bl) (hpb : p ≠ Bl) (hpc : p ≠ c) (h1 : 1 ≤ len) (hl : len ≤ 1000) (hr : LRoot w Bl f c len) (he : LNode w c Bl p Bl v) (hp : LNode w p c pp Bl vp) :
    Calls Yba.prog 21 #[.pointer (some ⟨Bl, 0, none⟩), .pointer (some ⟨c, 0, none⟩)] w fun r w' => (∃ u, r = .returned u) ∧ LRoot w' Bl f p (len - 1) ∧ Gone w' c v ∧ LNode w' p Bl pp Bl vp ∧ Only (fun k => k = Bl ∨ k = c ∨ k = p) w w' := by
  have e0 := cell_of he (i := 0) rfl
  have e1 := cell_of he (i := 1) rfl
  have e2 := cell_of he (i := 2) rfl
  have f0 := frozen_of he 0
  have f1 := frozen_of he 1
  have f2 := frozen_of he 2
  have l0 := cell_of hr (i := 0) rfl
  have l1 := cell_of hr (i := 1) rfl
  have l4 := cell_of hr (i := 4) rfl
  have g0 := frozen_of hr 0
  have g1 := frozen_of hr 1
  have g4 := frozen_of hr 4
  have p0 := cell_of hp (i := 0) rfl
  have h0 := frozen_of hp 0
  simp only [List.getElem_toArray, List.getElem_cons_zero, List.getElem_cons_succ] at e0 e1 e2 l0 l1 l4 p0
  go_enter Yba.func21, Yba.ntmps21
  go_wp2
  go_region
  all_goals (go_wp2; go_region)
  all_goals go_wp2
  all_goals go_end0
  have hpb2 : Bl ≠ p := fun h => hpb h.symm
  have hpc2 : c ≠ p := fun h => hpc h.symm
  have elen : (len : Int) - 1 = ((len - 1 : Nat) : Int) := by omega
  have hc' : Bl ≠ c := fun h => hc h.symm
  refine ⟨⟨_, rfl⟩, ?_, ?_, ?_, ?_⟩
  · rw [elen]
    refine LRoot.drew (LRoot.drew ?_)
    exact heap_set (heap_set_other (heap_set_other (heap_set_other (heap_set (heap_set_other hr hpb2 _ _) _ _) hc' _ _) hc' _ _) hc' _ _) _ _
  · refine Gone.drew (Gone.drew ?_)
    exact heap_set_other (heap_set (heap_set (heap_set (heap_set_other (heap_set_other he hpc2 _ _) hc _ _) _ _) _ _) _ _) hc _ _
  · refine LNode.drew (LNode.drew ?_)
    exact heap_set_other (heap_set_other (heap_set_other (heap_set_other (heap_set_other (heap_set hp _ _) hpb _ _) hpc _ _) hpc _ _) hpc _ _) hpb _ _
  · exact (((((((Only.refl _ w).setCell (fun _ => .inr (.inr rfl)) _).setCell (fun _ => .inl rfl) _).setCell (fun _ => .inr (.inl rfl)) _).setCell (fun _ => .inr (.inl rfl)) _).setCell (fun _ => .inr (.inl rfl)) _).setCell (fun _ => .inl rfl) _).drew.drew

set_option maxHeartbeats 4000000 in
theorem remove_mid (Bl c p pp n nn f la len : Nat) (v vp vn : Int) (w : World) (hc : c ≠ Bl) (hpb : p ≠ Bl) (hpc : p ≠ c) (hnb : n ≠ Bl) (hnc : n ≠ c) (hpn : p ≠ n) (h1 : 1 ≤ len) (hl : len ≤ 1000) (hr : LRoot w Bl f la len) (he : LNode w c n p Bl v) (hp : LNode w p c pp Bl vp) (hn : LNode w n nn c Bl vn) :
    Calls Yba.prog 21 #[.pointer (some ⟨Bl, 0, none⟩), .pointer (some ⟨c, 0, none⟩)] w fun r w' => (∃ u, r = .returned u) ∧ LRoot w' Bl f la (len - 1) ∧ Gone w' c v ∧ LNode w' p n pp Bl vp ∧ LNode w' n nn p Bl vn ∧ Only (fun k => k = Bl ∨ k = c ∨ k = p ∨ k = n) w w' := by
  have e0 := cell_of he (i := 0) rfl
  have e1 := cell_of he (i := 1) rfl
  have e2 := cell_of he (i := 2) rfl
  have f0 := frozen_of he 0
  have f1 := frozen_of he 1
  have f2 := frozen_of he 2
  have l0 := cell_of hr (i := 0) rfl
  have l1 := cell_of hr (i := 1) rfl
  have l4 := cell_of hr (i := 4) rfl
  have g0 := frozen_of hr 0
  have g1 := frozen_of hr 1
  have g4 := frozen_of hr 4
  have p0 := cell_of hp (i := 0) rfl
  have h0 := frozen_of hp 0
  have n1 := cell_of hn (i := 1) rfl
  have j1 := frozen_of hn 1
  simp only [List.getElem_toArray, List.getElem_cons_zero, List.getElem_cons_succ] at e0 e1 e2 l0 l1 l4 p0 n1
  go_enter Yba.func21, Yba.ntmps21
  go_wp2
  go_region
  all_goals (go_wp2; go_region)
  all_goals go_wp2
  all_goals go_end0
  have hpb2 : Bl ≠ p := fun h => hpb h.symm
  have hpc2 : c ≠ p := fun h => hpc h.symm
  have hnb2 : Bl ≠ n := fun h => hnb h.symm
  have hnc2 : c ≠ n := fun h => hnc h.symm
  have hpn2 : n ≠ p := fun h => hpn h.symm
  have elen : (len : Int) - 1 = ((len - 1 : Nat) : Int) := by omega
  have hc' : Bl ≠ c := fun h => hc h.symm
  refine ⟨⟨_, rfl⟩, ?_, ?_, ?_, ?_, ?_⟩
  · rw [elen]
    refine LRoot.drew (LRoot.drew ?_)
    exact heap_set (heap_set_other (heap_set_other (heap_set_other (heap_set_other (heap_set_other hr hpb2 _ _) hnb2 _ _) hc' _ _) hc' _ _) hc' _ _) _ _
  · refine Gone.drew (Gone.drew ?_)
    exact heap_set_other (heap_set (heap_set (heap_set (heap_set_other (heap_set_other he hpc2 _ _) hnc2 _ _) _ _) _ _) _ _) hc _ _
  · refine LNode.drew (LNode.drew ?_)
    exact heap_set_other (heap_set_other (heap_set_other (heap_set_other (heap_set_other (heap_set hp _ _) hpn _ _) hpc _ _) hpc _ _) hpc _ _) hpb _ _
  · refine LNode.drew (LNode.drew ?_)
    exact heap_set_other (heap_set_other (heap_set_other (heap_set_other (heap_set (heap_set_other hn hpn2 _ _) _ _) hnc _ _) hnc _ _) hnc _ _) hnb _ _
  · exact (((((((Only.refl _ w).setCell (fun _ => .inr (.inr (.inl rfl))) _).setCell (fun _ => .inr (.inr (.inr rfl))) _).setCell (fun _ => .inr (.inl rfl)) _).setCell (fun _ => .inr (.inl rfl)) _).setCell (fun _ => .inr (.inl rfl)) _).setCell (fun _ => .inl rfl) _).drew.drew


theorem getD_inj {bs : List Nat} (hn : bs.Nodup) {i j d : Nat} (hi : i < bs.length) (hj : j < bs.length) (h : bs[i]?.getD d = bs[j]?.getD d) : i = j := by
  rw [List.getElem?_eq_getElem hi, List.getElem?_eq_getElem hj] at h
  exact (List.getElem_inj hn).1 (by simpa using h)
theorem getD_mem {bs : List Nat} {i d : Nat} (hi : i < bs.length) : bs[i]?.getD d ∈ bs := by rw [List.getElem?_eq_getElem hi]; simp

/-- The list without its element i, out of the turned blocks. -/
theorem IsL.erased {W W' : World} {Bl : Nat} {bs : List Nat} {vs : List Int} {i : Nat} (h : IsL W Bl bs vs) (hi : i < bs.length)
    (hr : LRoot W' Bl (if i = 0 then bs[1]?.getD Bl else bs[0]?.getD Bl) (if i + 1 = bs.length then (Bl :: bs)[i]?.getD 0 else bs[bs.length - 1]?.getD 0) (bs.length - 1))
    (hp : i ≠ 0 → LNode W' (bs[i - 1]?.getD 0) (bs[i + 1]?.getD Bl) ((Bl :: bs)[i - 1]?.getD 0) Bl (vs[i - 1]?.getD 0))
    (hn : i + 1 < bs.length → LNode W' (bs[i + 1]?.getD 0) (bs[i + 2]?.getD Bl) ((Bl :: bs)[i]?.getD 0) Bl (vs[i + 1]?.getD 0))
    {S : Nat → Prop} (ho : Only S W W') (hS : ∀ j, j < bs.length → j + 1 ≠ i → j ≠ i → j ≠ i + 1 → ¬ S (bs[j]?.getD 0)) : IsL W' Bl (bs.eraseIdx i) (vs.eraseIdx i) := by
  have hlen := h.len
  have l1 : (bs.eraseIdx i).length = bs.length - 1 := List.length_eraseIdx_of_lt hi
  have l2 : (vs.eraseIdx i).length = vs.length - 1 := List.length_eraseIdx_of_lt (by omega)
  have hc : ∀ j, (Bl :: bs.eraseIdx i)[j]? = if j < i + 1 then (Bl :: bs)[j]? else (Bl :: bs)[j + 1]? := fun j => by
    rw [← List.eraseIdx_cons_succ, List.getElem?_eraseIdx]
  refine ⟨by omega, ?_, fun j hj => ?_, List.Nodup.eraseIdx i h.nodup⟩
  · have e1 : (bs.eraseIdx i)[0]?.getD Bl = if i = 0 then bs[1]?.getD Bl else bs[0]?.getD Bl := by
      rw [List.getElem?_eraseIdx]
      by_cases h0 : i = 0
      · simp [h0]
      · simp [h0, show 0 < i by omega]
    have e2 : (Bl :: bs.eraseIdx i)[(bs.eraseIdx i).length]?.getD Bl = if i + 1 = bs.length then (Bl :: bs)[i]?.getD 0 else bs[bs.length - 1]?.getD 0 := by
      rw [l1, hc]
      by_cases h0 : i + 1 = bs.length
      · rw [if_pos (by omega), if_pos h0, show bs.length - 1 = i by omega, List.getElem?_eq_getElem (by simp; omega)]
        rfl
      · rw [if_neg (by omega), if_neg h0, show bs.length - 1 + 1 = (bs.length - 1) + 1 by omega, List.getElem?_cons_succ, List.getElem?_eq_getElem (by omega)]
        rfl
    rw [e1, e2, l1]
    exact hr
  · rw [l1] at hj
    have ev : ∀ j, (vs.eraseIdx i)[j]? = if j < i then vs[j]? else vs[j + 1]? := fun j => List.getElem?_eraseIdx
    have eb : ∀ j, (bs.eraseIdx i)[j]? = if j < i then bs[j]? else bs[j + 1]? := fun j => List.getElem?_eraseIdx
    rw [eb, eb, hc, ev]
    by_cases h1 : j + 1 < i
    · rw [if_pos (by omega), if_pos h1, if_pos (by omega), if_pos (by omega)]
      exact ho.at (h.node j (by omega)) (hS j (by omega) (by omega) (by omega) (by omega))
    · by_cases h2 : j + 1 = i
      · subst h2
        rw [if_pos (by omega), if_neg (by omega), if_pos (by omega), if_pos (by omega)]
        have := hp (by omega)
        simpa using this
      · by_cases h3 : j = i
        · subst h3
          rw [if_neg (by omega), if_neg (by omega), if_pos (by omega), if_neg (by omega)]
          exact hn (by omega)
        · rw [if_neg (by omega), if_neg (by omega), if_neg (by omega), if_neg (by omega)]
          exact ho.at (h.node (j + 1) (by omega)) (hS (j + 1) (by omega) (by omega) (by omega) (by omega))

/-- (*List).remove. -/
theorem remove_any (Bl : Nat) (bs : List Nat) (vs : List Int) (i : Nat) (w : World) (h : IsL w Bl bs vs) (hi : i < bs.length) (hl : bs.length ≤ 1000) :
    Calls Yba.prog 21 #[.pointer (some ⟨Bl, 0, none⟩), .pointer (some ⟨bs[i]?.getD 0, 0, none⟩)] w fun r w' => (∃ u, r = .returned u) ∧ IsL w' Bl (bs.eraseIdx i) (vs.eraseIdx i) ∧ Gone w' (bs[i]?.getD 0) (vs[i]?.getD 0) ∧ Only (Mine Bl bs) w w' := by
  have hnode := h.node i hi
  have hroot := h.root
  have hcm : bs[i]?.getD 0 ∈ bs := getD_mem hi
  have hcb := h.ne hcm
  have hne : ∀ j, j < bs.length → bs[j]?.getD 0 ≠ Bl := fun j hj => h.ne (getD_mem hj)
  have hlast : (Bl :: bs)[bs.length]?.getD Bl = bs[bs.length - 1]?.getD 0 := by
    obtain ⟨m, hm⟩ : ∃ m, bs.length = m + 1 := ⟨bs.length - 1, by omega⟩
    rw [hm, List.getElem?_cons_succ, Nat.add_sub_cancel, List.getElem?_eq_getElem (by omega)]
    rfl
  rw [hlast] at hroot
  have hprev : i ≠ 0 → (Bl :: bs)[i]?.getD 0 = bs[i - 1]?.getD 0 := fun h0 => by
    obtain ⟨m, rfl⟩ : ∃ m, i = m + 1 := ⟨i - 1, by omega⟩
    rw [List.getElem?_cons_succ, Nat.add_sub_cancel]
  have hbd : ∀ j d, j < bs.length → bs[j]?.getD d = bs[j]?.getD 0 := fun j d hj => by rw [List.getElem?_eq_getElem hj]; rfl
  by_cases h0 : i = 0
  · subst h0
    by_cases h1 : bs.length = 1
    · -- alone
      have e1 : bs[0 + 1]?.getD Bl = Bl := by rw [List.getElem?_eq_none (by omega)]; rfl
      rw [e1] at hnode
      rw [h1, show 1 - 1 = 0 from rfl, hbd 0 Bl hi] at hroot
      refine (remove_one Bl _ 1 _ w hcb (by omega) (by omega) hroot hnode).mono ?_
      rintro r w' ⟨hu, hr, hg, ho⟩
      refine ⟨hu, h.erased hi ?_ (fun h => absurd rfl h) (fun h => by omega) ho (fun j hj _ h _ => by omega), hg, ho.mono (fun k _ hk => ?_)⟩
      · rw [if_pos rfl, if_pos (by omega), h1, show bs[1]?.getD Bl = Bl from e1]
        exact hr
      · rcases hk with hk | hk
        · exact .inl hk
        · exact .inr (hk ▸ hcm)
    · -- the first of several
      have hn := h.node 1 (by omega)
      have e1 : bs[0 + 1]?.getD Bl = bs[1]?.getD 0 := hbd 1 Bl (by omega)
      have e2 : (Bl :: bs)[1]?.getD 0 = bs[0]?.getD 0 := rfl
      rw [e1] at hnode
      rw [e2] at hn
      rw [hbd 0 Bl hi] at hroot
      have hnc : bs[1]?.getD 0 ≠ bs[0]?.getD 0 := fun e => by have := getD_inj h.nodup (by omega) hi e; omega
      refine (remove_first Bl _ _ _ _ bs.length _ _ w hcb (hne 1 (by omega)) hnc (by omega) hl hroot hnode hn).mono ?_
      rintro r w' ⟨hu, hr, hg, hn', ho⟩
      refine ⟨hu, h.erased hi ?_ (fun h => absurd rfl h) (fun _ => hn') ho (fun j hj _ h2 h3 => ?_), hg, ho.mono (fun k _ hk => ?_)⟩
      · rw [if_pos rfl, if_neg (by omega), hbd 1 Bl (by omega)]
        exact hr
      · rintro (hk | hk | hk)
        · exact hne j hj hk
        · exact h2 (getD_inj h.nodup hj hi hk)
        · exact h3 (getD_inj h.nodup hj (by omega) hk)
      · rcases hk with hk | hk | hk
        · exact .inl hk
        · exact .inr (hk ▸ hcm)
        · exact .inr (hk ▸ getD_mem (by omega))
  · have hp := h.node (i - 1) (by omega)
    rw [show i - 1 + 1 = i by omega, hbd i Bl hi] at hp
    rw [hprev h0] at hnode
    have hpc : bs[i - 1]?.getD 0 ≠ bs[i]?.getD 0 := fun e => by have := getD_inj h.nodup (by omega) hi e; omega
    by_cases h1 : i + 1 = bs.length
    · -- the last of several
      have e1 : bs[i + 1]?.getD Bl = Bl := by rw [List.getElem?_eq_none (by omega)]; rfl
      rw [e1] at hnode
      rw [show bs.length - 1 = i by omega] at hroot
      refine (remove_last Bl _ _ _ _ bs.length _ _ w hcb (hne (i - 1) (by omega)) hpc (by omega) hl hroot hnode hp).mono ?_
      rintro r w' ⟨hu, hr, hg, hp', ho⟩
      refine ⟨hu, h.erased hi ?_ (fun _ => by rw [e1]; exact hp') (fun h => by omega) ho (fun j hj h1 h2 h3 => ?_), hg, ho.mono (fun k _ hk => ?_)⟩
      · rw [if_neg h0, if_pos h1, hprev h0]
        exact hr
      · rintro (hk | hk | hk)
        · exact hne j hj hk
        · exact h2 (getD_inj h.nodup hj hi hk)
        · have := getD_inj h.nodup hj (by omega) hk; omega
      · rcases hk with hk | hk | hk
        · exact .inl hk
        · exact .inr (hk ▸ hcm)
        · exact .inr (hk ▸ getD_mem (by omega))
    · -- in the middle
      have hn := h.node (i + 1) (by omega)
      have e1 : bs[i + 1]?.getD Bl = bs[i + 1]?.getD 0 := hbd (i + 1) Bl (by omega)
      have e2 : (Bl :: bs)[i + 1]?.getD 0 = bs[i]?.getD 0 := rfl
      rw [e1] at hnode
      rw [e2] at hn
      have hnc : bs[i + 1]?.getD 0 ≠ bs[i]?.getD 0 := fun e => by have := getD_inj h.nodup (by omega) hi e; omega
      have hpn : bs[i - 1]?.getD 0 ≠ bs[i + 1]?.getD 0 := fun e => by have := getD_inj h.nodup (by omega) (by omega) e; omega
      refine (remove_mid Bl _ _ _ _ _ _ _ bs.length _ _ _ w hcb (hne (i - 1) (by omega)) hpc (hne (i + 1) (by omega)) hnc hpn (by omega) hl hroot hnode hp hn).mono ?_
      rintro r w' ⟨hu, hr, hg, hp', hn', ho⟩
      refine ⟨hu, h.erased hi ?_ (fun _ => by rw [e1]; exact hp') (fun _ => by rw [hprev h0]; exact hn') ho (fun j hj h1 h2 h3 => ?_), hg, ho.mono (fun k _ hk => ?_)⟩
      · rw [if_neg h0, if_neg h1]
        exact hr
      · rintro (hk | hk | hk | hk)
        · exact hne j hj hk
        · exact h2 (getD_inj h.nodup hj hi hk)
        · have := getD_inj h.nodup hj (by omega) hk; omega
        · exact h3 (getD_inj h.nodup hj (by omega) hk)
      · rcases hk with hk | hk | hk | hk
        · exact .inl hk
        · exact .inr (hk ▸ hcm)
        · exact .inr (hk ▸ getD_mem (by omega))
        · exact .inr (hk ▸ getD_mem (by omega))

end Go.Proofs.Ybulkcktu
