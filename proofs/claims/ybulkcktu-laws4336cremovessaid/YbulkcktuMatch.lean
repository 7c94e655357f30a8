import Derived.Test.YbulkcktuDrop
namespace Go.Proofs.Ybulkcktu
open Go Go.RowKit Go.Maps

theorem ptrAt_lt {bs : List Nat} {k : Nat} (h : k < bs.length) : ptrAt bs k = some ⟨bs[k]?.getD 0, 0, none⟩ := by simp [ptrAt, h]
theorem ptrAt_ge {bs : List Nat} {k : Nat} (h : bs.length ≤ k) : ptrAt bs k = none := by simp [ptrAt, List.getElem?_eq_none h]

theorem assert_int (v : Int) (w : World) : (Instr.typeAssert (.iface 3 (.int .i64 v)) 20 3 true).run Yba.prog w = .ok (.tuple #[.int .i64 v, .bool true]) w := by kernel_rfl

set_option maxHeartbeats 1000000 in
/-- 'zzs4336cat': the element at place p. -/
theorem at_any (Bl : Nat) (bs : List Nat) (vs : List Int) (p : Nat) (w : World) (h : IsL w Bl bs vs) (hp : p < bs.length) (hl : bs.length ≤ 1000) :
    Calls Yba.prog 8 #[.pointer (some ⟨Bl, 0, none⟩), .int .i64 p] w fun r w' => r = .returned (.pointer (ptrAt bs p)) ∧ w' = w := by
  have H : Hid (IsL w Bl bs vs) := h
  clear h
  go_enter Yba.func8, Yba.ntmps8
  go_wp2_with fail
  refine (front_any Bl bs vs w H.out).mono ?_
  rintro r w1 ⟨rfl, rfl⟩
  go_wp2
  go_loop [5, 6] (fun e i => ∃ k : Nat, k ≤ p ∧ i = .int .i64 k ∧ e = .pointer (ptrAt bs k)) (fun _ i => p - (intOf i).toNat)
  case atStart => exact ⟨0, Nat.zero_le _, rfl, rfl⟩
  case round =>
    obtain ⟨k, hk, rfl, rfl⟩ := hrel
    by_cases hlt : k < p
    · have hpt := ptrAt_lt (bs := bs) (k := k) (by omega)
      have hnx := next_any Bl bs vs k w1 H.out (by omega)
      rw [hpt] at hnx ⊢
      clear hpt
      go_wp2_with fail
      refine hnx.mono ?_
      rintro r w2 ⟨rfl, rfl⟩
      go_wp2
      exact ⟨⟨k + 1, by omega, by simp, rfl⟩, by simp [intOf]; omega⟩
    · obtain rfl : k = p := by omega
      go_wp2
      go_ret
      exact ⟨rfl, rfl⟩

set_option maxHeartbeats 1000000 in
/-- 'zzs4336cmatches' at what the list holds. -/
theorem matches_own (Bl : Nat) (bs : List Nat) (vs : List Int) (g cap : Nat) (w : World) (h : IsL w Bl bs vs) (hl : bs.length ≤ 1000) (hc : ∀ j, j < bs.length → w.cell? ⟨g, j, none⟩ = some (.int .i64 (vs[j]?.getD 0))) :
    Calls Yba.prog 19 #[.pointer (some ⟨Bl, 0, none⟩), .slice (some ⟨g, 0, none⟩) bs.length cap] w fun r w' => r = .returned (.bool true) ∧ w' = w := by
  have H : Hid (IsL w Bl bs vs) := h
  clear h
  go_enter Yba.func19, Yba.ntmps19
  go_wp2_with fail
  refine (len_any Bl bs vs w H.out).mono ?_
  rintro r w1 ⟨rfl, rfl⟩
  go_wp2_with fail
  refine (front_any Bl bs vs w1 H.out).mono ?_
  rintro r w2 ⟨rfl, rfl⟩
  go_wp2
  go_loop [5, 6] (fun i e => ∃ k : Nat, k ≤ bs.length ∧ i = .int .i64 k ∧ e = .pointer (ptrAt bs k)) (fun i _ => bs.length - (intOf i).toNat)
  case atStart => exact ⟨0, Nat.zero_le _, rfl, rfl⟩
  case round =>
    obtain ⟨k, hk, rfl, rfl⟩ := hrel
    by_cases hlt : k < bs.length
    · have hpt := ptrAt_lt (bs := bs) (k := k) hlt
      have hnx := next_any Bl bs vs k w2 H.out hlt
      have hcx := hc k hlt
      have hnode := H.out.node k hlt
      have e3 := cell_of hnode (i := 3) rfl
      simp only [List.getElem_toArray, List.getElem_cons_zero, List.getElem_cons_succ] at e3
      rw [hpt] at hnx ⊢
      obtain ⟨v, hv⟩ : ∃ v, vs[k]?.getD 0 = v := ⟨_, rfl⟩
      obtain ⟨b, hb⟩ : ∃ b, bs[k]?.getD 0 = b := ⟨_, rfl⟩
      rw [hv] at hcx e3
      rw [hb] at e3 hnx ⊢
      clear hpt hc hnode hv hb
      have hta := assert_int v
      go_wp2_with fail
      refine hnx.mono ?_
      rintro r w3 ⟨rfl, rfl⟩
      go_wp2
      exact ⟨⟨k + 1, by omega, by simp, rfl⟩, by simp [intOf]; omega⟩
    · obtain rfl : k = bs.length := by omega
      have hpt := ptrAt_ge (bs := bs) (k := bs.length) (Nat.le_refl _)
      rw [hpt]
      clear hpt
      go_wp2
      go_ret
      exact ⟨by simp, rfl⟩

set_option maxHeartbeats 1000000 in
theorem matches_nil (Bl : Nat) (w : World) (h : IsL w Bl [] []) :
    Calls Yba.prog 19 #[.pointer (some ⟨Bl, 0, none⟩), .slice none 0 0] w fun r w' => r = .returned (.bool true) ∧ w' = w := by
  have H : Hid (IsL w Bl [] []) := h
  clear h
  go_enter Yba.func19, Yba.ntmps19
  go_wp2_with fail
  refine (len_any Bl [] [] w H.out).mono ?_
  rintro r w1 ⟨rfl, rfl⟩
  go_wp2_with fail
  refine (front_any Bl [] [] w1 H.out).mono ?_
  rintro r w2 ⟨rfl, rfl⟩
  have hpt : ptrAt [] 0 = none := rfl
  rw [hpt]
  go_wp2
  go_loop [5, 6] (fun i e => i = .int .i64 0 ∧ e = .pointer none) (fun i _ => 0)
  case atStart => exact ⟨rfl, rfl⟩
  case round =>
    obtain ⟨rfl, rfl⟩ := hrel
    go_wp2
    go_ret
    exact ⟨rfl, rfl⟩

/-- A slice of ints of the call's own holds vs. -/
abbrev Holds (w : World) (n₀ : Nat) (v : Value) (vs : List Int) : Prop := w.ownsRow n₀ 3 1 v vs.length (vs.map (Value.int .i64))

theorem Holds.cases {w : World} {n₀ : Nat} {v : Value} {vs : List Int} (h : Holds w n₀ v vs) :
    (v = .slice none 0 0 ∧ vs = []) ∨ ∃ g cap cur, v = .slice (some ⟨g, 0, none⟩) vs.length cap ∧ n₀ ≤ g ∧ w.heap[g]? = some (.cells cur 3 (0, 0)) ∧ vs.length ≤ cap ∧ cap ≤ maxLen ∧ ∀ j, j < vs.length → w.cell? ⟨g, j, none⟩ = some (.int .i64 (vs[j]?.getD 0)) := by
  rcases h.2 with ⟨hv, h0⟩ | ⟨g, cap, cur, hv, hg, hh, hcc, hcm, hsz, htk⟩
  · exact .inl ⟨hv, List.length_eq_zero_iff.1 h0⟩
  · refine .inr ⟨g, cap, cur, hv, hg, hh, hcc, hcm, fun j hj => ?_⟩
    have e1 : (cur.toList.take (vs.length * 1))[j]? = some (.int .i64 (vs[j]?.getD 0)) := by rw [htk]; simp [hj]
    rw [List.getElem?_take_of_lt (by omega)] at e1
    simp only [World.cell?, hh]
    simpa using e1

theorem matches_any (Bl : Nat) (bs : List Nat) (vs : List Int) (n₀ : Nat) (v : Value) (w : World) (h : IsL w Bl bs vs) (hl : bs.length ≤ 1000) (hv : Holds w n₀ v vs) :
    Calls Yba.prog 19 #[.pointer (some ⟨Bl, 0, none⟩), v] w fun r w' => r = .returned (.bool true) ∧ w' = w := by
  rcases hv.cases with ⟨rfl, rfl⟩ | ⟨g, cap, cur, rfl, _, _, _, _, hc⟩
  · obtain rfl : bs = [] := List.length_eq_zero_iff.1 h.len
    exact matches_nil Bl w h
  · rw [← h.len] at hc ⊢
    exact matches_own Bl bs vs g cap w h hl hc
end Go.Proofs.Ybulkcktu
