import Derived.Test.YbulkcktuRemove
import Derived.Maps.OwnSet
namespace Go.Proofs.Ybulkcktu
open Go Go.RowKit Go.Maps

set_option maxHeartbeats 1000000 in
/-- (*List).Remove of an element of the list's own. -/
theorem Remove_hit (Bl : Nat) (bs : List Nat) (vs : List Int) (i : Nat) (w : World) (h : IsL w Bl bs vs) (hi : i < bs.length) (hl : bs.length ≤ 1000) :
    Calls Yba.prog 17 #[.pointer (some ⟨Bl, 0, none⟩), .pointer (some ⟨bs[i]?.getD 0, 0, none⟩)] w fun r w' => (∃ u, r = .returned u) ∧ IsL w' Bl (bs.eraseIdx i) (vs.eraseIdx i) ∧ Gone w' (bs[i]?.getD 0) (vs[i]?.getD 0) ∧ Only (Mine Bl bs) w w' := by
  have hn := h.node i hi
  have hrm := remove_any Bl bs vs i w h hi hl
  obtain ⟨c, hc⟩ : ∃ c, bs[i]?.getD 0 = c := ⟨_, rfl⟩
  rw [hc] at hn hrm ⊢
  have e2 := cell_of hn (i := 2) rfl
  simp only [List.getElem_toArray, List.getElem_cons_zero, List.getElem_cons_succ] at e2
  have hq := list_eql_same w Bl
  have Hc : Hid (bs[i]?.getD 0 = c) := hc
  clear h hn hc
  go_enter Yba.func17, Yba.ntmps17
  go_wp2_with fail
  refine hrm.mono ?_
  rintro r w1 ⟨⟨u, rfl⟩, hL, hG, ho⟩
  have e3 := cell_of hG (i := 3) rfl
  simp only [List.getElem_toArray, List.getElem_cons_zero, List.getElem_cons_succ] at e3
  go_wp2
  go_ret
  exact ⟨⟨_, rfl⟩, hL, hG, ho⟩

set_option maxHeartbeats 1000000 in
/-- (*List).Remove of an element of another list. -/
theorem Remove_foreign (Bl Bl' c n p : Nat) (v : Int) (bs bs' : List Nat) (vs vs' : List Int) (w : World) (h : IsL w Bl bs vs) (h' : IsL w Bl' bs' vs') (hne : Bl' ≠ Bl) (hn : LNode w c n p Bl' v) :
    Calls Yba.prog 17 #[.pointer (some ⟨Bl, 0, none⟩), .pointer (some ⟨c, 0, none⟩)] w fun r w' => (∃ u, r = .returned u) ∧ w' = w := by
  have e2 := cell_of hn (i := 2) rfl
  have e3 := cell_of hn (i := 3) rfl
  simp only [List.getElem_toArray, List.getElem_cons_zero, List.getElem_cons_succ] at e2 e3
  have hq := list_eql_other w hne h'.root h.root
  clear h hn h'
  go_enter Yba.func17, Yba.ntmps17
  go_wp2
  go_ret
  exact ⟨⟨_, rfl⟩, rfl⟩

set_option maxHeartbeats 1000000 in
/-- (*Element).Next, Prev of a detached element. -/
theorem next_gone (c : Nat) (v : Int) (w : World) (h : Gone w c v) : Calls Yba.prog 10 #[.pointer (some ⟨c, 0, none⟩)] w fun r w' => r = .returned (.pointer none) ∧ w' = w := by
  have e0 := cell_of h (i := 0) rfl
  have e2 := cell_of h (i := 2) rfl
  simp only [List.getElem_toArray, List.getElem_cons_zero, List.getElem_cons_succ] at e0 e2
  go_enter Yba.func10, Yba.ntmps10
  go_wp2
  go_ret
  exact ⟨rfl, rfl⟩
set_option maxHeartbeats 1000000 in
theorem prev_gone (c : Nat) (v : Int) (w : World) (h : Gone w c v) : Calls Yba.prog 11 #[.pointer (some ⟨c, 0, none⟩)] w fun r w' => r = .returned (.pointer none) ∧ w' = w := by
  have e1 := cell_of h (i := 1) rfl
  have e2 := cell_of h (i := 2) rfl
  simp only [List.getElem_toArray, List.getElem_cons_zero, List.getElem_cons_succ] at e1 e2
  go_enter Yba.func11, Yba.ntmps11
  go_wp2
  go_ret
  exact ⟨rfl, rfl⟩

/-! ### The map of lists -/
/-- How an element of the map reads: as itself. -/
def heldElem : Value → Option (DataW Value × List MemPlace) := fun v => some (.held v, [])
theorem law3 : Keyed Yba.prog 3 := int_keyed Yba.underlying3
theorem zero31 (w : World) : (zeroValue 31).run Yba.prog w = .ok (.pointer none) w := by kernel_rfl
def keyI (k : Int) : Lit := .int .i64 k
theorem isKey_keyI (k : Int) : WideAt.IsKeyLit (keyI k) := by trivial
/-- What the map of lists answers at k. -/
abbrev atI (D : DataW Value) (k : Int) : DataW Value := D.atKey (keyI k) (.held (.pointer none))

theorem wpList_lookup_held {P : Program} {w : World} {ops : Array Oper} {rest : List Oper} {o : Oper} {a : Act} {Q : Exit → Act → World → Prop} (hg : o.guard = none) (m x : Operand) (t : TypeId) (hop : o.op = Op.lookup t m x false)
    (k e : TypeId) (K : Keyed P k) (ht : P.underlying t = some (.map k e)) {z : Value} (hz : (zeroValue e).run P w = .ok z w) (b n : Nat) (D : DataW Value)
    (hm : a.eval m = .map (some b)) (hown : w.ownsMap P k heldElem b n D) (key : Value) (kl : Lit) (hx : a.eval x = key) (hkey : keyOf P k key = some kl) (u : Value) (hu : D.atKey kl (.held z) = .held u)
    (hK : wpList P ops Q rest (a.put o.dst u) w) : wpList P ops Q (o :: rest) a w := by
  refine wpList_plain hg fun K' hK' => ?_
  obtain ⟨v, ps, hrun, hv⟩ := hown.lookup K ht hz (zd := .held z) (zp := []) rfl hkey
  have e : v = u := by
    simp only [heldElem, Option.some.injEq, Prod.mk.injEq] at hv
    rw [hu] at hv
    exact DataW.held.inj hv.1
  subst e
  unfold Oper.wp
  simp [execOp, hop, hm, hx, hrun, Result.andThen]
  exact hK' _ _ hK

theorem wpList_lookup_held_ok {P : Program} {w : World} {ops : Array Oper} {rest : List Oper} {o : Oper} {a : Act} {Q : Exit → Act → World → Prop} (hg : o.guard = none) (m x : Operand) (t : TypeId) (hop : o.op = Op.lookup t m x true)
    (k e : TypeId) (K : Keyed P k) (ht : P.underlying t = some (.map k e)) {z : Value} (hz : (zeroValue e).run P w = .ok z w) (b n : Nat) (D : DataW Value)
    (hm : a.eval m = .map (some b)) (hown : w.ownsMap P k heldElem b n D) (key : Value) (kl : Lit) (hx : a.eval x = key) (hkey : keyOf P k key = some kl) (u : Value) (ok : Bool) (hu : D.atKey kl (.held z) = .held u) (hb : Maps.has D kl = ok)
    (hK : wpList P ops Q rest (a.put o.dst (.tuple #[u, .bool ok])) w) : wpList P ops Q (o :: rest) a w := by
  subst hb
  refine wpList_lookup_own_ok w hg m x t hop k e K ht heldElem hz (.held z) [] rfl b n D hm hown key kl hx hkey (fun v ps hv => ?_)
  have e : v = u := by
    simp only [heldElem, Option.some.injEq, Prod.mk.injEq] at hv
    rw [hu] at hv
    exact DataW.held.inj hv.1
  subst e
  exact hK

set_option maxHeartbeats 1000000 in
/-- drop[int], out of what Remove does. -/
theorem drop_of (bm n k Bl : Nat) (D : DataW Value) (c : Nat) (bs' : List Nat) (vs' : List Int) (S : Nat → Prop) (G : World → Prop) (w : World) (hk : k ≤ 1000) (hown : w.ownsMap Yba.prog 3 heldElem bm n D) (hat : atI D k = .held (.pointer (some ⟨Bl, 0, none⟩))) (hS : ¬ S bm) (hbl : Bl ≠ bm) (hbs : ∀ b ∈ bs', b ≠ bm)
    (hR : Calls Yba.prog 17 #[.pointer (some ⟨Bl, 0, none⟩), .pointer (some ⟨c, 0, none⟩)] w fun r w' => (∃ u, r = .returned u) ∧ IsL w' Bl bs' vs' ∧ G w' ∧ Only S w w')
    (hG : ∀ W W' : World, G W → W.mapTurned W' bm → G W') :
    Calls Yba.prog 9 #[.map (some bm), .int .i64 k, .pointer (some ⟨c, 0, none⟩)] w fun r w' => (∃ u, r = .returned u) ∧ IsL w' Bl bs' vs' ∧ G w' ∧ Only (fun j => S j ∨ j = bm) w w' ∧
      w'.ownsMap Yba.prog 3 heldElem bm n (if bs'.length = 0 then D.del (keyI k) else D) := by
  have hwf : (Lit.int .i64 (k : Int)).wf = true := WalkArith.wf_i64 (by omega)
  obtain ⟨D', hD'⟩ : ∃ D', (if bs'.length = 0 then D.del (keyI k) else D) = D' := ⟨_, rfl⟩
  rw [hD']
  have HD : Hid ((if bs'.length = 0 then D.del (keyI k) else D) = D') := hD'
  clear hD'
  go_enter Yba.func9, Yba.ntmps9
  go_wp2_with (at_lookup; go_must (refine wpList_lookup_held rfl _ _ 24 rfl 3 31 law3 Yba.underlying24 (zero31 _) bm n D rfl hown _ (keyI k) rfl (keyOf_int_mk Yba.underlying3 hwf) _ hat ?_))
  refine hR.mono ?_
  rintro r w1 ⟨⟨u, rfl⟩, hL, hg1, ho⟩
  have hown1 : w1.ownsMap Yba.prog 3 heldElem bm n D := by
    obtain ⟨es, clock, hb, r⟩ := hown
    exact ⟨es, clock, ho.at hb hS, r⟩
  have HL : Hid (IsL w1 Bl bs' vs') := hL
  clear hown hR hL
  go_wp2_with fail
  refine (len_any Bl bs' vs' w1 HL.out).mono ?_
  rintro r w2 ⟨rfl, rfl⟩
  by_cases h0 : bs'.length = 0
  · have hz : ((bs'.length : Int)) = 0 := by omega
    rw [hz]
    clear hz
    go_wp2_with (at_delete; go_must (refine wpList_delete_own _ rfl _ _ 24 3 rfl 31 law3 Yba.underlying24 _ bm n D rfl hown1 _ _ rfl (keyOf_int_mk Yba.underlying3 hwf) ?_); intro w3 hown3 hturn3)
    go_end0
    have ho3 : Only (fun j => j = bm) w2 w3 := (Only.refl _ w2).grown hturn3.grown (fun j e _ => by cases e; rfl)
    exact ⟨⟨_, rfl⟩, HL.out.only ho3 hbl hbs, hG _ _ hg1 hturn3, (ho.mono (fun _ _ h => .inl h)).trans (ho3.mono (fun _ _ h => .inr h)), by rw [← HD.out, if_pos h0]; exact hown3⟩
  · have hz : ¬ ((bs'.length : Int) = 0) := by omega
    go_wp2
    go_end0
    exact ⟨⟨_, rfl⟩, HL.out, hg1, ho.mono (fun _ _ h => .inl h), by rw [← HD.out, if_neg h0]; exact hown1⟩
end Go.Proofs.Ybulkcktu
