import Derived.Test.YbulkckzeUnlink
namespace Go.Proofs.Ybulkckze
open Go Go.RowKit Go.MuLone

/-- A waiter's bell: rung or not. -/
def BellIs (w : World) (c : Nat) (rung : Bool) : Prop :=
  w.heap[c]? = some (.chan 1 (if rung then #[.agg #[]] else #[]) false (if rung then 1 else 0) 0 false)
theorem BellIs.only {w w' : World} {c : Nat} {r : Bool} (h : BellIs w c r) {S : Nat → Prop} (ho : Only S w w') (hs : ¬ S c) : BellIs w' c r := ho.at h hs

theorem load64 (p q : Nat) {w : World} {n mu : Int} {f l : Option Addr} (h : PoolIs w p q n mu f l) :
    (callFunc 10 #[.pointer (some ⟨p, 190, none⟩)]).run Yba.prog w = .ok (.value (.int .i64 n)) w :=
  run_call_load (P := Yba.prog) Yba.func10 (by kernel_rfl) (by kernel_rfl) (by kernel_rfl) .i64 (by kernel_rfl) h.n

set_option maxRecDepth 100000 in
set_option maxHeartbeats 1000000 in
theorem wake_none (p q : Nat) (mu : Int) (f l : Option Addr) (w : World) (hp : PoolIs w p q 0 mu f l) :
    Calls Yba.prog 6 #[.pointer (some ⟨p, 190, none⟩), .bool false] w fun e w' => e = .returned (.bool false) ∧ w' = w := by
  have hl := load64 p q hp
  clear hp
  go_enter_defers Yba.func6, Yba.ntmps6
  go_wp2_with fail
  exact ⟨_, results_tmp rfl _ _ _, rfl, rfl⟩

set_option maxRecDepth 100000 in
set_option maxHeartbeats 1000000 in
theorem wake_last (p q b c : Nat) (n : Int) (l : Option Addr) (w : World) (hp : PoolIs w p q n 0 (some ⟨b, 0, none⟩) l) (hn : 1 ≤ n ∧ n ≤ 16) (hw : WaiterIs w b c none none true) (hc : BellIs w c false) (hne : b ≠ p) (hcp : c ≠ p) (hcb : c ≠ b) :
    Calls Yba.prog 6 #[.pointer (some ⟨p, 190, none⟩), .bool false] w fun e w' => e = .returned (.bool true) ∧
      PoolIs w' p q (n - 1) 0 none none ∧ WaiterIs w' b c none none false ∧ BellIs w' c true ∧ Only (fun k => k = p ∨ k = b ∨ k = c) w w' := by
  have hl := load64 p q hp
  have hn0 : (n == 0) = false := by simp; omega
  have hnz : ¬ n = 0 := by omega
  have hp1 := hp.setMu 1
  have lF := hp1.first
  have c0 := hp.mu
  have z0 := hp.fz 191
  have hpn := ptr_eql_nil
  have Hp1 : Hid (PoolIs (w.setCell ⟨p, 191, none⟩ (.int .i32 1)) p q n 1 (some ⟨b, 0, none⟩) l) := hp1
  have Hw : Hid (WaiterIs w b c none none true) := hw
  have Hc : Hid (BellIs w c false) := hc
  clear hp hp1 hw hc
  go_enter_defers Yba.func6, Yba.ntmps6
  go_wp2_with (go_at_call 11; refine (lock_free Yba.muLib ⟨p, 191, none⟩ _ c0 z0).mono ?_; rintro e w' ⟨rfl, rfl⟩)
  refine (unlink_last p q b c n 1 _ l _ Hp1 hn (WaiterIs.only Hw ((Only.refl (fun k => k = p) w).setCell (p := ⟨p, 191, none⟩) (fun _ => rfl) _) hne) hne).mono ?_
  rintro e w1 ⟨rfl, hp1, hw1, ho1⟩
  have ho : Only (fun k => k = p ∨ k = b) w w1 := (((Only.refl (fun k => k = p ∨ k = b) w).setCell (p := ⟨p, 191, none⟩) (fun _ => .inl rfl) _).trans ho1)
  have hc1 : BellIs w1 c false := BellIs.only Hc ho (by rintro (h | h); exact hcp h; exact hcb h)
  have Hp1 : Hid (PoolIs w1 p q (n - 1) 1 none none) := hp1
  have Hw1 : Hid (WaiterIs w1 b c none none false) := hw1
  have hbell := hw1.bell
  have Hc1 : Hid (BellIs w1 c false) := hc1
  have Ho : Hid (Only (fun k => k = p ∨ k = b) w w1) := ho
  clear hp1 hw1 hc1 ho ho1
  go_wp2_with fail
  refine (ring b c w1 hbell Hc1).mono ?_
  rintro e w2 ⟨rfl, rfl⟩
  have ho2 : Only (fun k => k = c) w1 (w1.setChan c 1 #[.agg #[]] false 1 0 false) := (Only.refl (fun k => k = c) w1).setChan (fun _ => rfl) _ _ _ _ _ _
  have hp2 := PoolIs.only Hp1 ho2 (fun e => hcp e.symm)
  have hw2 := WaiterIs.only Hw1 ho2 (fun e => hcb e.symm)
  have hc2 : BellIs (w1.setChan c 1 #[.agg #[]] false 1 0 false) c true := Go.Conc.heap_setChan w1 c 1 #[.agg #[]] false 1 0 false (Array.getElem?_eq_some_iff.1 Hc1).1
  have ho' : Only (fun k => k = p ∨ k = b ∨ k = c) w (w1.setChan c 1 #[.agg #[]] false 1 0 false) := (Only.mono Ho (fun k _ h => by rcases h with h | h; exact .inl h; exact .inr (.inl h))).andThen ho2 (fun i _ h => .inr (.inr h))
  have Hp2 : Hid (PoolIs (w1.setChan c 1 #[.agg #[]] false 1 0 false) p q (n - 1) 1 none none) := hp2
  have Hw2 : Hid (WaiterIs (w1.setChan c 1 #[.agg #[]] false 1 0 false) b c none none false) := hw2
  have Hc2 : Hid (BellIs (w1.setChan c 1 #[.agg #[]] false 1 0 false) c true) := hc2
  have Ho' : Hid (Only (fun k => k = p ∨ k = b ∨ k = c) w (w1.setChan c 1 #[.agg #[]] false 1 0 false)) := ho'
  generalize w1.setChan c 1 #[.agg #[]] false 1 0 false = w2 at Hp2 Hw2 Hc2 Ho' ⊢
  clear hp2 hw2 hc2 ho' ho2
  go_wp2_with fail
  refine leaves_cons (f := 12) (args := #[.pointer (some ⟨p, 191, none⟩)]) (by simp) (by simp [go_sem]) ?_
  refine (unlock_deferred Yba.muLib ⟨p, 191, none⟩ .returning _ (PoolIs.mu Hp2) (PoolIs.fz Hp2 _)).mono ?_
  rintro e u' w3 ⟨rfl, rfl, rfl⟩
  have ho3 : Only (fun k => k = p) w2 (w2.setCell ⟨p, 191, none⟩ (.int .i32 0)) := (Only.refl (fun k => k = p) w2).setCell (p := ⟨p, 191, none⟩) (fun _ => rfl) _
  exact ⟨_, results_tmp rfl _ _ _, rfl, PoolIs.setMu Hp2 0, WaiterIs.only Hw2 ho3 hne, BellIs.only Hc2 ho3 hcp, Only.andThen Ho' ho3 (fun i _ h => .inl h)⟩
set_option maxRecDepth 100000 in
set_option maxHeartbeats 1000000 in
theorem wake_more (p q b c b2 c2 : Nat) (n : Int) (l nx : Option Addr) (w : World) (hp : PoolIs w p q n 0 (some ⟨b, 0, none⟩) l) (hn : 1 ≤ n ∧ n ≤ 16) (hw : WaiterIs w b c none (some ⟨b2, 0, none⟩) true) (h2 : WaiterIs w b2 c2 (some ⟨b, 0, none⟩) nx true) (hc : BellIs w c false) (hne : b ≠ p) (hcp : c ≠ p) (hcb : c ≠ b) (hne2 : b2 ≠ p) (h12 : b ≠ b2) (hc2 : c ≠ b2) :
    Calls Yba.prog 6 #[.pointer (some ⟨p, 190, none⟩), .bool false] w fun e w' => e = .returned (.bool true) ∧
      PoolIs w' p q (n - 1) 0 (some ⟨b2, 0, none⟩) l ∧ WaiterIs w' b c none none false ∧ WaiterIs w' b2 c2 none nx true ∧ BellIs w' c true ∧ Only (fun k => k = p ∨ k = b ∨ k = b2 ∨ k = c) w w' := by
  have hl := load64 p q hp
  have hn0 : (n == 0) = false := by simp; omega
  have hnz : ¬ n = 0 := by omega
  have hp1 := hp.setMu 1
  have lF := hp1.first
  have c0 := hp.mu
  have z0 := hp.fz 191
  have hpn := ptr_eql_nil
  have Hp1 : Hid (PoolIs (w.setCell ⟨p, 191, none⟩ (.int .i32 1)) p q n 1 (some ⟨b, 0, none⟩) l) := hp1
  have Hw : Hid (WaiterIs w b c none (some ⟨b2, 0, none⟩) true) := hw
  have H2 : Hid (WaiterIs w b2 c2 (some ⟨b, 0, none⟩) nx true) := h2
  have Hc : Hid (BellIs w c false) := hc
  clear hp hp1 hw hc h2
  go_enter_defers Yba.func6, Yba.ntmps6
  go_wp2_with (go_at_call 11; refine (lock_free Yba.muLib ⟨p, 191, none⟩ _ c0 z0).mono ?_; rintro e w' ⟨rfl, rfl⟩)
  refine (unlink_more p q b c b2 c2 n 1 _ l nx _ Hp1 hn (WaiterIs.only Hw ((Only.refl (fun k => k = p) w).setCell (p := ⟨p, 191, none⟩) (fun _ => rfl) _) hne) (WaiterIs.only H2 ((Only.refl (fun k => k = p) w).setCell (p := ⟨p, 191, none⟩) (fun _ => rfl) _) hne2) hne hne2 h12).mono ?_
  rintro e w1 ⟨rfl, hp1, hw1, h21, ho1⟩
  have ho : Only (fun k => k = p ∨ k = b ∨ k = b2) w w1 := (((Only.refl (fun k => k = p ∨ k = b ∨ k = b2) w).setCell (p := ⟨p, 191, none⟩) (fun _ => .inl rfl) _).trans ho1)
  have hc1 : BellIs w1 c false := BellIs.only Hc ho (by rintro (h | h | h); exact hcp h; exact hcb h; exact hc2 h)
  have Hp1 : Hid (PoolIs w1 p q (n - 1) 1 (some ⟨b2, 0, none⟩) l) := hp1
  have H21 : Hid (WaiterIs w1 b2 c2 none nx true) := h21
  have Hw1 : Hid (WaiterIs w1 b c none none false) := hw1
  have hbell := hw1.bell
  have Hc1 : Hid (BellIs w1 c false) := hc1
  have Ho : Hid (Only (fun k => k = p ∨ k = b ∨ k = b2) w w1) := ho
  clear hp1 hw1 hc1 ho ho1 h21
  go_wp2_with fail
  refine (ring b c w1 hbell Hc1).mono ?_
  rintro e w2 ⟨rfl, rfl⟩
  have ho2 : Only (fun k => k = c) w1 (w1.setChan c 1 #[.agg #[]] false 1 0 false) := (Only.refl (fun k => k = c) w1).setChan (fun _ => rfl) _ _ _ _ _ _
  have hp2 := PoolIs.only Hp1 ho2 (fun e => hcp e.symm)
  have hw2 := WaiterIs.only Hw1 ho2 (fun e => hcb e.symm)
  have h22 := WaiterIs.only H21 ho2 (fun e => hc2 e.symm)
  have hcc : BellIs (w1.setChan c 1 #[.agg #[]] false 1 0 false) c true := Go.Conc.heap_setChan w1 c 1 #[.agg #[]] false 1 0 false (Array.getElem?_eq_some_iff.1 Hc1).1
  have ho' : Only (fun k => k = p ∨ k = b ∨ k = b2 ∨ k = c) w (w1.setChan c 1 #[.agg #[]] false 1 0 false) := (Only.mono Ho (fun k _ h => by rcases h with h | h | h; exact .inl h; exact .inr (.inl h); exact .inr (.inr (.inl h)))).andThen ho2 (fun i _ h => .inr (.inr (.inr h)))
  have Hp2 : Hid (PoolIs (w1.setChan c 1 #[.agg #[]] false 1 0 false) p q (n - 1) 1 (some ⟨b2, 0, none⟩) l) := hp2
  have H22 : Hid (WaiterIs (w1.setChan c 1 #[.agg #[]] false 1 0 false) b2 c2 none nx true) := h22
  have Hw2 : Hid (WaiterIs (w1.setChan c 1 #[.agg #[]] false 1 0 false) b c none none false) := hw2
  have Hc2 : Hid (BellIs (w1.setChan c 1 #[.agg #[]] false 1 0 false) c true) := hcc
  have Ho' : Hid (Only (fun k => k = p ∨ k = b ∨ k = b2 ∨ k = c) w (w1.setChan c 1 #[.agg #[]] false 1 0 false)) := ho'
  generalize w1.setChan c 1 #[.agg #[]] false 1 0 false = w2 at Hp2 Hw2 Hc2 Ho' H22 ⊢
  clear hp2 hw2 hcc ho' ho2 h22
  go_wp2_with fail
  refine leaves_cons (f := 12) (args := #[.pointer (some ⟨p, 191, none⟩)]) (by simp) (by simp [go_sem]) ?_
  refine (unlock_deferred Yba.muLib ⟨p, 191, none⟩ .returning _ (PoolIs.mu Hp2) (PoolIs.fz Hp2 _)).mono ?_
  rintro e u' w3 ⟨rfl, rfl, rfl⟩
  have ho3 : Only (fun k => k = p) w2 (w2.setCell ⟨p, 191, none⟩ (.int .i32 0)) := (Only.refl (fun k => k = p) w2).setCell (p := ⟨p, 191, none⟩) (fun _ => rfl) _
  exact ⟨_, results_tmp rfl _ _ _, rfl, PoolIs.setMu Hp2 0, WaiterIs.only Hw2 ho3 hne, WaiterIs.only H22 ho3 hne2, BellIs.only Hc2 ho3 hcp, Only.andThen Ho' ho3 (fun i _ h => .inl h)⟩
end Go.Proofs.Ybulkckze
