import Derived.Test.YbulkcktuHeap
import Derived.Test.YbulkcktuChecked
import Derived.WalkKit
import Derived.WalkSpells
import Derived.WalkSmall
import Derived.OwnWalk
import Derived.Outline
import Derived.RegionTactic
import Derived.Lib.Builder
namespace Go.Proofs.Ybulkcktu
open Go Go.RowKit

/-! ### Pointers held against one another -/
theorem size38 : (Yba.prog.info? 38).map (·.size) = some 4 := by kernel_rfl
theorem size44 : (Yba.prog.info? 44).map (·.size) = some 5 := by kernel_rfl
theorem info_size {P : Program} {t : TypeId} {n : Nat} (h : (P.info? t).map (·.size) = some n) : ∃ j, P.info? t = some j ∧ j.size = n := by
  obtain ⟨j, hj, e⟩ := Option.map_eq_some_iff.1 h
  exact ⟨j, hj, e⟩
theorem run_neq_ptr_other {P : Program} (w : World) {tp te : TypeId} {j : TypeInfo} {a b : Addr} {ca cb : Array Value} {ta tb : TypeId} (hp : P.underlying tp = some (.pointer te)) (hte : P.info? te = some j) (hsz : j.size ≠ 0)
    (hne : a ≠ b) (ha : w.heap[a.block]? = some (.cells ca ta (0, 0))) (hb : w.heap[b.block]? = some (.cells cb tb (0, 0))) :
    (binOp .neq tp (.pointer (some a)) (.pointer (some b))).run P w = .ok (.bool true) w := by
  have h : ∀ d : Nat, (Op.equalIn (d + 1) tp (.pointer (some a)) (.pointer (some b))).run P w = .ok false w := fun d => by
    simp [Op.equalIn, run_underlying hp, sizeOf, typeInfo, hte, hsz, run_sameAddr_other w hne ha hb]
  simp only [binOp]
  simp [Op.equal, Op.maxDepth, h 9999]
theorem elem_neq (w : World) {b c : Nat} {ca cb : Array Value} {ta tb : TypeId} (hne : b ≠ c) (ha : w.heap[b]? = some (.cells ca ta (0, 0))) (hb : w.heap[c]? = some (.cells cb tb (0, 0))) :
    (binOp .neq 29 (.pointer (some ⟨b, 0, none⟩)) (.pointer (some ⟨c, 0, none⟩))).run Yba.prog w = .ok (.bool true) w := by
  obtain ⟨j, hj, hs⟩ := info_size size38
  exact run_neq_ptr_other w Yba.underlying29 hj (by omega) (by intro e; cases e; exact hne rfl) ha hb
theorem elem_neq_same (w : World) (b : Nat) : (binOp .neq 29 (.pointer (some ⟨b, 0, none⟩)) (.pointer (some ⟨b, 0, none⟩))).run Yba.prog w = .ok (.bool false) w := by
  obtain ⟨j, hj, hs⟩ := info_size size38
  exact Lib.run_neq_ptr_same w _ Yba.underlying29 hj
theorem list_eql_same (w : World) (b : Nat) : (binOp .eql 31 (.pointer (some ⟨b, 0, none⟩)) (.pointer (some ⟨b, 0, none⟩))).run Yba.prog w = .ok (.bool true) w := by
  obtain ⟨j, hj, hs⟩ := info_size size44
  exact run_eql_ptr_same w _ Yba.underlying31 hj
theorem list_eql_other (w : World) {b c : Nat} {ca cb : Array Value} {ta tb : TypeId} (hne : b ≠ c) (ha : w.heap[b]? = some (.cells ca ta (0, 0))) (hb : w.heap[c]? = some (.cells cb tb (0, 0))) :
    (binOp .eql 31 (.pointer (some ⟨b, 0, none⟩)) (.pointer (some ⟨c, 0, none⟩))).run Yba.prog w = .ok (.bool false) w := by
  obtain ⟨j, hj, hs⟩ := info_size size44
  exact run_eql_ptr_other w Yba.underlying31 hj (by omega) (by intro e; cases e; exact hne rfl) ha hb
theorem list_neq_same (w : World) (b : Nat) : (binOp .neq 31 (.pointer (some ⟨b, 0, none⟩)) (.pointer (some ⟨b, 0, none⟩))).run Yba.prog w = .ok (.bool false) w := by
  obtain ⟨j, hj, hs⟩ := info_size size44
  exact Lib.run_neq_ptr_same w _ Yba.underlying31 hj

set_option maxHeartbeats 1000000 in
/-- list.New(). -/
theorem new_any (w : World) : Calls Yba.prog 6 #[] w fun e w' => e = .returned (.pointer (some ⟨w.heap.size, 0, none⟩)) ∧ IsL w' w.heap.size [] [] ∧ w' = w.alloc (.cells #[.pointer (some ⟨w.heap.size, 0, none⟩), .pointer (some ⟨w.heap.size, 0, none⟩), .pointer none, .nilIface, .int .i64 0] 44) := by
  go_enter Yba.func6, Yba.ntmps6
  go_wp2
  go_ret
  refine ⟨rfl, ⟨rfl, World.alloc_heap_new _ _, fun i hi => by simp at hi, List.nodup_nil⟩, rfl⟩

set_option maxHeartbeats 1000000 in
/-- (*List).insert at the ring's end, the list empty. -/
theorem insert_empty (e Bl : Nat) (x : Value) (w : World) (hx : ∃ v, x = .iface 3 (.int .i64 v)) (hne : e ≠ Bl)
    (he : w.heap[e]? = some (.cells #[.pointer none, .pointer none, .pointer none, x] 38 (0, 0))) (hl : LRoot w Bl Bl Bl 0) :
    Calls Yba.prog 20 #[.pointer (some ⟨Bl, 0, none⟩), .pointer (some ⟨e, 0, none⟩), .pointer (some ⟨Bl, 0, none⟩)] w fun r w' => r = .returned (.pointer (some ⟨e, 0, none⟩)) ∧
      LRoot w' Bl e e 1 ∧ w'.heap[e]? = some (.cells #[.pointer (some ⟨Bl, 0, none⟩), .pointer (some ⟨Bl, 0, none⟩), .pointer (some ⟨Bl, 0, none⟩), x] 38 (0, 0)) ∧ Only (fun k => k = Bl ∨ k = e) w w' := by
  obtain ⟨v, rfl⟩ := hx
  have e0 := cell_of he (i := 0) rfl
  have e1 := cell_of he (i := 1) rfl
  have e2 := cell_of he (i := 2) rfl
  have f0 := frozen_of he 0
  have f1 := frozen_of he 1
  have f2 := frozen_of he 2
  have l0 := cell_of hl (i := 0) rfl
  have l1 := cell_of hl (i := 1) rfl
  have l4 := cell_of hl (i := 4) rfl
  have g0 := frozen_of hl 0
  have g1 := frozen_of hl 1
  have g4 := frozen_of hl 4
  go_enter Yba.func20, Yba.ntmps20
  go_wp2
  go_ret
  have hne' : Bl ≠ e := fun h => hne h.symm
  refine ⟨rfl, ?_, ?_, ?_⟩
  · exact heap_set (heap_set_other (heap_set (heap_set (heap_set_other (heap_set_other hl hne' _ _) hne' _ _) _ _) _ _) hne' _ _) _ _
  · exact heap_set_other (heap_set (heap_set_other (heap_set_other (heap_set (heap_set he _ _) _ _) hne _ _) hne _ _) _ _) hne _ _
  · exact ((((((Only.refl _ w).setCell (fun _ => .inr rfl) _).setCell (fun _ => .inr rfl) _).setCell (fun _ => .inl rfl) _).setCell (fun _ => .inl rfl) _).setCell (fun _ => .inr rfl) _).setCell (fun _ => .inl rfl) _

set_option maxHeartbeats 1000000 in
/-- (*List).insert at the ring's end, behind the element at block a. -/
theorem insert_last (e Bl a f pa n : Nat) (va : Int) (x : Value) (w : World) (hx : ∃ v, x = .iface 3 (.int .i64 v)) (hne : e ≠ Bl) (hna : e ≠ a) (hab : a ≠ Bl) (hn : n ≤ 1000)
    (he : w.heap[e]? = some (.cells #[.pointer none, .pointer none, .pointer none, x] 38 (0, 0))) (hl : LRoot w Bl f a n) (ha : LNode w a Bl pa Bl va) :
    Calls Yba.prog 20 #[.pointer (some ⟨Bl, 0, none⟩), .pointer (some ⟨e, 0, none⟩), .pointer (some ⟨a, 0, none⟩)] w fun r w' => r = .returned (.pointer (some ⟨e, 0, none⟩)) ∧
      LRoot w' Bl f e (n + 1) ∧ LNode w' a e pa Bl va ∧ w'.heap[e]? = some (.cells #[.pointer (some ⟨Bl, 0, none⟩), .pointer (some ⟨a, 0, none⟩), .pointer (some ⟨Bl, 0, none⟩), x] 38 (0, 0)) ∧ Only (fun k => k = Bl ∨ k = e ∨ k = a) w w' := by
  obtain ⟨v, rfl⟩ := hx
  have e0 := cell_of he (i := 0) rfl
  have e1 := cell_of he (i := 1) rfl
  have e2 := cell_of he (i := 2) rfl
  have f0 := frozen_of he 0
  have f1 := frozen_of he 1
  have f2 := frozen_of he 2
  have l0 := cell_of hl (i := 0) rfl
  have l1 := cell_of hl (i := 1) rfl
  have l4 := cell_of hl (i := 4) rfl
  have g0 := frozen_of hl 0
  have g1 := frozen_of hl 1
  have g4 := frozen_of hl 4
  have a0 := cell_of ha (i := 0) rfl
  have h0 := frozen_of ha 0
  go_enter Yba.func20, Yba.ntmps20
  go_wp2
  go_ret
  have hne' : Bl ≠ e := fun h => hne h.symm
  have hna' : a ≠ e := fun h => hna h.symm
  have hab' : Bl ≠ a := fun h => hab h.symm
  refine ⟨rfl, ?_, ?_, ?_, ?_⟩
  · exact heap_set (heap_set_other (heap_set (heap_set_other (heap_set_other (heap_set_other hl hne' _ _) hne' _ _) hab' _ _) _ _) hne' _ _) _ _
  · exact heap_set_other (heap_set_other (heap_set_other (heap_set (heap_set_other (heap_set_other ha hna' _ _) hna' _ _) _ _) hab _ _) hna' _ _) hab _ _
  · exact heap_set_other (heap_set (heap_set_other (heap_set_other (heap_set (heap_set he _ _) _ _) hna _ _) hne _ _) _ _) hne _ _
  · exact ((((((Only.refl _ w).setCell (fun _ => .inr (.inl rfl)) _).setCell (fun _ => .inr (.inl rfl)) _).setCell (fun _ => .inr (.inr rfl)) _).setCell (fun _ => .inl rfl) _).setCell (fun _ => .inr (.inl rfl)) _).setCell (fun _ => .inl rfl) _

theorem IsL.alloc {W : World} {Bl : Nat} {bs : List Nat} {vs : List Int} (h : IsL W Bl bs vs) (o : Obj) : IsL (W.alloc o) Bl bs vs :=
  h.only (S := fun _ => False) ((Only.refl _ W).alloc o) (fun h => h) (fun _ _ h => h)

/-- The list with one element more at its end, out of the turned blocks. -/
theorem IsL.pushed_first {W W' : World} {Bl e : Nat} {v : Int} (_h : IsL W Bl [] []) (hr : LRoot W' Bl e e 1) (he : LNode W' e Bl Bl Bl v) : IsL W' Bl [e] [v] :=
  ⟨rfl, hr, fun i hi => by obtain rfl : i = 0 := by simpa using hi
                           exact he, by simp⟩

theorem IsL.pushed {W W' : World} {Bl e a : Nat} {bs : List Nat} {vs : List Int} {v : Int} (h : IsL W Bl bs vs) (hn : bs.length ≠ 0) (ha : bs[bs.length - 1]?.getD 0 = a) (hne : e ∉ bs)
    (hr : LRoot W' Bl (bs[0]?.getD Bl) e (bs.length + 1)) (hna : LNode W' a e ((Bl :: bs)[bs.length - 1]?.getD 0) Bl (vs[bs.length - 1]?.getD 0)) (he : LNode W' e Bl a Bl v)
    (ho : Only (fun k => k = Bl ∨ k = e ∨ k = a) W W') : IsL W' Bl (bs ++ [e]) (vs ++ [v]) := by
  have hlen := h.len
  refine ⟨by simp [h.len], ?_, fun i hi => ?_, ?_⟩
  · have e1 : (bs ++ [e])[0]?.getD Bl = bs[0]?.getD Bl := by rw [List.getElem?_append_left (by omega)]
    have e2 : (Bl :: (bs ++ [e]))[(bs ++ [e]).length]?.getD Bl = e := by simp
    rw [e1, e2]
    simpa using hr
  · simp at hi
    by_cases h1 : i = bs.length
    · subst h1
      have e1 : (bs ++ [e])[bs.length]?.getD 0 = e := by simp
      have e2 : (bs ++ [e])[bs.length + 1]?.getD Bl = Bl := by rw [List.getElem?_eq_none (by simp)]; rfl
      have e3 : (Bl :: (bs ++ [e]))[bs.length]?.getD 0 = a := by
        obtain ⟨m, hm⟩ : ∃ m, bs.length = m + 1 := ⟨bs.length - 1, by omega⟩
        rw [hm, List.getElem?_cons_succ, List.getElem?_append_left (by omega), ← ha, hm]; rfl
      have e4 : (vs ++ [v])[bs.length]?.getD 0 = v := by rw [hlen]; simp
      rw [e1, e2, e3, e4]
      exact he
    · by_cases h2 : i = bs.length - 1
      · subst h2
        have e1 : (bs ++ [e])[bs.length - 1]?.getD 0 = a := by rw [List.getElem?_append_left (by omega)]; exact ha
        have e2 : (bs ++ [e])[bs.length - 1 + 1]?.getD Bl = e := by rw [show bs.length - 1 + 1 = bs.length by omega]; simp
        have e3 : (Bl :: (bs ++ [e]))[bs.length - 1]?.getD 0 = (Bl :: bs)[bs.length - 1]?.getD 0 := by
          rw [← List.cons_append, List.getElem?_append_left (by simp; omega)]
        have e4 : (vs ++ [v])[bs.length - 1]?.getD 0 = vs[bs.length - 1]?.getD 0 := by rw [List.getElem?_append_left (by omega)]
        rw [e1, e2, e3, e4]
        exact hna
      · have hlt : i < bs.length := by omega
        have e1 : (bs ++ [e])[i]?.getD 0 = bs[i]?.getD 0 := by rw [List.getElem?_append_left hlt]
        have e2 : (bs ++ [e])[i + 1]?.getD Bl = bs[i + 1]?.getD Bl := by rw [List.getElem?_append_left (by omega)]
        have e3 : (Bl :: (bs ++ [e]))[i]?.getD 0 = (Bl :: bs)[i]?.getD 0 := by
          rw [← List.cons_append, List.getElem?_append_left (by simp; omega)]
        have e4 : (vs ++ [v])[i]?.getD 0 = vs[i]?.getD 0 := by rw [List.getElem?_append_left (by omega)]
        rw [e1, e2, e3, e4]
        refine ho.at (h.node i hlt) ?_
        have hm : bs[i]?.getD 0 ∈ bs := by rw [List.getElem?_eq_getElem hlt]; simp
        rintro (h3 | h3 | h3)
        · exact h.ne hm h3
        · exact hne (h3 ▸ hm)
        · rw [List.getElem?_eq_getElem hlt] at h3
          rw [List.getElem?_eq_getElem (by omega)] at ha
          simp at h3 ha
          rw [← ha] at h3
          exact h2 ((List.getElem_inj h.nodup).1 h3)
  · rw [List.nodup_append]
    exact ⟨h.nodup, by simp, by simp; intro x hx e1; exact hne (e1 ▸ hx)⟩

set_option maxHeartbeats 1000000 in
/-- (*List).lazyInit on a list that is laid. -/
theorem lazy_any (Bl f : Nat) (w : World) (hl : w.cell? ⟨Bl, 0, none⟩ = some (.pointer (some ⟨f, 0, none⟩))) :
    Calls Yba.prog 14 #[.pointer (some ⟨Bl, 0, none⟩)] w fun r w' => (∃ v, r = .returned v) ∧ w' = w := by
  go_enter Yba.func14, Yba.ntmps14
  go_wp2
  go_end0
  exact ⟨⟨_, rfl⟩, rfl⟩

set_option maxHeartbeats 1000000 in
/-- (*List).PushBack. -/
theorem push_any (Bl : Nat) (bs : List Nat) (vs : List Int) (v : Int) (w : World) (h : IsL w Bl bs vs) (hn : bs.length ≤ 1000) :
    Calls Yba.prog 7 #[.pointer (some ⟨Bl, 0, none⟩), .iface 3 (.int .i64 v)] w fun r w' => r = .returned (.pointer (some ⟨w.heap.size, 0, none⟩)) ∧ IsL w' Bl (bs ++ [w.heap.size]) (vs ++ [v]) ∧ Only (Mine Bl bs) w w' := by
  have hlt := h.lt
  have l0 := cell_of h.root (i := 0) rfl
  have l1 := cell_of h.root (i := 1) rfl
  simp only [List.getElem_toArray, List.getElem_cons_zero, List.getElem_cons_succ] at l0 l1
  have hnew : (w.alloc (.cells #[.pointer none, .pointer none, .pointer none, .iface 3 (.int .i64 v)] 38)).heap[w.heap.size]? = some (.cells #[.pointer none, .pointer none, .pointer none, .iface 3 (.int .i64 v)] 38 (0, 0)) := World.alloc_heap_new _ _
  have hX := h.alloc (.cells #[.pointer none, .pointer none, .pointer none, .iface 3 (.int .i64 v)] 38)
  have hoX := (Only.refl (Mine Bl bs) w).alloc (.cells #[.pointer none, .pointer none, .pointer none, .iface 3 (.int .i64 v)] 38)
  by_cases h0 : bs.length = 0
  · obtain rfl := List.length_eq_zero_iff.1 h0
    obtain rfl : vs = [] := List.length_eq_zero_iff.1 (by rw [← h.len]; rfl)
    simp at l0 l1
    have Hh : Hid (IsL w Bl [] []) := h
    have HX : Hid (IsL (w.alloc (.cells #[.pointer none, .pointer none, .pointer none, .iface 3 (.int .i64 v)] 38)) Bl [] []) := hX
    have Hnew := hnew
    clear h hX hnew
    go_enter Yba.func7, Yba.ntmps7
    go_wp2_with (first | (go_at_call 14; go_must (refine (lazy_any Bl Bl _ l0).mono ?_); rintro e w1 ⟨⟨u, rfl⟩, rfl⟩) | (go_at_call 15; go_in))
    go_wp2_with fail
    refine (insert_empty w1.heap.size Bl _ _ ⟨v, rfl⟩ (by omega) Hnew HX.out.root).mono ?_
    rintro e w2 ⟨rfl, hr, he, ho⟩
    go_wp2
    go_ret
    exact ⟨rfl, IsL.pushed_first Hh.out hr he, hoX.andThen ho (fun i hi h => by rcases h with rfl | rfl <;> first | exact .inl rfl | omega)⟩
  · obtain ⟨a, ha⟩ : ∃ a, bs[bs.length - 1]?.getD 0 = a := ⟨_, rfl⟩
    have hlast : (Bl :: bs)[bs.length]?.getD Bl = a := by
      obtain ⟨m, hm⟩ : ∃ m, bs.length = m + 1 := ⟨bs.length - 1, by omega⟩
      rw [hm, List.getElem?_cons_succ, ← ha, hm, Nat.add_sub_cancel, List.getElem?_eq_getElem (by omega)]
      rfl
    have hma : a ∈ bs := by rw [← ha, List.getElem?_eq_getElem (by omega)]; simp
    have hnode := hX.node (bs.length - 1) (by omega)
    have hbl : bs[bs.length - 1 + 1]?.getD Bl = Bl := by rw [List.getElem?_eq_none (by omega)]; rfl
    rw [ha, hbl] at hnode
    have hroot := hX.root
    rw [hlast] at l1 hroot
    have hea : w.heap.size ≠ a := by have := h.lts hma; omega
    have heb : w.heap.size ∉ bs := fun hm => by have := h.lts hm; omega
    have hab := h.ne hma
    obtain ⟨f, hf⟩ : ∃ f, bs[0]?.getD Bl = f := ⟨_, rfl⟩
    rw [hf] at l0
    have HX : Hid (IsL (w.alloc (.cells #[.pointer none, .pointer none, .pointer none, .iface 3 (.int .i64 v)] 38)) Bl bs vs) := hX
    have Hf : Hid (bs[0]?.getD Bl = f) := hf
    have Ha : Hid (bs[bs.length - 1]?.getD 0 = a) := ha
    clear h hX hlast hbl hf ha
    go_enter Yba.func7, Yba.ntmps7
    go_wp2_with (first | (go_at_call 14; go_must (refine (lazy_any Bl f _ l0).mono ?_); rintro e w1 ⟨⟨u, rfl⟩, rfl⟩) | (go_at_call 15; go_in))
    go_wp2_with fail
    refine (insert_last w1.heap.size Bl a _ _ bs.length _ _ _ ⟨v, rfl⟩ (by omega) hea hab hn hnew hroot hnode).mono ?_
    rintro e w2 ⟨rfl, hr, hna, he, ho⟩
    go_wp2
    go_ret
    refine ⟨rfl, HX.out.pushed h0 Ha.out heb hr hna he ho, hoX.andThen ho (fun i hi h => ?_)⟩
    rcases h with h | h | h
    · exact .inl h
    · omega
    · exact .inr (h ▸ hma)

set_option maxHeartbeats 1000000 in
/-- (*List).Len. -/
theorem len_any (Bl : Nat) (bs : List Nat) (vs : List Int) (w : World) (h : IsL w Bl bs vs) :
    Calls Yba.prog 18 #[.pointer (some ⟨Bl, 0, none⟩)] w fun r w' => r = .returned (.int .i64 bs.length) ∧ w' = w := by
  have l4 := cell_of h.root (i := 4) rfl
  go_enter Yba.func18, Yba.ntmps18
  go_wp2
  go_ret
  exact ⟨rfl, rfl⟩

/-- The element at place i, as a pointer; nil behind the last. -/
def ptrAt (bs : List Nat) (i : Nat) : Option Addr := bs[i]?.map fun b => ⟨b, 0, none⟩

set_option maxHeartbeats 1000000 in
/-- (*List).Front. -/
theorem front_any (Bl : Nat) (bs : List Nat) (vs : List Int) (w : World) (h : IsL w Bl bs vs) :
    Calls Yba.prog 16 #[.pointer (some ⟨Bl, 0, none⟩)] w fun r w' => r = .returned (.pointer (ptrAt bs 0)) ∧ w' = w := by
  have l4 := cell_of h.root (i := 4) rfl
  have l0 := cell_of h.root (i := 0) rfl
  simp only [List.getElem_toArray, List.getElem_cons_zero, List.getElem_cons_succ] at l0 l4
  cases bs with
  | nil =>
    simp at l0 l4
    go_enter Yba.func16, Yba.ntmps16
    go_wp2
    go_ret
    exact ⟨rfl, rfl⟩
  | cons b bs =>
    simp at l0 l4
    have hnz : ¬ ((bs.length : Int) + 1 = 0) := by omega
    go_enter Yba.func16, Yba.ntmps16
    go_wp2
    go_ret
    exact ⟨rfl, rfl⟩

set_option maxHeartbeats 1000000 in
/-- (*Element).Next. -/
theorem next_any (Bl : Nat) (bs : List Nat) (vs : List Int) (i : Nat) (w : World) (h : IsL w Bl bs vs) (hi : i < bs.length) :
    Calls Yba.prog 10 #[.pointer (ptrAt bs i)] w fun r w' => r = .returned (.pointer (ptrAt bs (i + 1))) ∧ w' = w := by
  have hn := h.node i hi
  have e1 : ptrAt bs i = some ⟨bs[i]?.getD 0, 0, none⟩ := by simp [ptrAt, hi]
  have hmem : ∀ j b, bs[j]? = some b → b ≠ Bl := fun j b hb => h.ne (List.mem_of_getElem? hb)
  rw [e1]
  obtain ⟨b, hb⟩ : ∃ b, bs[i]?.getD 0 = b := ⟨_, rfl⟩
  rw [hb] at hn ⊢
  have n0 := cell_of hn (i := 0) rfl
  have n2 := cell_of hn (i := 2) rfl
  simp only [List.getElem_toArray, List.getElem_cons_zero, List.getElem_cons_succ] at n0 n2
  clear hn
  by_cases h1 : i + 1 < bs.length
  · obtain ⟨c, hc⟩ : ∃ c, bs[i + 1]? = some c := ⟨_, List.getElem?_eq_getElem h1⟩
    have hcb := hmem _ _ hc
    obtain ⟨n', p', v', hcn⟩ := h.at (List.mem_of_getElem? hc)
    have hq := elem_neq w hcb hcn h.root
    clear hcn
    have e2 : ptrAt bs (i + 1) = some ⟨c, 0, none⟩ := by simp [ptrAt, hc]
    rw [e2]
    rw [hc] at n0
    simp only [Option.getD_some] at n0
    clear e2 hc hmem e1 hb h
    go_enter Yba.func10, Yba.ntmps10
    go_wp2
    go_ret
    exact ⟨rfl, rfl⟩
  · have hc : bs[i + 1]? = none := List.getElem?_eq_none (by omega)
    have e2 : ptrAt bs (i + 1) = none := by simp [ptrAt, hc]
    have hq := elem_neq_same w Bl
    rw [e2]
    rw [hc] at n0
    simp only [Option.getD_none] at n0
    clear e2 hc hmem e1 hb h
    go_enter Yba.func10, Yba.ntmps10
    go_wp2
    go_ret
    exact ⟨rfl, rfl⟩
end Go.Proofs.Ybulkcktu
