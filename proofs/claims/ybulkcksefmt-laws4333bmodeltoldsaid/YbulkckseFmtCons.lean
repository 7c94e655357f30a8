import Derived.Test.YbulkckseFmtStep
import Derived.Laws.AppendOwn
import Derived.OwnWalk
namespace Go.Proofs.YbulkckseFmt
open Go Go.RowKit Go.Maps Go.Stop

theorem info31 : (Ybaf.prog.info? 31).map (fun i => (i.zero, i.size, i.bytes)) = some (some zeroRec, 5, 64) := by kernel_rfl
theorem info25 : (Ybaf.prog.info? 25).map (fun i => (i.zero, i.size, i.bytes)) = some (some .nilIface, 1, 16) := by kernel_rfl

/-- The five cells of a record. -/
def cells5 (nr ln : Int) (text : ByteArray) (p : Option Addr) (vs : Value) : List Value := [.int .i64 nr, .int .i64 ln, .string text, .pointer p, vs]

/-- What the consumer holds. -/
structure Got (base bS bL bR bE : Nat) (rs es : List Value) (k : Nat) (stp : Bool) (W : World) : Prop where
  S : Boxed W bS 4 (.bool stp)
  L : Boxed W bL 4 (.bool false)
  R : ∃ v, Boxed W bR 27 v ∧ W.ownsRow base 31 5 v k rs
  E : ∃ v, Boxed W bE 39 v ∧ W.ownsRow base 25 1 v k es

/-- A row that the consumer may write. -/
def RowAt (base : Nat) (W : World) (b : Nat) : Prop := base ≤ b ∧ ∃ cs t, (t = 31 ∨ t = 25) ∧ W.heap[b]? = some (.cells cs t (0, 0))

/-- What the consumer may write. -/
def ConsAt (base bS bR bE : Nat) (W : World) (b : Nat) : Prop := b = bS ∨ b = bR ∨ b = bE ∨ RowAt base W b

theorem rowAt_of {base : Nat} {W : World} {e : TypeId} {size k : Nat} {v : Value} {xs : List Value} (he : e = 31 ∨ e = 25) (h : W.ownsRow base e size v k xs) : ∀ j, v.ownBlock = some j → RowAt base W j := by
  intro j hj
  rcases h.2 with ⟨rfl, _⟩ | ⟨g, cap, cur, rfl, hb, hg, _⟩
  · simp [Value.ownBlock] at hj
  · simp [Value.ownBlock] at hj
    subst hj
    exact ⟨hb, cur, e, he, hg⟩

theorem ownsRow_only {base : Nat} {S : Nat → Prop} {W W' : World} {e : TypeId} {size k : Nat} {v : Value} {xs : List Value} (h : W.ownsRow base e size v k xs) (ho : Only S W W') (hS : ∀ j, v.ownBlock = some j → ¬ S j) : W'.ownsRow base e size v k xs := by
  refine ⟨h.1, ?_⟩
  rcases h.2 with hn | ⟨g, cap, cur, rfl, hb, hgg, rest⟩
  · exact .inl hn
  · exact .inr ⟨g, cap, cur, rfl, hb, ho.at hgg (hS g rfl), rest⟩

theorem rows_apart {base k k' : Nat} {W : World} {v v' : Value} {xs ys : List Value} (h : W.ownsRow base 31 5 v k xs) (h' : W.ownsRow base 25 1 v' k' ys) : v.ownBlock = none ∨ v.ownBlock ≠ v'.ownBlock := by
  rcases h.2 with ⟨rfl, _⟩ | ⟨g, cap, cur, rfl, hb, hgg, rest⟩
  · exact .inl rfl
  · right
    rcases h'.2 with ⟨rfl, _⟩ | ⟨g', cap', cur', rfl, hb', hgg', rest'⟩
    · simp [Value.ownBlock]
    · simp only [Value.ownBlock, ne_eq, Option.some.injEq]
      rintro rfl
      rw [hgg] at hgg'
      simp at hgg'

theorem Got.only {base bS bL bR bE k : Nat} {rs es : List Value} {stp : Bool} {S : Nat → Prop} {W W' : World} (h : Got base bS bL bR bE rs es k stp W) (ho : Only S W W')
    (h1 : ¬ S bS) (h2 : ¬ S bL) (h3 : ¬ S bR) (h4 : ¬ S bE) (hr : ∀ b, RowAt base W b → ¬ S b) : Got base bS bL bR bE rs es k stp W' := by
  obtain ⟨v, hv, hrow⟩ := h.R
  obtain ⟨u, hu, hrow'⟩ := h.E
  exact ⟨ho.at h.S h1, ho.at h.L h2, ⟨v, ho.at hv h3, ownsRow_only hrow ho fun j hj => hr j (rowAt_of (.inl rfl) hrow j hj)⟩, ⟨u, ho.at hu h4, ownsRow_only hrow' ho fun j hj => hr j (rowAt_of (.inr rfl) hrow' j hj)⟩⟩

theorem ownsRow_len {base e size k : Nat} {W : World} {v : Value} {xs : List Value} (h : W.ownsRow base e size v (k + 1) xs) : ∃ g cap, v = .slice (some ⟨g, 0, none⟩) (k + 1) cap ∧ base ≤ g := by
  rcases h.2 with ⟨_, h0⟩ | ⟨g, cap, cur, rfl, hb, _⟩
  · omega
  · exact ⟨g, cap, rfl, hb⟩

theorem five_new (w : World) (a b c d e : Value) (t : TypeId) : ∀ j u, [a, b, c, d, e][j]? = some u → (w.alloc (.cells #[a, b, c, d, e] t)).cell? ((⟨w.heap.size, 0, none⟩ : Addr).add j) = some u := by
  intro j u h
  have hadd : (⟨w.heap.size, 0, none⟩ : Addr).add j = ⟨w.heap.size, j, none⟩ := by unfold Addr.add; split <;> simp_all
  rw [hadd]
  exact cell_of (World.alloc_heap_new _ _) (by simpa using h)

def isNilIface : Value → Bool
  | .nilIface => true
  | _ => false


theorem ownsRow_set {base e size k b : Nat} {W : World} {v : Value} {xs : List Value} (h : W.ownsRow base e size v k xs) (hb : b < base) (x : Value) : (W.setCell ⟨b, 0, none⟩ x).ownsRow base e size v k xs :=
  ownsRow_only (S := fun j => j = b) h (Only.setCell (S := fun j => j = b) (Only.refl _ W) (p := ⟨b, 0, none⟩) (fun _ => rfl) x) (fun j hj e => by have := (h.lt j hj).1; subst e; omega)

theorem boxed_other {W : World} {B c : Nat} {t : TypeId} {v : Value} (h : Boxed W B t v) (hne : B ≠ c) (x : Value) : Boxed (W.setCell ⟨c, 0, none⟩ x) B t v := heap_set_other h hne 0 x

theorem sz_set (W : World) (p : Addr) (x : Value) : (W.setCell p x).heap.size = W.heap.size := by simp [World.setCell]

/-- Behind the first append. -/
theorem got_recs {base bS bL bR bE bM k k' : Nat} {rs rs' es : List Value} {W w1 : World} {v u v' m : Value} {stp : Bool} {o1 o2 : Obj}
    (hS0 : Boxed W bS 4 (.bool stp)) (hL0 : Boxed W bL 4 (.bool false)) (hv : Boxed W bR 27 v) (hrow : W.ownsRow base 31 5 v k rs) (hu : Boxed W bE 39 u) (hrow' : W.ownsRow base 25 1 u k es) (hM : Boxed W bM 3 m)
    (hR : bR < base) (hown : w1.ownsRow base 31 5 v' k' rs') (hg : ((W.alloc o1).alloc o2).grownBy w1 v.ownBlock) :
    Boxed w1 bR 27 v ∧ Boxed (w1.setCell ⟨bR, 0, none⟩ v') bR 27 v' ∧ Boxed (w1.setCell ⟨bR, 0, none⟩ v') bS 4 (.bool stp) ∧ Boxed (w1.setCell ⟨bR, 0, none⟩ v') bL 4 (.bool false) ∧ Boxed (w1.setCell ⟨bR, 0, none⟩ v') bE 39 u ∧ Boxed (w1.setCell ⟨bR, 0, none⟩ v') bM 3 m ∧
    (w1.setCell ⟨bR, 0, none⟩ v').ownsRow base 31 5 v' k' rs' ∧ (w1.setCell ⟨bR, 0, none⟩ v').ownsRow base 25 1 u k es ∧ Only (ConsAt base bS bR bE W) W (w1.setCell ⟨bR, 0, none⟩ v') := by
  have apart : ∀ {b : Nat} {t : TypeId} {x : Value}, Boxed W b t x → t ≠ 27 → b ≠ bR := by
    intro b t x h ht e
    subst e
    rw [Boxed] at h hv
    rw [h] at hv
    simp at hv
    exact ht hv.2
  have kb : ∀ {b : Nat} {t : TypeId} {x : Value}, Boxed W b t x → t ≠ 31 → Boxed w1 b t x := fun h ht => ((h.alloc _).alloc _).kept hg (h.not_row ht hrow)
  have hv1 := kb hv (by decide)
  have hrow1 : w1.ownsRow base 25 1 u k es := ((hrow'.alloc _).alloc _).kept hg (by
    rcases rows_apart hrow hrow' with h | h
    · rw [h]; cases u.ownBlock <;> simp
    · exact .inr (Ne.symm h))
  refine ⟨hv1, hv1.set _, boxed_other (kb hS0 (by decide)) (apart hS0 (by decide)) _, boxed_other (kb hL0 (by decide)) (apart hL0 (by decide)) _, boxed_other (kb hu (by decide)) (apart hu (by decide)) _, boxed_other (kb hM (by decide)) (apart hM (by decide)) _, ownsRow_set hown hR _, ownsRow_set hrow1 hR _, ?_⟩
  exact ((((Only.refl _ W).alloc _).alloc _).grown hg (fun j hj _ => .inr (.inr (.inr (rowAt_of (.inl rfl) hrow j hj))))).setCell (fun _ => .inr (.inl rfl)) _

theorem RowAt.back {base b : Nat} {S : Nat → Prop} {W W' : World} (h : RowAt base W' b) (ho : Only S W W') (hlt : b < W.heap.size) (hs : ¬ S b) : RowAt base W b := by
  obtain ⟨hb, cs, t, ht, hc⟩ := h
  exact ⟨hb, cs, t, ht, by rw [← ho.block b hlt hs]; exact hc⟩

/-- Behind the second append. -/
theorem got_errs {base bS bL bR bE bM k k' : Nat} {rs es es' : List Value} {W W3 w3 : World} {v u u' m : Value} {stp : Bool} {o : Obj}
    (hS0 : Boxed W3 bS 4 (.bool stp)) (hL0 : Boxed W3 bL 4 (.bool false)) (hv : Boxed W3 bR 27 v) (hrow : W3.ownsRow base 31 5 v k' rs) (hu : Boxed W3 bE 39 u) (hrow' : W3.ownsRow base 25 1 u k es) (hM : Boxed W3 bM 3 m)
    (hE : bE < base) (hown : w3.ownsRow base 25 1 u' k' es') (hg : (W3.alloc o).grownBy w3 u.ownBlock) (hO : Only (ConsAt base bS bR bE W) W W3) :
    Boxed w3 bE 39 u ∧ Boxed (w3.setCell ⟨bE, 0, none⟩ u') bM 3 m ∧ Got base bS bL bR bE rs es' k' stp (w3.setCell ⟨bE, 0, none⟩ u') ∧ Boxed (w3.setCell ⟨bE, 0, none⟩ u') bR 27 v ∧ Only (ConsAt base bS bR bE W) W (w3.setCell ⟨bE, 0, none⟩ u') := by
  have apart : ∀ {b : Nat} {t : TypeId} {x : Value}, Boxed W3 b t x → t ≠ 39 → b ≠ bE := by
    intro b t x h ht e
    subst e
    rw [Boxed] at h hu
    rw [h] at hu
    simp at hu
    exact ht hu.2
  have kb : ∀ {b : Nat} {t : TypeId} {x : Value}, Boxed W3 b t x → t ≠ 25 → Boxed w3 b t x := fun h ht => (h.alloc _).kept hg (h.not_row ht hrow')
  have hu1 := kb hu (by decide)
  have hrow1 : w3.ownsRow base 31 5 v k' rs := (hrow.alloc _).kept hg (rows_apart hrow hrow')
  have bR' := boxed_other (kb hv (by decide)) (apart hv (by decide)) u'
  refine ⟨hu1, boxed_other (kb hM (by decide)) (apart hM (by decide)) _, ⟨boxed_other (kb hS0 (by decide)) (apart hS0 (by decide)) _, boxed_other (kb hL0 (by decide)) (apart hL0 (by decide)) _, ⟨v, bR', ownsRow_set hrow1 hE _⟩, ⟨u', hu1.set _, ownsRow_set hown hE _⟩⟩, bR', ?_⟩
  refine ((hO.alloc _).grown hg (fun j hj hlt => ?_)).setCell (fun _ => .inr (.inr (.inl rfl))) _
  by_cases hs : ConsAt base bS bR bE W j
  · exact hs
  · exact .inr (.inr (.inr ((rowAt_of (.inr rfl) hrow' j hj).back hO hlt hs)))

theorem Got.stop {base bS bL bR bE k : Nat} {rs es : List Value} {stp : Bool} {W : World} (h : Got base bS bL bR bE rs es k stp W) (hS : bS < base) (hSL : bS ≠ bL) : Got base bS bL bR bE rs es k true (W.setCell ⟨bS, 0, none⟩ (.bool true)) := by
  obtain ⟨hs, hl, ⟨v, hv, hr⟩, ⟨u, hu, hr'⟩⟩ := h
  have apart : ∀ {b : Nat} {t : TypeId} {x : Value}, Boxed W b t x → t ≠ 4 → b ≠ bS := by
    intro b t x h ht e
    subst e
    rw [Boxed] at h hs
    rw [h] at hs
    simp at hs
    exact ht hs.2
  exact ⟨hs.set _, boxed_other hl (Ne.symm hSL) _, ⟨v, boxed_other hv (apart hv (by decide)) _, ownsRow_set hr hS _⟩, ⟨u, boxed_other hu (apart hu (by decide)) _, ownsRow_set hr' hS _⟩⟩

set_option maxRecDepth 100000 in
set_option maxHeartbeats 1000000 in
/-- The consumer at a record. -/
theorem cons_nil (base bS bL bR bE bM lim k : Nat) (hk : k ≤ 1024) (_hlim : lim < 8) (rs es : List Value) (nr ln : Int) (text : ByteArray) (p a : Option Addr) (l c : Nat) (W : World)
    (hG : Got base bS bL bR bE rs es k false W) (hM : Boxed W bM 3 (.int .i64 (lim : Nat))) (hbase : base ≤ W.heap.size) (hS : bS < base) (hR : bR < base) (hE : bE < base) (hSL : bS ≠ bL) :
    Calls Ybaf.prog 9 #[recV nr ln text p (.slice a l c), .nilIface, .pointer (some ⟨bS, 0, none⟩), .pointer (some ⟨bL, 0, none⟩), .pointer (some ⟨bR, 0, none⟩), .pointer (some ⟨bE, 0, none⟩), .pointer (some ⟨bM, 0, none⟩)] W
      fun e W' => e = .returned (.bool (!decide (0 < lim ∧ k + 1 = lim))) ∧ Got base bS bL bR bE (rs ++ cells5 nr ln text p (.slice a l c)) (es ++ [.nilIface]) (k + 1) (decide (0 < lim ∧ k + 1 = lim)) W' ∧ Only (ConsAt base bS bR bE W) W W' := by
  obtain ⟨i31, hi31, hz31, hs31, hb31⟩ := info_parts info31
  obtain ⟨i25, hi25, hz25, hs25, hb25⟩ := info_parts info25
  have hmx : (1024 : Nat) < maxLen := by decide
  obtain ⟨hS0, hL0, ⟨v, hv, hrow⟩, ⟨u, hu, hrow'⟩⟩ := hG
  have cS := (hS0.alloc (.cells #[.int .i64 nr, .int .i64 ln, .string text, .pointer p, .slice a l c] 31)).cell
  have cR := (hv.alloc (.cells #[.int .i64 nr, .int .i64 ln, .string text, .pointer p, .slice a l c] 31)).cell
  have r1 := (hrow.alloc (.cells #[.int .i64 nr, .int .i64 ln, .string text, .pointer p, .slice a l c] 31)).alloc (.cells #[.int .i64 nr, .int .i64 ln, .string text, .pointer p, .slice a l c] 31)
  have h5 := five_new (W.alloc (.cells #[.int .i64 nr, .int .i64 ln, .string text, .pointer p, .slice a l c] 31)) (.int .i64 nr) (.int .i64 ln) (.string text) (.pointer p) (.slice a l c) 31
  rw [World.size_alloc] at h5
  have HS : Hid (Boxed W bS 4 (.bool false)) := hS0
  have HL : Hid (Boxed W bL 4 (.bool false)) := hL0
  have HR : Hid (Boxed W bR 27 v) := hv
  have HE : Hid (Boxed W bE 39 u) := hu
  have HM : Hid (Boxed W bM 3 (.int .i64 (lim : Nat))) := hM
  have H5 : Hid _ := h5
  clear hS0 hL0 hv hu hM h5
  go_enter Ybaf.func9, Ybaf.ntmps9
  go_wp2_with (first
    | (at_builtin; (refine wpList_append_own _ rfl _ _ 27 rfl base 31 i31 zeroRec 5 64 Ybaf.underlying27 hi31 hz31 hs31 hb31 rfl (by decide) v k rs rfl r1 ⟨W.heap.size + 1, 0, none⟩ 1 1 [.int .i64 nr, .int .i64 ln, .string text, .pointer p, .slice a l c] rfl rfl H5.out (by simp [Value.oneCell']) (by omega) (by omega) (by simp; omega) ?_); intro v' w1 hown1 hg1 _; obtain ⟨b1, b2, b3, b4, b5, b6, b7, b8, hO3⟩ := got_recs HS.out HL.out HR.out hrow HE.out hrow' HM.out hR hown1 hg1; clear r1 hown1 hg1 H5; obtain ⟨g1, cap1, rfl, _⟩ := ownsRow_len b7; have c1 := b1.cell; have f1 := b1.frozen; have c2 := b5.cell; have hsz3 := hO3.size; have r3 := b8.alloc (.cells #[.nilIface] 25); have h1c := cell_one_new (w1.setCell ⟨bR, 0, none⟩ (.slice (some ⟨g1, 0, none⟩) (k + 1) cap1)) .nilIface 25; rw [sz_set] at h1c hsz3)
    | (at_builtin; (refine wpList_append_own _ rfl _ _ 39 rfl base 25 i25 .nilIface 1 16 Ybaf.underlying39 hi25 hz25 hs25 hb25 rfl (by decide) u k es rfl r3 ⟨w1.heap.size, 0, none⟩ 1 1 [.nilIface] rfl rfl h1c (by simp [Value.oneCell']) (by omega) (by omega) (by rw [World.size_alloc, sz_set]; omega) ?_); intro u' w3 hown3 hg3 _; obtain ⟨g3, cap3, rfl, _⟩ := ownsRow_len hown3; obtain ⟨e1, e2, e3, e4, hO5⟩ := got_errs b3 b4 b2 b7 b5 b8 b6 hE hown3 hg3 hO3; clear r3 hown3 hg3 h1c; have c3 := e1.cell; have f3 := e1.frozen; have c4 := e2.cell; have c5 := e4.cell; have c6 := e3.S.cell; have f6 := e3.S.frozen))
  · rename_i hl1 hl2
    have hd : (0 < lim ∧ k + 1 = lim) := ⟨hl1, by have := of_decide_eq_true hl2; omega⟩
    go_ret
    rw [decide_eq_true hd]
    exact ⟨rfl, e3.stop hS hSL, hO5.setCell (fun _ => .inl rfl) _⟩
  · rename_i hl1 hl2
    have hd : ¬ (0 < lim ∧ k + 1 = lim) := fun h => by have := of_decide_eq_false hl2; omega
    go_ret
    rw [decide_eq_false hd]
    exact ⟨rfl, e3, hO5⟩
  · rename_i hl1
    have hd : ¬ (0 < lim ∧ k + 1 = lim) := fun h => hl1 h.1
    go_ret
    rw [decide_eq_false hd]
    exact ⟨rfl, e3, hO5⟩

set_option maxRecDepth 100000 in
set_option maxHeartbeats 1000000 in
/-- The consumer at an error. -/
theorem cons_err (base bS bL bR bE bM k : Nat) (hk : k ≤ 1024) (m : Value) (rs es : List Value) (nr ln : Int) (text : ByteArray) (p a : Option Addr) (l c : Nat) (te : TypeId) (ve : Value) (W : World)
    (hG : Got base bS bL bR bE rs es k false W) (hM : Boxed W bM 3 m) (hbase : base ≤ W.heap.size) (hS : bS < base) (hR : bR < base) (hE : bE < base) (hSL : bS ≠ bL) :
    Calls Ybaf.prog 9 #[recV nr ln text p (.slice a l c), .iface te ve, .pointer (some ⟨bS, 0, none⟩), .pointer (some ⟨bL, 0, none⟩), .pointer (some ⟨bR, 0, none⟩), .pointer (some ⟨bE, 0, none⟩), .pointer (some ⟨bM, 0, none⟩)] W
      fun e W' => e = .returned (.bool false) ∧ Got base bS bL bR bE (rs ++ cells5 nr ln text p (.slice a l c)) (es ++ [.iface te ve]) (k + 1) true W' ∧ Only (ConsAt base bS bR bE W) W W' := by
  obtain ⟨i31, hi31, hz31, hs31, hb31⟩ := info_parts info31
  obtain ⟨i25, hi25, hz25, hs25, hb25⟩ := info_parts info25
  have hmx : (1024 : Nat) < maxLen := by decide
  obtain ⟨hS0, hL0, ⟨v, hv, hrow⟩, ⟨u, hu, hrow'⟩⟩ := hG
  have cS := (hS0.alloc (.cells #[.int .i64 nr, .int .i64 ln, .string text, .pointer p, .slice a l c] 31)).cell
  have cR := (hv.alloc (.cells #[.int .i64 nr, .int .i64 ln, .string text, .pointer p, .slice a l c] 31)).cell
  have r1 := (hrow.alloc (.cells #[.int .i64 nr, .int .i64 ln, .string text, .pointer p, .slice a l c] 31)).alloc (.cells #[.int .i64 nr, .int .i64 ln, .string text, .pointer p, .slice a l c] 31)
  have h5 := five_new (W.alloc (.cells #[.int .i64 nr, .int .i64 ln, .string text, .pointer p, .slice a l c] 31)) (.int .i64 nr) (.int .i64 ln) (.string text) (.pointer p) (.slice a l c) 31
  rw [World.size_alloc] at h5
  have HS : Hid (Boxed W bS 4 (.bool false)) := hS0
  have HL : Hid (Boxed W bL 4 (.bool false)) := hL0
  have HR : Hid (Boxed W bR 27 v) := hv
  have HE : Hid (Boxed W bE 39 u) := hu
  have HM : Hid (Boxed W bM 3 m) := hM
  have H5 : Hid _ := h5
  clear hS0 hL0 hv hu hM h5
  go_enter Ybaf.func9, Ybaf.ntmps9
  go_wp2_with (first
    | (at_builtin; (refine wpList_append_own _ rfl _ _ 27 rfl base 31 i31 zeroRec 5 64 Ybaf.underlying27 hi31 hz31 hs31 hb31 rfl (by decide) v k rs rfl r1 ⟨W.heap.size + 1, 0, none⟩ 1 1 [.int .i64 nr, .int .i64 ln, .string text, .pointer p, .slice a l c] rfl rfl H5.out (by simp [Value.oneCell']) (by omega) (by omega) (by simp; omega) ?_); intro v' w1 hown1 hg1 _; obtain ⟨b1, b2, b3, b4, b5, b6, b7, b8, hO3⟩ := got_recs HS.out HL.out HR.out hrow HE.out hrow' HM.out hR hown1 hg1; clear r1 hown1 hg1 H5; obtain ⟨g1, cap1, rfl, _⟩ := ownsRow_len b7; have c1 := b1.cell; have f1 := b1.frozen; have c2 := b5.cell; have hsz3 := hO3.size; have r3 := b8.alloc (.cells #[.iface te ve] 25); have h1c := cell_one_new (w1.setCell ⟨bR, 0, none⟩ (.slice (some ⟨g1, 0, none⟩) (k + 1) cap1)) (.iface te ve) 25; rw [sz_set] at h1c hsz3)
    | (at_builtin; (refine wpList_append_own _ rfl _ _ 39 rfl base 25 i25 .nilIface 1 16 Ybaf.underlying39 hi25 hz25 hs25 hb25 rfl (by decide) u k es rfl r3 ⟨w1.heap.size, 0, none⟩ 1 1 [.iface te ve] rfl rfl h1c (by simp [Value.oneCell']) (by omega) (by omega) (by rw [World.size_alloc, sz_set]; omega) ?_); intro u' w3 hown3 hg3 _; obtain ⟨g3, cap3, rfl, _⟩ := ownsRow_len hown3; obtain ⟨e1, e2, e3, e4, hO5⟩ := got_errs b3 b4 b2 b7 b5 b8 b6 hE hown3 hg3 hO3; clear r3 hown3 hg3 h1c; have c3 := e1.cell; have f3 := e1.frozen; have c4 := e2.cell; have c5 := e4.cell; have c6 := e3.S.cell; have f6 := e3.S.frozen))
  go_ret
  exact ⟨rfl, e3.stop hS hSL, hO5.setCell (fun _ => .inl rfl) _⟩
end Go.Proofs.YbulkckseFmt
