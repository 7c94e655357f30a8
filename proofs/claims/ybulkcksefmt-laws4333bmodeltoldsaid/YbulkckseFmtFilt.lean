import Derived.Test.YbulkckseFmtCore
namespace Go.Proofs.YbulkckseFmt
open Go Go.RowKit Go.Maps Go.Stop Go.Shelf
attribute [local go_sem] Oper.semAt_some

theorem roundAny {m m' : Nat} {P : Program} {l l' : Nat} {f : FuncId} {tmps : Array Value} {assign body : Code} {w : World} {R : Ending → World → Prop} (h : RoundIn Fence.wide m P l' f tmps assign body w R) : RoundIn (Fence.wide.inRound l) m' P l' f tmps assign body w R :=
  ⟨h.1, fun c cs _ => h.2 c cs (room_wide _)⟩

/-- TryMap's own blocks. -/
structure Tm (E : Env) (i : Nat) (W : World) : Prop where
  y : Boxed W (E.w.heap.size + 2) 35 (.func (.yield (E.w.heap.size + 1)) #[] #[])
  z : W.heap[E.w.heap.size + 3]? = some (.cells #[.int .i64 0, .int .i64 0, .string ⟨#[]⟩, .pointer none, .slice none 0 0] 31 (0, 0))
  pos : Boxed W (E.w.heap.size + 4) 3 (.int .i64 (i : Nat))

/-- What TryMap yields. -/
structure Item where
  i : Nat
  r : Value
  e : Value
  o5 : Option Obj
  o6 : Option Obj

/-- The three kinds of item. -/
def Kind (E : Env) (x : Item) (W : World) : Prop :=
  ((E.R x.i).fail = true ∧ x.r = zeroRec ∧ x.e = .iface 49 (.pointer (some E.aS))) ∨
  ((E.R x.i).fail = false ∧ (E.R x.i).has = false ∧ x.r = zeroRec ∧ ∃ b c t, x.e = .iface 41 (.pointer (some ⟨b, 0, none⟩)) ∧ E.base ≤ b ∧ E.base ≤ c ∧
    W.heap[b]? = some (.cells #[.int .i64 ((x.i : Int) + 1), .int .i64 ((x.i : Int) + 2), .iface 76 (.pointer (some ⟨c, 0, none⟩))] 44 (0, 0)) ∧ W.heap[c]? = some (.cells #[.string t, .iface 49 (.pointer (some E.aE))] 117 (0, 0))) ∨
  ((E.R x.i).fail = false ∧ (E.R x.i).has = true ∧ x.r = recOf E.V x.i ∧ x.e = .nilIface)

structure FA (E : Env) (x : Item) (W : World) : Prop where
  lt : x.i < E.n
  run : E.Run x.i
  core : Core E (x.i + 1) x.i W
  size : E.base ≤ W.heap.size
  kind : Kind E x W
  tm : Tm E x.i W
  h5 : W.heap[E.w.heap.size + 5]? = x.o5
  h6 : W.heap[E.w.heap.size + 6]? = x.o6

structure FA' (E : Env) (x : Item) (W : World) : Prop where
  run : E.Run (x.i + 1)
  core : Core E (x.i + 1) (x.i + 1) W
  size : E.base ≤ W.heap.size
  tm : Tm E x.i W
  h5 : W.heap[E.w.heap.size + 5]? = x.o5
  h6 : W.heap[E.w.heap.size + 6]? = x.o6

structure FX (E : Env) (x : Item) (W : World) : Prop where
  fin : Fin E W
  size : E.base ≤ W.heap.size
  h5 : W.heap[E.w.heap.size + 5]? = x.o5
  h6 : W.heap[E.w.heap.size + 6]? = x.o6

/-- A step of a round of FilterErr: nothing but what the consumer writes. -/
theorem Tm.only {E : Env} {i : Nat} {S : Nat → Prop} {W W' : World} (h : Tm E i W) (ho : Only S W W') (hS : ∀ b, S b → b < E.w.heap.size ∨ E.base ≤ b ∨ b = E.w.heap.size ∨ b = E.w.heap.size + 1) : Tm E i W' := by
  have e : E.base = E.w.heap.size + 7 := rfl
  exact ⟨ho.at h.y (fun hs => by have := hS _ hs; omega), ho.at h.z (fun hs => by have := hS _ hs; omega), ho.at h.pos (fun hs => by have := hS _ hs; omega)⟩

/-- Between the round's start and the consumer's call: new blocks and the loop's record alone. -/
def inL1 (E : Env) (b : Nat) : Prop := b = E.w.heap.size + 1

theorem FA.mid {E : Env} {F : Interp} (g : E.Good F) {x : Item} {W W' : World} (h : FA E x W) (ho : Only (inL1 E) W W') : FA E x W' := by
  have e : E.base = E.w.heap.size + 7 := rfl
  have hne : ∀ b, E.base ≤ b → ¬ inL1 E b := fun b hb hs => by rw [inL1] at hs; omega
  refine ⟨h.lt, h.run, h.core.step g ho (fun b hb => by rw [inL1] at hb; omega), Nat.le_trans h.size ho.size, ?_, h.tm.only ho (fun b hb => .inr (.inr (.inr hb))), (ho.block _ (by have := h.size; omega) (by simp [inL1])).trans h.h5, (ho.block _ (by have := h.size; omega) (by simp [inL1])).trans h.h6⟩
  rcases h.kind with hk | ⟨h1, h2, h3, b, c, t, h4, h5, h6, h7, h8⟩ | hk
  · exact .inl hk
  · exact .inr (.inl ⟨h1, h2, h3, b, c, t, h4, h5, h6, ho.at h7 (hne b h5), ho.at h8 (hne c h6)⟩)
  · exact .inr (.inr hk)

theorem not_cons {E : Env} {W : World} {b : Nat} (h1 : b ≠ E.bS) (h2 : b ≠ E.bR) (h3 : b ≠ E.bE) (h4 : b < E.base) : ¬ ConsAt E.base E.bS E.bR E.bE W b := by
  rintro (h | h | h | h)
  · exact h1 h
  · exact h2 h
  · exact h3 h
  · have := h.1; omega
theorem not_cons_hi {E : Env} {F : Interp} (g : E.Good F) {W : World} {b : Nat} {cs : Array Value} {t : TypeId} (hb : E.base ≤ b) (hc : W.heap[b]? = some (.cells cs t (0, 0))) (ht : t ≠ 31 ∧ t ≠ 25) : ¬ ConsAt E.base E.bS E.bR E.bE W b := by
  have e : E.base = E.w.heap.size + 7 := rfl
  have l1 := g.lt E.bS (.inr (.inl rfl))
  have l2 := g.lt E.bR (.inr (.inr (.inr (.inl rfl))))
  have l3 := g.lt E.bE (.inr (.inr (.inr (.inr rfl))))
  rintro (h | h | h | ⟨_, cs', t', ht', hc'⟩)
  · omega
  · omega
  · omega
  · rw [hc] at hc'
    simp at hc'
    rw [← hc'.2] at ht'
    rcases ht' with h | h
    · exact ht.1 h
    · exact ht.2 h

theorem only_cons {E : Env} {F : Interp} (g : E.Good F) {p i : Nat} {W W' : World} (h : Core E p i W) (ho : Only (ConsAt E.base E.bS E.bR E.bE W) W W') : Only E.five E.w W' ∧ Boxed W' E.bP 3 (.int .i64 (p : Nat)) := by
  have e : E.base = E.w.heap.size + 7 := rfl
  have l := g.lt E.bP (.inl rfl)
  refine ⟨h.only.andThen ho (fun b hb hs => ?_), ho.at h.P (not_cons g.pnot.1 g.pnot.2.2.1 g.pnot.2.2.2 (by omega))⟩
  rcases hs with h | h | h | h
  · exact .inr (.inl h)
  · exact .inr (.inr (.inr (.inl h)))
  · exact .inr (.inr (.inr (.inr h)))
  · have := h.1; omega

theorem frame_cons {E : Env} {F : Interp} (g : E.Good F) {W W' : World} (ho : Only (ConsAt E.base E.bS E.bR E.bE W) W W') (b : Nat) (h1 : E.w.heap.size ≤ b) (h2 : b < E.base) (h3 : E.base ≤ W.heap.size) : W'.heap[b]? = W.heap[b]? := by
  have l1 := g.lt E.bS (.inr (.inl rfl))
  have l2 := g.lt E.bR (.inr (.inr (.inr (.inl rfl))))
  have l3 := g.lt E.bE (.inr (.inr (.inr (.inr rfl))))
  exact ho.block b (by omega) (not_cons (by omega) (by omega) (by omega) h2)

theorem Tm.cons {E : Env} {F : Interp} (g : E.Good F) {i : Nat} {W W' : World} (h : Tm E i W) (hs : E.base ≤ W.heap.size) (ho : Only (ConsAt E.base E.bS E.bR E.bE W) W W') : Tm E i W' := by
  have e : E.base = E.w.heap.size + 7 := rfl
  exact ⟨(frame_cons g ho _ (by omega) (by omega) hs).trans h.y, (frame_cons g ho _ (by omega) (by omega) hs).trans h.z, (frame_cons g ho _ (by omega) (by omega) hs).trans h.pos⟩

/-- Behind the consumer at an error. -/
theorem FA.err {E : Env} {F : Interp} (g : E.Good F) {x : Item} {W W' : World} (h : FA E x W) (hr : x.r = zeroRec) (ho : Only (ConsAt E.base E.bS E.bR E.bE W) W W')
    (hg : Got E.base E.bS E.bL E.bR E.bE (E.rs x.i ++ cells5 0 0 ⟨#[]⟩ none (.slice none 0 0)) (E.es x.i ++ [x.e]) (E.k x.i + 1) true W') : FX E x W' := by
  have e : E.base = E.w.heap.size + 7 := rfl
  obtain ⟨o1, o2⟩ := only_cons g h.core ho
  refine ⟨⟨o1, x.i, h.lt, h.run, o2, ?_⟩, Nat.le_trans h.size ho.size, (frame_cons g ho _ (by omega) (by omega) h.size).trans h.h5, (frame_cons g ho _ (by omega) (by omega) h.size).trans h.h6⟩
  rcases h.kind with ⟨h1, h2, h3⟩ | ⟨h1, h2, h3, b, c, t, h4, h5, h6, h7, h8⟩ | ⟨h1, h2, h3, h4⟩
  · rw [h3] at hg
    exact .inl ⟨h1, hg⟩
  · rw [h4] at hg
    exact .inr (.inl ⟨h1, h2, b, c, t, hg, h5, h6, ho.at h7 (not_cons_hi g h5 h7 (by decide)), ho.at h8 (not_cons_hi g h6 h8 (by decide))⟩)
  · rw [hr] at h3
    simp [zeroRec, recV, recOf] at h3

/-- Behind the consumer at a record that is kept. -/
theorem FA.hit {E : Env} {F : Interp} (g : E.Good F) {x : Item} {W W' : World} (h : FA E x W) (hf : (E.R x.i).fail = false) (hh : (E.R x.i).has = true) (hk : E.kept x.i = true) (ho : Only (ConsAt E.base E.bS E.bR E.bE W) W W') {stp : Bool} (hstp : stp = decide (0 < E.lim ∧ E.k x.i + 1 = E.lim))
    (hg : Got E.base E.bS E.bL E.bR E.bE (E.rs x.i ++ E.cellsOf x.i) (E.es x.i ++ [.nilIface]) (E.k x.i + 1) stp W') : (stp = false ∧ FA' E x W') ∨ (stp = true ∧ FX E x W') := by
  have e : E.base = E.w.heap.size + 7 := rfl
  obtain ⟨o1, o2⟩ := only_cons g h.core ho
  have s := Nat.le_trans h.size ho.size
  have f5 := (frame_cons g ho _ (by omega) (by omega) h.size).trans h.h5
  have f6 := (frame_cons g ho _ (by omega) (by omega) h.size).trans h.h6
  rw [← E.rs_yes hk, ← E.es_yes hk] at hg
  cases stp
  · left
    have hn := of_decide_eq_false hstp.symm
    have hl := h.run.2
    refine ⟨rfl, h.run.succ hf hh ?_, ⟨o1, o2, by rw [E.k_yes hk]; exact hg⟩, s, h.tm.cons g h.size ho, f5, f6⟩
    rw [E.k_yes hk]
    omega
  · right
    have hn := of_decide_eq_true hstp.symm
    exact ⟨rfl, ⟨o1, x.i, h.lt, h.run, o2, .inr (.inr ⟨hf, hh, hk, hn.1, hn.2, hg⟩)⟩, s, f5, f6⟩

/-- A record that is not kept. -/
theorem FA.skip {E : Env} {x : Item} {W : World} (h : FA E x W) (hf : (E.R x.i).fail = false) (hh : (E.R x.i).has = true) (hk : E.kept x.i = false) : FA' E x W := by
  have hl := h.run.2
  refine ⟨h.run.succ hf hh (by rw [E.k_no hk]; exact hl), ⟨h.core.only, h.core.P, ?_⟩, h.size, h.tm, h.h5, h.h6⟩
  rw [E.rs_no hk, E.es_no hk, E.k_no hk]
  exact h.core.got

def EE (E : Env) (W : World) : Prop := Core E E.n E.n W ∧ E.Run E.n

theorem Tm.put {E : Env} {i : Nat} {W : World} (h : Tm E i W) (o : Obj) : Tm E i (W.putObj (E.w.heap.size + 1) o) :=
  ⟨(World.putObj_heap_other (by omega)).trans h.y, (World.putObj_heap_other (by omega)).trans h.z, (World.putObj_heap_other (by omega)).trans h.pos⟩
theorem FA'.put {E : Env} {F : Interp} (g : E.Good F) {x : Item} {W : World} (h : FA' E x W) (o : Obj) : FA' E x (W.putObj (E.w.heap.size + 1) o) :=
  ⟨h.run, h.core.put g (by omega) (by simp only [Env.base]; omega) o, by rw [World.putObj_size]; exact h.size, h.tm.put o, (World.putObj_heap_other (by omega)).trans h.h5, (World.putObj_heap_other (by omega)).trans h.h6⟩
theorem FX.put {E : Env} {F : Interp} (g : E.Good F) {x : Item} {W : World} (h : FX E x W) (o : Obj) : FX E x (W.putObj (E.w.heap.size + 1) o) :=
  ⟨h.fin.put g (by omega) (by simp only [Env.base]; omega) o, by rw [World.putObj_size]; exact h.size, (World.putObj_heap_other (by omega)).trans h.h5, (World.putObj_heap_other (by omega)).trans h.h6⟩

theorem eg22 (args : Array Value) (w : World) : (callFunc 22 args).run Ybaf.prog w = .ok (.enter 22 args) w := by kernel_rfl

set_option maxRecDepth 100000 in
set_option maxHeartbeats 2000000 in
/-- FilterErr$1, handed the consumer. -/
theorem filter27 (E : Env) (F : Interp) (g : E.Good F) (w0 : World) (hw : E.w = w0.alloc (.cells #[.func (.func 9) #[] E.caps9] 35)) (hc0 : Core E 0 0 E.w)
    (hseq : SeqFree Fence.wide 9 Ybaf.prog 22 #[.pointer (some ⟨E.bq, 0, none⟩), .pointer (some ⟨E.bf, 0, none⟩)] (E.w.heap.size + 1) E.w.heap.size (fun x : Item => #[x.r, x.e]) (fun W => W.heap.size = E.w.heap.size + 2 ∧ Core E 0 0 W) (FA E) (FA' E) (FX E) (EE E)) :
    CallsIn Fence.wide 10 Ybaf.prog 27 #[.func (.func 9) #[] E.caps9, .pointer (some ⟨E.bs, 0, none⟩), .pointer (some ⟨E.bk, 0, none⟩)] w0 fun e W' => (∃ v, e = .returned v) ∧ (EE E W' ∨ Fin E W') := by
  have hsz : E.w.heap.size = w0.heap.size + 1 := by rw [hw]; simp
  have cs : (w0.alloc (.cells #[.func (.func 9) #[] E.caps9] 35)).cell? ⟨E.bs, 0, none⟩ = some (.func (.func 22) #[] #[.pointer (some ⟨E.bq, 0, none⟩), .pointer (some ⟨E.bf, 0, none⟩)]) := by rw [← hw]; exact g.rest.s.cell
  refine callsIn_of_wp_marks Ybaf.func27 rfl trivial ?_ rfl
  simp only [Ybaf.ntmps27, List.size_toArray, List.length_cons, List.length_nil, Nat.reduceAdd, Nat.reduceSub, Array.replicate_succ, Array.replicate_zero, List.push_toArray, List.append_toArray, List.nil_append, List.cons_append]
  gi_wp2
  rw [← hw]
  refine wpIn_rangeFunc_free (I := Item) rfl (by decide) rfl trivial eg22 (args := fun x : Item => #[x.r, x.e]) (fun _ => rfl) hseq ?h0 (fun x W o h => h.put g o) (fun x W o h => h.put g o) (fun W o h => ⟨h.1.put g (by omega) (by simp only [Env.base]; omega) o, h.2⟩) ?round ?done ?left
  case h0 => 
    intro o
    exact ⟨by simp, (hc0.below g ((Below.refl _ _).alloc (Nat.le_refl _) _)).below g ((Below.refl _ _).alloc (Nat.le_refl _) _)⟩
  case round =>
    intro x W hx
    have hbase : E.base = E.w.heap.size + 7 := rfl
    have hYn : Hid (E.w.heap.size - 1 = w0.heap.size) := by show _ = _; omega
    have Hsz : Hid (E.w.heap.size = w0.heap.size + 1) := hsz
    have hlS := g.lt E.bS (.inr (.inl rfl))
    have hlR := g.lt E.bR (.inr (.inr (.inr (.inl rfl))))
    have hlE := g.lt E.bE (.inr (.inr (.inr (.inr rfl))))
    obtain ⟨xi, xr, xe, o5, o6⟩ := x
    have hs0 := hx.size
    have hkind := hx.kind
    have hkm : E.k xi ≤ 1024 := Nat.le_trans (E.k_le xi) (Nat.le_trans (Nat.le_of_lt hx.lt) g.max)
    have hO : ∀ (cs : Array Value) (o : Obj), Only (inL1 E) W ((W.alloc (.cells cs 31)).putObj (E.w.heap.size + 1) o) := fun cs o => Only.putObj (S := inL1 E) ((Only.refl _ W).alloc _) (fun _ => rfl) o
    have cY0 : ∀ W2, Only E.five E.w W2 → W2.cell? ⟨w0.heap.size, 0, none⟩ = some (.func (.func 9) #[] #[.pointer (some ⟨E.bS, 0, none⟩), .pointer (some ⟨E.bL, 0, none⟩), .pointer (some ⟨E.bR, 0, none⟩), .pointer (some ⟨E.bE, 0, none⟩), .pointer (some ⟨E.bM, 0, none⟩)]) := fun W2 h2 => by rw [← hYn.out]; exact (g.Y' h2).cell
    clear hsz cs hseq hw
    rcases (show ((xr = zeroRec ∧ ∃ te ve, xe = .iface te ve) ∨ ((E.R xi).fail = false ∧ (E.R xi).has = true ∧ xr = recOf E.V xi ∧ xe = .nilIface)) by
      rcases hkind with ⟨_, h2, h3⟩ | ⟨_, _, h3, b, c, t, h4, _⟩ | h
      · exact .inl ⟨h2, _, _, h3⟩
      · exact .inl ⟨h3, _, _, h4⟩
      · exact .inr h) with ⟨rfl, te, ve, rfl⟩ | ⟨hf, hh, rfl, rfl⟩
    · gi_wp2
      refine ⟨⟨Below.heap_alloc _ _ _ (by omega), Below.heap_alloc _ _ _ (by omega)⟩, fun o => ?_⟩
      have hx1 := hx.mid g (hO #[.int .i64 0, .int .i64 0, .string ⟨#[]⟩, .pointer none, .slice none 0 0] o)
      generalize hW1 : (W.alloc (.cells #[.int .i64 0, .int .i64 0, .string ⟨#[]⟩, .pointer none, .slice none 0 0] 31)).putObj (E.w.heap.size + 1) o = W1 at hx1 ⊢
      clear hO hW1 hx hkind
      have hx2 := hx1.mid g ((Only.refl _ W1).alloc (.cells #[.int .i64 0, .int .i64 0, .string ⟨#[]⟩, .pointer none, .slice none 0 0] 31))
      have cY := cY0 _ hx2.core.only
      have hcons := cons_err E.base E.bS E.bL E.bR E.bE E.bM (E.k xi) hkm (.int .i64 (E.lim : Nat)) (E.rs xi) (E.es xi) 0 0 ⟨#[]⟩ none none 0 0 te ve _ hx2.core.got (g.M' hx2.core.only) hx2.size (by omega) (by omega) (by omega) g.sl
      have hcI := CallsIn.inRound (E.w.heap.size + 1) ((callsIn_wide (n := 7)).2 hcons)
      clear hcons
      gi_wp2
      refine ⟨trivial, hcI.mono ?_⟩
      rintro e W3 ⟨rfl, hg3, ho3⟩
      have hs1 := hx1.size
      have hfx := hx2.err g rfl ho3 hg3
      clear hcI cY
      gi_wp2
      exact ⟨⟨(frame_cons g ho3 _ (by omega) (by omega) hx2.size).trans (Below.heap_alloc _ _ _ (by omega)), (frame_cons g ho3 _ (by omega) (by omega) hx2.size).trans (Below.heap_alloc _ _ _ (by omega))⟩, hfx⟩
    · rcases hV : E.V xi with ⟨vp, va, vl, vc⟩
      have hV' : Hid (E.V xi = (vp, va, vl, vc)) := hV
      rw [recOf, hV] at hx ⊢
      clear hV hkind
      gi_wp2
      refine ⟨⟨Below.heap_alloc _ _ _ (by omega), Below.heap_alloc _ _ _ (by omega)⟩, fun o => ?_⟩
      have hx1 := hx.mid g (hO #[.int .i64 ((xi : Int) + 1), .int .i64 ((xi : Int) + 2), .string ⟨#[116]⟩, .pointer vp, .slice va vl vc] o)
      have hrow : ((W.alloc (.cells #[.int .i64 ((xi : Int) + 1), .int .i64 ((xi : Int) + 2), .string ⟨#[116]⟩, .pointer vp, .slice va vl vc] 31)).putObj (E.w.heap.size + 1) o).heap[W.heap.size]? = some (.cells #[.int .i64 ((xi : Int) + 1), .int .i64 ((xi : Int) + 2), .string ⟨#[116]⟩, .pointer vp, .slice va vl vc] 31 (0, 0)) := (World.putObj_heap_other (by omega)).trans (World.alloc_heap_new _ _)
      generalize hW1 : (W.alloc (.cells #[.int .i64 ((xi : Int) + 1), .int .i64 ((xi : Int) + 2), .string ⟨#[116]⟩, .pointer vp, .slice va vl vc] 31)).putObj (E.w.heap.size + 1) o = W1 at hx1 hrow ⊢
      clear hO hW1
      have hxlt := hx.lt
      have hon := hx1.core.only
      have hlook : ∀ W', Below W1.heap.size W1 W' → Calls Ybaf.prog 16 #[recV ((xi : Int) + 1) ((xi : Int) + 2) ⟨#[116]⟩ vp (.slice va vl vc), .string sK] W' fun e W2 => e = .returned (.tuple #[.string (E.vOf xi), .bool (E.R xi).has]) ∧ Below W'.heap.size W' W2 := by
        intro W' hb
        have := g.look xi hxlt W' (hon.andThen (Only.of_below hb (fun _ => False)) (fun _ _ hf => hf.elim))
        rw [recOf, hV'.out] at this
        exact this
      have hkeep := keep_any E.bW E.bN E.bm E.mapn E.L ((xi : Int) + 1) ((xi : Int) + 2) ⟨#[116]⟩ (E.vOf xi) (E.R xi).has vp va vl vc W1 (g.rest' hon).N (g.rest' hon).M (g.rest' hon).own (g.vlen xi) hlook
      have hkI := CallsIn.inRound (E.w.heap.size + 1) ((callsIn_wide (n := 7)).2 hkeep)
      have cK := (g.rest' hon).k.cell
      have c0 : W1.cell? ⟨W.heap.size, 0, none⟩ = some (.int .i64 ((xi : Int) + 1)) := cell_of hrow rfl
      have c1 : W1.cell? ⟨W.heap.size, 1, none⟩ = some (.int .i64 ((xi : Int) + 2)) := cell_of hrow rfl
      have c2 : W1.cell? ⟨W.heap.size, 2, none⟩ = some (.string ⟨#[116]⟩) := cell_of hrow rfl
      have c3 : W1.cell? ⟨W.heap.size, 3, none⟩ = some (.pointer vp) := cell_of hrow rfl
      have c4 : W1.cell? ⟨W.heap.size, 4, none⟩ = some (.slice va vl vc) := cell_of hrow rfl
      have Hrow : Hid (W1.heap[W.heap.size]? = some (.cells #[.int .i64 ((xi : Int) + 1), .int .i64 ((xi : Int) + 2), .string ⟨#[116]⟩, .pointer vp, .slice va vl vc] 31 (0, 0))) := hrow
      clear hkeep hlook hrow hx
      gi_wp2
      refine ⟨trivial, hkI.mono ?_⟩
      rintro e W2 ⟨rfl, hb2⟩
      clear hkI c0 c1 c2 c3 c4 cK
      have hx2 := hx1.mid g (Only.of_below hb2 (inL1 E))
      have hrow := (hb2.block _ (Array.getElem?_eq_some_iff.1 Hrow.out).1).trans Hrow.out
      have s1 := hx1.size
      have f1 : W2.heap[E.w.heap.size + 1]? = W1.heap[E.w.heap.size + 1]? := hb2.block _ (by omega)
      have f0 : W2.heap[E.w.heap.size]? = W1.heap[E.w.heap.size]? := hb2.block _ (by omega)
      cases hk : inL E.L (E.vOf xi)
      · gi_wp2
        refine ⟨fun f h => (by cases h), ?_⟩
        gi_wp2
        exact ⟨⟨f1, f0⟩, hx2.skip hf hh hk⟩
      · have c0 : W2.cell? ⟨W.heap.size, 0, none⟩ = some (.int .i64 ((xi : Int) + 1)) := cell_of hrow rfl
        have c1 : W2.cell? ⟨W.heap.size, 1, none⟩ = some (.int .i64 ((xi : Int) + 2)) := cell_of hrow rfl
        have c2 : W2.cell? ⟨W.heap.size, 2, none⟩ = some (.string ⟨#[116]⟩) := cell_of hrow rfl
        have c3 : W2.cell? ⟨W.heap.size, 3, none⟩ = some (.pointer vp) := cell_of hrow rfl
        have c4 : W2.cell? ⟨W.heap.size, 4, none⟩ = some (.slice va vl vc) := cell_of hrow rfl
        have cY := cY0 _ hx2.core.only
        have hcons := cons_nil E.base E.bS E.bL E.bR E.bE E.bM E.lim (E.k xi) hkm g.lim8 (E.rs xi) (E.es xi) ((xi : Int) + 1) ((xi : Int) + 2) ⟨#[116]⟩ vp va vl vc W2 hx2.core.got (g.M' hx2.core.only) hx2.size (by omega) (by omega) (by omega) g.sl
        have hcI := CallsIn.inRound (E.w.heap.size + 1) ((callsIn_wide (n := 7)).2 hcons)
        clear hcons hrow Hrow hb2
        gi_wp2
        refine ⟨trivial, hcI.mono ?_⟩
        rintro e W3 ⟨rfl, hg3, ho3⟩
        clear hcI cY c0 c1 c2 c3 c4
        have g1 := (frame_cons g ho3 (E.w.heap.size + 1) (by omega) (by omega) hx2.size).trans f1
        have g0 := (frame_cons g ho3 E.w.heap.size (by omega) (by omega) hx2.size).trans f0
        have hcells : cells5 ((xi : Int) + 1) ((xi : Int) + 2) ⟨#[116]⟩ vp (.slice va vl vc) = E.cellsOf xi := by rw [Env.cellsOf, hV'.out]
        rw [hcells] at hg3
        have hout := hx2.hit g hf hh hk ho3 rfl hg3
        generalize decide (0 < E.lim ∧ E.k xi + 1 = E.lim) = stp at hout ⊢
        rcases hout with ⟨rfl, h⟩ | ⟨rfl, h⟩
        · gi_wp2
          exact ⟨⟨g1, g0⟩, h⟩
        · gi_wp2
          exact ⟨⟨g1, g0⟩, h⟩
  case done =>
    rintro W hE hK
    gi_wp2
    refine ⟨by simp, .inl ⟨_, _, rfl, run_takeDeferred hK, ?_⟩⟩
    exact ⟨_, results_none rfl _ _ _, ⟨_, rfl⟩, .inl ⟨hE.1.put g (by omega) (by simp only [Env.base]; omega) _, hE.2⟩⟩
  case left =>
    rintro x W hX hK
    gi_wp2
    refine ⟨by simp, .inl ⟨_, _, rfl, run_takeDeferred hK, ?_⟩⟩
    exact ⟨_, results_none rfl _ _ _, ⟨_, rfl⟩, .inr (hX.fin.put g (by omega) (by simp only [Env.base]; omega) _)⟩
end Go.Proofs.YbulkckseFmt
