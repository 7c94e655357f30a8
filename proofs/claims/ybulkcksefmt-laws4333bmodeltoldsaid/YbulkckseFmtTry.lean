import Derived.Test.YbulkckseFmtOrder
namespace Go.Proofs.YbulkckseFmt
open Go Go.RowKit Go.Maps Go.Stop Go.Shelf
attribute [local go_sem] Oper.semAt_some

theorem eg6 (args : Array Value) (w : World) : (callFunc 6 args).run Ybaf.prog w = .ok (.enter 6 args) w := by kernel_rfl
theorem mixed : Ybaf.prog.follows .mixedOrders = true := by kernel_rfl

theorem wpOpIn_of {F : Fence} {n : Nat} {P : Program} {ops : Array Oper} {Q : Exit → Act → World → Prop} {i : Nat} {K : Act → World → Prop} {a : Act} {w : World} {o : Oper} (ho : ops[i]? = some o)
    (h : if Region.wanted o (yielded ops a.tmps) = true then Oper.wpIn F n P o a w K Q else (∀ f, o.about P w a.eval = some f → F.fn f) ∧ K (a.put o.dst undef) w) : wpOpIn F n P ops Q i K a w := by
  unfold wpOpIn
  rw [ho]
  exact h

/-- The source's state before item i. -/
structure TB (E : Env) (Ry : World → Prop) (i : Nat) (W : World) : Prop where
  run : E.Run i
  core : Core E i i W
  size : E.base ≤ W.heap.size
  tm : Tm E i W
  ry : Ry W
/-- Where the source yields item i. -/
structure TA (E : Env) (Ry : World → Prop) (i : Nat) (W : World) : Prop where
  lt : i < E.n
  run : E.Run i
  core : Core E (i + 1) i W
  size : E.base ≤ W.heap.size
  tm : Tm E i W
  ry : Ry W
structure TX (E : Env) (Rn : World → Prop) (W : World) : Prop where
  fin : Fin E W
  size : E.base ≤ W.heap.size
  rn : Rn W

theorem Tm.put6 {E : Env} {i : Nat} {W : World} (h : Tm E i W) (o : Obj) : Tm E i (W.putObj (E.w.heap.size + 6) o) :=
  ⟨(World.putObj_heap_other (by omega)).trans h.y, (World.putObj_heap_other (by omega)).trans h.z, (World.putObj_heap_other (by omega)).trans h.pos⟩

theorem TB.pull {E : Env} {F : Interp} (g : E.Good F) {Ry : World → Prop} (hRy : ∀ W W', W'.heap[E.w.heap.size + 1]? = W.heap[E.w.heap.size + 1]? → W'.heap[E.w.heap.size]? = W.heap[E.w.heap.size]? → Ry W → Ry W') {i : Nat} {W : World} (h : TB E Ry i W) (hi : i < E.n) :
    TA E Ry i (W.setCell ⟨E.bP, 0, none⟩ (.int .i64 ((i : Int) + 1))) := by
  have l := g.lt E.bP (.inl rfl)
  have ho : Only (fun b => b = E.bP) W (W.setCell ⟨E.bP, 0, none⟩ (.int .i64 ((i : Int) + 1))) := Only.setCell (S := fun b => b = E.bP) (Only.refl _ W) (p := ⟨E.bP, 0, none⟩) (fun _ => rfl) _
  have e : E.base = E.w.heap.size + 7 := rfl
  refine ⟨hi, h.run, ⟨h.core.only.andThen ho (fun b _ hb => .inl hb), h.core.P.set _, h.core.got.only ho (Ne.symm g.pnot.1) (Ne.symm g.pnot.2.1) (Ne.symm g.pnot.2.2.1) (Ne.symm g.pnot.2.2.2) (fun b hb hs => by have := hb.1; omega)⟩, by rw [sz_set]; exact h.size, h.tm.only ho (fun b hb => .inl (by omega)), ?_⟩
  exact hRy _ _ (Below.heap_setCell _ _ _ _ (by simp; omega)) (Below.heap_setCell _ _ _ _ (by simp; omega)) h.ry

theorem Tm.keep {E : Env} {i : Nat} {S : Nat → Prop} {W W' : World} (h : Tm E i W) (ho : Only S W W') (h2 : ¬ S (E.w.heap.size + 2)) (h3 : ¬ S (E.w.heap.size + 3)) (h4 : ¬ S (E.w.heap.size + 4)) : Tm E i W' :=
  ⟨ho.at h.y h2, ho.at h.z h3, ho.at h.pos h4⟩

def inL2 (E : Env) (b : Nat) : Prop := b = E.w.heap.size + 6

theorem TA.mid {E : Env} {F : Interp} (g : E.Good F) {Ry : World → Prop} (hRy : ∀ W W', W'.heap[E.w.heap.size + 1]? = W.heap[E.w.heap.size + 1]? → W'.heap[E.w.heap.size]? = W.heap[E.w.heap.size]? → Ry W → Ry W') {i : Nat} {W W' : World} (h : TA E Ry i W) (ho : Only (inL2 E) W W') : TA E Ry i W' := by
  have e : E.base = E.w.heap.size + 7 := rfl
  have s := h.size
  exact ⟨h.lt, h.run, h.core.step g ho (fun b hb => by rw [inL2] at hb; omega), Nat.le_trans h.size ho.size, h.tm.keep ho (by simp [inL2]) (by simp [inL2]) (by simp [inL2]), hRy _ _ (ho.block _ (by omega) (by simp [inL2])) (ho.block _ (by omega) (by simp [inL2])) h.ry⟩

/-- The item as FilterErr sees it. -/
theorem TA.item {E : Env} {Ry : World → Prop} {i : Nat} {W : World} (h : TA E Ry i W) {r e : Value} (hk : Kind E ⟨i, r, e, W.heap[E.w.heap.size + 5]?, W.heap[E.w.heap.size + 6]?⟩ W) : FA E ⟨i, r, e, W.heap[E.w.heap.size + 5]?, W.heap[E.w.heap.size + 6]?⟩ W :=
  ⟨h.lt, h.run, h.core, h.size, hk, h.tm, rfl, rfl⟩

theorem TB.put {E : Env} {F : Interp} (g : E.Good F) {Ry : World → Prop} (hRy : ∀ W W', W'.heap[E.w.heap.size + 1]? = W.heap[E.w.heap.size + 1]? → W'.heap[E.w.heap.size]? = W.heap[E.w.heap.size]? → Ry W → Ry W') {i l : Nat} {W : World} (h : TB E Ry i W) (hl : l = E.w.heap.size + 6 ∨ l = E.w.heap.size + 5) (o : Obj) : TB E Ry i (W.putObj l o) := by
  have e : E.base = E.w.heap.size + 7 := rfl
  exact ⟨h.run, h.core.put g (by omega) (by omega) o, by rw [World.putObj_size]; exact h.size, ⟨(World.putObj_heap_other (by omega)).trans h.tm.y, (World.putObj_heap_other (by omega)).trans h.tm.z, (World.putObj_heap_other (by omega)).trans h.tm.pos⟩, hRy _ _ (World.putObj_heap_other (by omega)) (World.putObj_heap_other (by omega)) h.ry⟩

theorem TX.put {E : Env} {F : Interp} (g : E.Good F) {Rn : World → Prop} (hRn : ∀ W W', W'.heap[E.w.heap.size + 1]? = W.heap[E.w.heap.size + 1]? → W'.heap[E.w.heap.size]? = W.heap[E.w.heap.size]? → Rn W → Rn W') {l : Nat} {W : World} (h : TX E Rn W) (hl : l = E.w.heap.size + 6 ∨ l = E.w.heap.size + 5) (o : Obj) : TX E Rn (W.putObj l o) := by
  have e : E.base = E.w.heap.size + 7 := rfl
  exact ⟨h.fin.put g (by omega) (by omega) o, by rw [World.putObj_size]; exact h.size, hRn _ _ (World.putObj_heap_other (by omega)) (World.putObj_heap_other (by omega)) h.rn⟩

theorem TB.advance {E : Env} {F : Interp} (g : E.Good F) {Ry : World → Prop} (hRy : ∀ W W', W'.heap[E.w.heap.size + 1]? = W.heap[E.w.heap.size + 1]? → W'.heap[E.w.heap.size]? = W.heap[E.w.heap.size]? → Ry W → Ry W') {x : Item} {W : World} (h : FA' E x W) (ry : Ry W) :
    TB E Ry (x.i + 1) (W.setCell ⟨E.w.heap.size + 4, 0, none⟩ (.int .i64 ((x.i : Int) + 1))) := by
  have e : E.base = E.w.heap.size + 7 := rfl
  have ho : Only (fun b => b = E.w.heap.size + 4) W (W.setCell ⟨E.w.heap.size + 4, 0, none⟩ (.int .i64 ((x.i : Int) + 1))) := Only.setCell (S := fun b => b = E.w.heap.size + 4) (Only.refl _ W) (p := ⟨E.w.heap.size + 4, 0, none⟩) (fun _ => rfl) _
  have s := h.size
  exact ⟨h.run, h.core.step g ho (fun b hb => by omega), by rw [sz_set]; exact h.size, ⟨ho.at h.tm.y (by omega), ho.at h.tm.z (by omega), h.tm.pos.set _⟩, hRy _ _ (ho.block _ (by omega) (by omega)) (ho.block _ (by omega) (by omega)) ry⟩

set_option maxRecDepth 100000 in
set_option maxHeartbeats 2000000 in
/-- TryMap$1, handed FilterErr's yield. -/
theorem tryMap22 (E : Env) (F : Interp) (g : E.Good F) :
    SeqFree Fence.wide 9 Ybaf.prog 22 #[.pointer (some ⟨E.bq, 0, none⟩), .pointer (some ⟨E.bf, 0, none⟩)] (E.w.heap.size + 1) E.w.heap.size (fun x : Item => #[x.r, x.e]) (fun W => W.heap.size = E.w.heap.size + 2 ∧ Core E 0 0 W) (FA E) (FA' E) (FX E) (EE E) := by
  rintro Ry Rn hRy hRn hY W0 ⟨hsz, hc0⟩ hR0
  have hbase : E.base = E.w.heap.size + 7 := rfl
  have hq := (g.rest' hc0.only).q.cell
  obtain ⟨W3, hW3⟩ : ∃ W3, W3 = ((W0.alloc (.cells #[.func (.yield (E.w.heap.size + 1)) #[] #[]] 35)).alloc (.cells #[.int .i64 0, .int .i64 0, .string ⟨#[]⟩, .pointer none, .slice none 0 0] 31)).alloc (.cells #[.int .i64 0] 3) := ⟨_, rfl⟩
  have hB3 : Below W0.heap.size W0 W3 := by rw [hW3]; exact (((Below.refl _ W0).alloc (Nat.le_refl _) _).alloc (by simp) _).alloc (by simp; omega) _
  have hc3 := hc0.below g hB3
  have cq := (hB3.cell (p := ⟨E.bq, 0, none⟩) (g.rest' hc0.only).q.lt).trans hq
  have s3 : W3.heap.size = E.w.heap.size + 5 := by rw [hW3]; simp; omega
  have t3 : Tm E 0 W3 := by
    rw [hW3]
    exact ⟨heap_up (heap_up (heap_new _ _ (by omega)) _) _, heap_up (heap_new _ _ (by simp; omega)) _, heap_new _ _ (by simp; omega)⟩
  have r3 : Ry W3 := hRy _ _ (hB3.block _ (by omega)) (hB3.block _ (by omega)) hR0
  refine callsIn_of_wp_marks Ybaf.func22 rfl trivial ?_ rfl
  simp only [Ybaf.ntmps22, List.size_toArray, List.length_cons, List.length_nil, Nat.reduceAdd, Nat.reduceSub, Array.replicate_succ, Array.replicate_zero, List.push_toArray, List.append_toArray, List.nil_append, List.cons_append]
  rw [hW3] at cq
  have Hsz : Hid (W0.heap.size = E.w.heap.size + 2) := hsz
  clear hsz hq
  gi_wp2
  rw [← hW3]
  have e6 : W3.heap.size + 1 = E.w.heap.size + 6 := by omega
  have hlP := g.lt E.bP (.inl rfl)
  refine wpIn_rangeFunc_free (I := Nat) rfl (by decide) rfl trivial eg6 (args := srcArgs E.R E.aS E.V) (fun i => by unfold srcArgs; split <;> rfl)
    (src_free Fence.wide 8 trivial rfl (by decide) E.n g.max E.R E.ra E.rcap E.bRecs E.bErr E.bB E.bb E.bP E.aS E.V (W3.heap.size + 1) W3.heap.size (by omega) (by omega) (TA E Ry) (TB E Ry) (fun _ => TX E Rn) (fun i W h => ⟨g.stat' h.core.only, h.core.P⟩) (fun i W hi h => ⟨h.pull g hRy hi, g.stat' (h.pull g hRy hi).core.only⟩))
    ?h0 (fun i W o h => h.put g hRy (by omega) o) (fun i W o h => h.put g hRn (by omega) o) (fun W o h => h.put g hRy (by omega) o) ?round ?done ?left
  case h0 =>
    intro o
    have hb : Below W3.heap.size W3 ((W3.alloc (.deferred (some []))).alloc o) := ((Below.refl _ _).alloc (Nat.le_refl _) _).alloc (by simp) _
    exact ⟨⟨fun j hj => by omega, by simp [Env.k, Env.keptTo]; omega⟩, hc3.below g hb, by simp; omega, t3.keep (Only.of_below hb (fun _ => False)) id id id, hRy _ _ (hb.block _ (by omega)) (hb.block _ (by omega)) r3⟩
  case round =>
    intro i W hi
    have s0 := hi.size
    have hO : ∀ (cs : Array Value) (o : Obj), Only (inL2 E) W ((W.alloc (.cells cs 31)).putObj (W3.heap.size + 1) o) := fun cs o => Only.putObj (S := inL2 E) ((Only.refl _ W).alloc _) (fun _ => e6) o
    rw [e6] at hO ⊢
    rw [s3]
    have Hs3 : Hid (W3.heap.size = E.w.heap.size + 5) := s3
    clear s3 e6 t3 r3 hW3 hB3 hc3 cq
    have tmc : ∀ W2, Tm E i W2 → W2.cell? ⟨W0.heap.size, 0, none⟩ = some (.func (.yield (E.w.heap.size + 1)) #[] #[]) ∧ W2.heap[W0.heap.size + 1]? = some (.cells #[.int .i64 0, .int .i64 0, .string ⟨#[]⟩, .pointer none, .slice none 0 0] 31 (0, 0)) ∧ Boxed W2 (W0.heap.size + 1 + 1) 3 (.int .i64 (i : Nat)) := fun W2 h2 => by
      rw [Hsz.out]
      exact ⟨h2.y.cell, h2.z, h2.pos⟩
    cases hf : (E.R i).fail
    · rcases hV : E.V i with ⟨vp, va, vl, vc⟩
      have hV' : Hid (E.V i = (vp, va, vl, vc)) := hV
      simp only [srcArgs, hf, Bool.false_eq_true, if_false, recOf, hV]
      clear hV
      gi_wp2
      refine ⟨⟨Below.heap_alloc _ _ _ (by omega), Below.heap_alloc _ _ _ (by omega)⟩, fun o => ?_⟩
      have hx1 := hi.mid g hRy (hO #[.int .i64 ((i : Int) + 1), .int .i64 ((i : Int) + 2), .string ⟨#[116]⟩, .pointer vp, .slice va vl vc] o)
      have hrow : ((W.alloc (.cells #[.int .i64 ((i : Int) + 1), .int .i64 ((i : Int) + 2), .string ⟨#[116]⟩, .pointer vp, .slice va vl vc] 31)).putObj (E.w.heap.size + 6) o).heap[W.heap.size]? = some (.cells #[.int .i64 ((i : Int) + 1), .int .i64 ((i : Int) + 2), .string ⟨#[116]⟩, .pointer vp, .slice va vl vc] 31 (0, 0)) := (World.putObj_heap_other (by omega)).trans (World.alloc_heap_new _ _)
      generalize hW1 : (W.alloc (.cells #[.int .i64 ((i : Int) + 1), .int .i64 ((i : Int) + 2), .string ⟨#[116]⟩, .pointer vp, .slice va vl vc] 31)).putObj (E.w.heap.size + 6) o = W1 at hx1 hrow ⊢
      clear hO hW1
      have hilt := hi.lt
      have hi1024 : i ≤ 1024 := Nat.le_trans (Nat.le_of_lt hilt) g.max
      have hon := hx1.core.only
      have hlook : ∀ W', Below W1.heap.size W1 W' → Calls Ybaf.prog 16 #[recV ((i : Int) + 1) ((i : Int) + 2) ⟨#[116]⟩ vp (.slice va vl vc), .string sK] W' fun e W2 => e = .returned (.tuple #[.string (E.vOf i), .bool (E.R i).has]) ∧ Below W'.heap.size W' W2 := by
        intro W' hb
        have := g.look i hilt W' (hon.andThen (Only.of_below hb (fun _ => False)) (fun _ _ hf => hf.elim))
        rw [recOf, hV'.out] at this
        exact this
      have cf := (g.rest' hon).f.cell
      have c0 : W1.cell? ⟨W.heap.size, 0, none⟩ = some (.int .i64 ((i : Int) + 1)) := cell_of hrow rfl
      have c1 : W1.cell? ⟨W.heap.size, 1, none⟩ = some (.int .i64 ((i : Int) + 2)) := cell_of hrow rfl
      have c2 : W1.cell? ⟨W.heap.size, 2, none⟩ = some (.string ⟨#[116]⟩) := cell_of hrow rfl
      have c3 : W1.cell? ⟨W.heap.size, 3, none⟩ = some (.pointer vp) := cell_of hrow rfl
      have c4 : W1.cell? ⟨W.heap.size, 4, none⟩ = some (.slice va vl vc) := cell_of hrow rfl
      have Hrow : Hid (W1.heap[W.heap.size]? = some (.cells #[.int .i64 ((i : Int) + 1), .int .i64 ((i : Int) + 2), .string ⟨#[116]⟩, .pointer vp, .slice va vl vc] 31 (0, 0))) := hrow
      have hs1 := hx1.size
      clear hrow hi
      cases hh : (E.R i).has
      · rw [hh, show E.vOf i = ⟨#[]⟩ by simp [Env.vOf, hh]] at hlook
        have hf15 := f15_miss F E.bN ((i : Int) + 1) ((i : Int) + 2) ⟨#[116]⟩ E.sE vp va vl vc E.aE W1 (by rw [hon.tape]; exact g.ans) (g.rest' hon).N (g.glob' hon) (g.globS' hon) hlook
        have hfI := CallsIn.inRound (E.w.heap.size + 6) ((callsIn_wide (n := 6)).2 hf15)
        clear hf15 hlook
        gi_wp2
        refine ⟨trivial, hfI.mono ?_⟩
        rintro e W2 ⟨be, t, rfl, hbe, hwrap, hb2⟩
        clear hfI c0 c1 c2 c3 c4 cf
        have hB4 : Below W1.heap.size W1 (W2.alloc (.cells #[.int .i64 0, .int .i64 0, .string ⟨#[]⟩, .pointer none, .slice none 0 0] 31)) := hb2.alloc hb2.size _
        have hwrap4 := heap_up hwrap (.cells #[.int .i64 0, .int .i64 0, .string ⟨#[]⟩, .pointer none, .slice none 0 0] 31)
        gi_wp2
        generalize hW4 : W2.alloc (.cells #[.int .i64 0, .int .i64 0, .string ⟨#[]⟩, .pointer none, .slice none 0 0] 31) = W4 at hB4 hwrap4 ⊢
        clear hW4 hwrap
        have hx4 := hx1.mid g hRy (Only.of_below hB4 (inL2 E))
        have hx4d := hx4.mid g hRy ((Only.refl (inL2 E) W4).drew)
        have hrow := (hB4.block _ (Array.getElem?_eq_some_iff.1 Hrow.out).1).trans Hrow.out
        obtain ⟨cy, hz, hpos⟩ := tmc _ hx4d.tm
        have cp := hpos.cell
        have c0 : W4.drew.cell? ⟨W.heap.size, 0, none⟩ = some (.int .i64 ((i : Int) + 1)) := cell_of (W := W4.drew) hrow rfl
        have c1 : W4.drew.cell? ⟨W.heap.size, 1, none⟩ = some (.int .i64 ((i : Int) + 2)) := cell_of (W := W4.drew) hrow rfl
        have c2 : W4.drew.cell? ⟨W.heap.size, 2, none⟩ = some (.string ⟨#[116]⟩) := cell_of (W := W4.drew) hrow rfl
        have c3 : W4.drew.cell? ⟨W.heap.size, 3, none⟩ = some (.pointer vp) := cell_of (W := W4.drew) hrow rfl
        have c4 : W4.drew.cell? ⟨W.heap.size, 4, none⟩ = some (.slice va vl vc) := cell_of (W := W4.drew) hrow rfl
        have z0 : W4.drew.cell? ⟨W0.heap.size + 1, 0, none⟩ = some (.int .i64 0) := cell_of hz rfl
        have z1 : W4.drew.cell? ⟨W0.heap.size + 1, 1, none⟩ = some (.int .i64 0) := cell_of hz rfl
        have z2 : W4.drew.cell? ⟨W0.heap.size + 1, 2, none⟩ = some (.string ⟨#[]⟩) := cell_of hz rfl
        have z3 : W4.drew.cell? ⟨W0.heap.size + 1, 3, none⟩ = some (.pointer none) := cell_of hz rfl
        have z4 : W4.drew.cell? ⟨W0.heap.size + 1, 4, none⟩ = some (.slice none 0 0) := cell_of hz rfl
        have hst := step_any (i : Int) ((i : Int) + 1) ((i : Int) + 2) ⟨#[116]⟩ vp va vl vc 76 (.pointer (some ⟨be, 0, none⟩)) W4.drew
        have hsI := CallsIn.inRound (E.w.heap.size + 6) ((callsIn_wide (n := 6)).2 hst)
        have f6 := hB4.block (E.w.heap.size + 6) (by omega)
        have f5 := hB4.block (E.w.heap.size + 5) (by omega)
        have Hf : Hid (_ ∧ _) := ⟨f6, f5⟩
        have Hw : Hid (W4.heap[be]? = some (.cells #[.string t, .iface 49 (.pointer (some E.aE))] 117 (0, 0))) := hwrap4
        have hmx := mixed
        have hsz4 := hB4.size
        have key : ∀ W6 b, W4.drew.heap.size ≤ b → W6.heap[b]? = some (.cells #[.int .i64 ((i : Int) + 1), .int .i64 ((i : Int) + 2), .iface 76 (.pointer (some ⟨be, 0, none⟩))] 44 (0, 0)) → Below W4.drew.heap.size W4.drew W6 →
            (W6.cell? ⟨W0.heap.size, 0, none⟩ = some (.func (.yield (E.w.heap.size + 1)) #[] #[]) ∧ W6.cell? ⟨W0.heap.size + 1, 0, none⟩ = some (.int .i64 0) ∧ W6.cell? ⟨W0.heap.size + 1, 1, none⟩ = some (.int .i64 0) ∧ W6.cell? ⟨W0.heap.size + 1, 2, none⟩ = some (.string ⟨#[]⟩) ∧ W6.cell? ⟨W0.heap.size + 1, 3, none⟩ = some (.pointer none) ∧ W6.cell? ⟨W0.heap.size + 1, 4, none⟩ = some (.slice none 0 0)) ∧
            YieldAt Fence.wide 8 Ybaf.prog (E.w.heap.size + 1) #[zeroRec, .iface 41 (.pointer (some ⟨b, 0, none⟩))] W6 fun e W' => e = .returned (.bool false) ∧ freePost (E.w.heap.size + 6) (E.w.heap.size + 5) (TB E Ry (i + 1)) (TX E Rn) W1 .ret { tmps := #[], defers := [] } W' := by
          intro W6 b hb hblk hb6
          have hx6 := hx4d.mid g hRy (Only.of_below hb6 (inL2 E))
          obtain ⟨cy6, hz6, _⟩ := tmc _ hx6.tm
          refine ⟨⟨cy6, cell_of hz6 rfl, cell_of hz6 rfl, cell_of hz6 rfl, cell_of hz6 rfl, cell_of hz6 rfl⟩, ?_⟩
          have hbl : be < W4.heap.size := (Array.getElem?_eq_some_iff.1 Hw.out).1
          have hwr6 : W6.heap[be]? = some (.cells #[.string t, .iface 49 (.pointer (some E.aE))] 117 (0, 0)) := (hb6.block be hbl).trans Hw.out
          have hit := hx6.item (r := zeroRec) (e := .iface 41 (.pointer (some ⟨b, 0, none⟩))) (.inr (.inl ⟨hf, hh, rfl, b, be, t, rfl, by have : W4.heap.size ≤ b := hb; omega, by omega, hblk, hwr6⟩))
          obtain ⟨fn, tmps, assign, body, hy, hR⟩ := hY _ _ hit hx6.ry
          refine ⟨fn, tmps, assign, body, hy, hR.mono ?_⟩
          rintro e W7 (⟨rfl, h7, ry7⟩ | ⟨rfl, h7, rn7⟩)
          · have := (h7.run.1 i (by simp)).2
            rw [hh] at this
            cases this
          · have k6 : W6.heap[E.w.heap.size + 6]? = W4.heap[E.w.heap.size + 6]? := hb6.block _ (show E.w.heap.size + 6 < W4.heap.size by omega)
            have k5 : W6.heap[E.w.heap.size + 5]? = W4.heap[E.w.heap.size + 5]? := hb6.block _ (show E.w.heap.size + 5 < W4.heap.size by omega)
            exact ⟨rfl, ⟨h7.h6.trans (k6.trans Hf.out.1), h7.h5.trans (k5.trans Hf.out.2)⟩, h7.fin, h7.size, rn7⟩
        obtain ⟨DD, hDD⟩ : ∃ DD : World → Prop, DD = fun W' => freePost (E.w.heap.size + 6) (E.w.heap.size + 5) (TB E Ry (i + 1)) (TX E Rn) W1 .ret { tmps := #[], defers := [] } W' := ⟨_, rfl⟩
        obtain ⟨CC, hCC⟩ : ∃ CC : World → Nat → Prop, CC = fun W6 b => (W6.cell? ⟨W0.heap.size, 0, none⟩ = some (.func (.yield (E.w.heap.size + 1)) #[] #[]) ∧ W6.cell? ⟨W0.heap.size + 1, 0, none⟩ = some (.int .i64 0) ∧ W6.cell? ⟨W0.heap.size + 1, 1, none⟩ = some (.int .i64 0) ∧ W6.cell? ⟨W0.heap.size + 1, 2, none⟩ = some (.string ⟨#[]⟩) ∧ W6.cell? ⟨W0.heap.size + 1, 3, none⟩ = some (.pointer none) ∧ W6.cell? ⟨W0.heap.size + 1, 4, none⟩ = some (.slice none 0 0)) ∧ YieldAt Fence.wide 8 Ybaf.prog (E.w.heap.size + 1) #[zeroRec, .iface 41 (.pointer (some ⟨b, 0, none⟩))] W6 fun e W' => e = .returned (.bool false) ∧ DD W' := ⟨_, rfl⟩
        have hkey : ∀ W6 b, W4.drew.heap.size ≤ b → W6.heap[b]? = some (.cells #[.int .i64 ((i : Int) + 1), .int .i64 ((i : Int) + 2), .iface 76 (.pointer (some ⟨be, 0, none⟩))] 44 (0, 0)) → Below W4.drew.heap.size W4.drew W6 → CC W6 b := by
          rw [hCC, hDD]
          exact key
        have Hcc : Hid (∀ W6 b, CC W6 b → _) := show ∀ W6 b, CC W6 b → _ from fun W6 b h => by rw [hCC] at h; exact h
        have Hdd : Hid (∀ W', DD W' → _) := show ∀ W', DD W' → _ from fun W' h => by rw [hDD] at h; exact h
        clear hst f6 f5 hz hpos hrow hwrap4 hx4 hx4d hY key hCC hDD
        refine wpIn_region_any hmx ?_
        change wpAnyIn _ _ _ _ _ _ _ _ _ W4.drew
        refine wpAnyIn_inv (m := falses) (St := fun f a w => ∃ b0 b1 b2 b3 b4 b5 b6 t32 t33, f = #[b0, b1, b2, b3, b4, b5, b6] ∧ a = { tmps := #[Value.func (.yield (E.w.heap.size + 1)) #[] #[], Value.pointer (some ⟨E.bq, 0, none⟩), Value.pointer (some ⟨E.bf, 0, none⟩), Value.pointer (some ⟨W0.heap.size, 0, none⟩), Value.pointer (some ⟨W0.heap.size + 1, 0, none⟩), Value.pointer (some ⟨W0.heap.size + 1 + 1, 0, none⟩), Value.pointer (some ⟨W.heap.size, 0, none⟩), Value.nilIface, Value.pointer (some ⟨W2.heap.size, 0, none⟩), Value.iface 76 (.pointer (some ⟨be, 0, none⟩)), Value.func (.func 6) #[] (srcCaps E.bRecs E.bP E.bErr E.bB), recV ((i : Int) + 1) ((i : Int) + 2) ⟨#[116]⟩ vp (.slice va vl vc), Value.nilIface, Value.nilIface, Value.bool false, undef, undef, undef, undef, Value.tuple #[zeroRec, Value.iface 76 (.pointer (some ⟨be, 0, none⟩))], Value.func (.func 15) #[] #[.pointer (some ⟨E.bN, 0, none⟩)], Value.agg #[.int .i64 ((i : Int) + 1), .int .i64 ((i : Int) + 2), .string ⟨#[116]⟩, .pointer vp, .slice va vl vc], Value.tuple #[zeroRec, Value.iface 76 (.pointer (some ⟨be, 0, none⟩))], zeroRec, Value.iface 76 (.pointer (some ⟨be, 0, none⟩)), Value.iface 76 (.pointer (some ⟨be, 0, none⟩)), Value.bool true, cond b0 (Value.func (.yield (E.w.heap.size + 1)) #[] #[]) undef, cond b1 (Value.agg #[.int .i64 0, .int .i64 0, .string ⟨#[]⟩, .pointer none, .slice none 0 0]) undef, cond b2 (Value.int .i64 (i : Int)) undef, cond b3 (Value.agg #[.int .i64 ((i : Int) + 1), .int .i64 ((i : Int) + 2), .string ⟨#[116]⟩, .pointer vp, .slice va vl vc]) undef, cond b4 (Value.iface 76 (.pointer (some ⟨be, 0, none⟩))) undef, t32, t33, undef, undef, undef, undef, undef, undef], defers := [] } ∧ (b5 = true → b2 = true ∧ b3 = true ∧ b4 = true) ∧ (b5 = false → w = W4.drew) ∧ (b6 = true → b0 = true ∧ b1 = true ∧ b5 = true) ∧ (b6 = false → b5 = true → ∃ b, t32 = .iface 41 (.pointer (some ⟨b, 0, none⟩)) ∧ CC w b) ∧ (b6 = true → DD w)) ?hm ?step ?fin 7 _ _ _ ?sz ?st
        case hm =>
          rintro f a w ⟨b0, b1, b2, b3, b4, b5, b6, t32, t33, rfl, _⟩ j hj
          exact ((okAll_at (by kernel_rfl) b0 b1 b2 b3 b4 b5 b6).1 j hj).2
        case st => exact ⟨false, false, false, false, false, false, false, undef, undef, rfl, rfl, (fun h => by cases h), fun _ => rfl, (fun h => by cases h), (fun _ h => by cases h), (fun h => by cases h)⟩
        case sz => decide
        case fin =>
          rintro f a w ⟨b0, b1, b2, b3, b4, b5, b6, t32, t33, rfl, rfl, _, _, _, _, h6⟩ hr
          have hb6 := (okAll_at (by kernel_rfl) b0 b1 b2 b3 b4 b5 b6).2 hr
          have hpost := h6 hb6
          gi_wp2
          exact Hdd.out _ hpost
        case step =>
          rintro f a w ⟨b0, b1, b2, b3, b4, b5, b6, t32, t33, rfl, rfl, h1, h2, h0, h3, h6⟩ j hj K hK
          have hok := ((okAll_at (by kernel_rfl) b0 b1 b2 b3 b4 b5 b6).1 j hj).1
          clear hj
          match j, hok with
          | 0, hok =>
            obtain rfl : b0 = false := by simpa [okR] using hok
            obtain rfl : b6 = false := by
              cases b6
              · rfl
              · have := (h0 rfl).1; cases this
            have hw : w.cell? ⟨W0.heap.size, 0, none⟩ = some (.func (.yield (E.w.heap.size + 1)) #[] #[]) := by
              cases b5
              · rw [h2 rfl]; exact cy
              · obtain ⟨b, _, hc⟩ := h3 rfl rfl
                exact (Hcc.out w b hc).1.1
            clear hok hmx hsI c0 c1 c2 c3 c4 z0 z1 z2 z3 z4 cy cp
            refine wpOpIn_of rfl ?_
            go_simp
            exact hK _ _ ⟨true, b1, b2, b3, b4, b5, false, t32, t33, rfl, rfl, h1, h2, (fun h => by cases h), h3, (fun h => by cases h)⟩
          | 1, hok =>
            obtain rfl : b1 = false := by simpa [okR] using hok
            obtain rfl : b6 = false := by
              cases b6
              · rfl
              · have := (h0 rfl).2.1; cases this
            obtain ⟨q0, q1, q2, q3, q4⟩ : w.cell? ⟨W0.heap.size + 1, 0, none⟩ = some (.int .i64 0) ∧ w.cell? ⟨W0.heap.size + 1, 1, none⟩ = some (.int .i64 0) ∧ w.cell? ⟨W0.heap.size + 1, 2, none⟩ = some (.string ⟨#[]⟩) ∧ w.cell? ⟨W0.heap.size + 1, 3, none⟩ = some (.pointer none) ∧ w.cell? ⟨W0.heap.size + 1, 4, none⟩ = some (.slice none 0 0) := by
              cases b5
              · rw [h2 rfl]; exact ⟨z0, z1, z2, z3, z4⟩
              · obtain ⟨b, _, hc⟩ := h3 rfl rfl
                exact (Hcc.out w b hc).1.2
            clear hok hmx hsI c0 c1 c2 c3 c4 z0 z1 z2 z3 z4 cy cp
            refine wpOpIn_of rfl ?_
            go_simp
            exact hK _ _ ⟨b0, true, b2, b3, b4, b5, false, t32, t33, rfl, rfl, h1, h2, (fun h => by cases h), h3, (fun h => by cases h)⟩
          | 2, hok =>
            obtain rfl : b2 = false := by simpa [okR] using hok
            obtain rfl : b5 = false := by
              cases b5
              · rfl
              · have := (h1 rfl).1; cases this
            obtain rfl : b6 = false := by
              cases b6
              · rfl
              · have := (h0 rfl).2.2; cases this
            obtain rfl := h2 rfl
            clear hok hmx hsI
            refine wpOpIn_of rfl ?_
            go_simp
            exact hK _ _ ⟨b0, b1, true, b3, b4, false, false, t32, t33, rfl, rfl, (fun h => by cases h), fun _ => rfl, (fun h => by cases h), (fun _ h => by cases h), (fun h => by cases h)⟩
          | 3, hok =>
            obtain rfl : b3 = false := by simpa [okR] using hok
            obtain rfl : b5 = false := by
              cases b5
              · rfl
              · have := (h1 rfl).2.1; cases this
            obtain rfl : b6 = false := by
              cases b6
              · rfl
              · have := (h0 rfl).2.2; cases this
            obtain rfl := h2 rfl
            clear hok hmx hsI
            refine wpOpIn_of rfl ?_
            go_simp
            exact hK _ _ ⟨b0, b1, b2, true, b4, false, false, t32, t33, rfl, rfl, (fun h => by cases h), fun _ => rfl, (fun h => by cases h), (fun _ h => by cases h), (fun h => by cases h)⟩
          | 4, hok =>
            obtain rfl : b4 = false := by simpa [okR] using hok
            obtain rfl : b5 = false := by
              cases b5
              · rfl
              · have := (h1 rfl).2.2; cases this
            obtain rfl : b6 = false := by
              cases b6
              · rfl
              · have := (h0 rfl).2.2; cases this
            obtain rfl := h2 rfl
            clear hok hmx hsI
            refine wpOpIn_of rfl ?_
            go_simp
            exact hK _ _ ⟨b0, b1, b2, b3, true, false, false, t32, t33, rfl, rfl, (fun h => by cases h), fun _ => rfl, (fun h => by cases h), (fun _ h => by cases h), (fun h => by cases h)⟩
          | 5, hok =>
            obtain ⟨⟨⟨rfl, rfl⟩, rfl⟩, rfl⟩ : ((b5 = false ∧ b2 = true) ∧ b3 = true) ∧ b4 = true := by simpa [okR] using hok
            obtain rfl : b6 = false := by
              cases b6
              · rfl
              · have := (h0 rfl).2.2; cases this
            obtain rfl := h2 rfl
            clear hok hmx
            refine wpOpIn_of rfl ?_
            go_simp
            refine ⟨trivial, hsI.mono ?_⟩
            rintro e W6 ⟨b, rfl, hb, hblk, hb6⟩
            have hc := hkey W6 b hb hblk hb6
            go_simp
            exact hK _ _ ⟨b0, b1, true, true, true, true, false, _, t33, rfl, rfl, (fun _ => ⟨rfl, rfl, rfl⟩), (fun h => by cases h), (fun h => by cases h), (fun _ _ => ⟨b, rfl, hc⟩), (fun h => by cases h)⟩
          | 6, hok =>
            obtain ⟨⟨⟨rfl, rfl⟩, rfl⟩, rfl⟩ : ((b6 = false ∧ b0 = true) ∧ b1 = true) ∧ b5 = true := by simpa [okR] using hok
            obtain ⟨rfl, rfl, rfl⟩ := h1 rfl
            obtain ⟨b, rfl, hc⟩ := h3 rfl rfl
            obtain ⟨⟨y0, y1, y2, y3, y4, y5⟩, fn, tmps, assign, body, hy, hR⟩ := Hcc.out w b hc
            clear hok hmx hsI c0 c1 c2 c3 c4 z0 z1 z2 z3 z4 cy cp
            refine wpOpIn_of rfl ?_
            go_simp
            refine (roundAny hR).mono ?_
            rintro e W7 ⟨rfl, hpost⟩
            go_simp
            exact hK _ _ ⟨true, true, true, true, true, true, true, _, _, rfl, rfl, h1, (fun h => by cases h), (fun _ => ⟨rfl, rfl, rfl⟩), (fun h => by cases h), (fun _ => hpost)⟩
      · rw [hh] at hlook
        have hf15 := f15_hit E.bN ((i : Int) + 1) ((i : Int) + 2) ⟨#[116]⟩ (E.vOf i) vp va vl vc W1 (g.rest' hon).N hlook
        have hfI := CallsIn.inRound (E.w.heap.size + 6) ((callsIn_wide (n := 6)).2 hf15)
        clear hf15 hlook
        gi_wp2
        refine ⟨trivial, hfI.mono ?_⟩
        rintro e W2 ⟨rfl, hb2⟩
        clear hfI c0 c1 c2 c3 c4 cf
        have hB4 : Below W1.heap.size W1 (W2.alloc (.cells #[.int .i64 ((i : Int) + 1), .int .i64 ((i : Int) + 2), .string ⟨#[116]⟩, .pointer vp, .slice va vl vc] 31)) := hb2.alloc hb2.size _
        have hx2 := hx1.mid g hRy (Only.of_below hB4 (inL2 E))
        obtain ⟨cy, hz, hpos⟩ := tmc _ hx2.tm
        have hit := hx2.item (r := recV ((i : Int) + 1) ((i : Int) + 2) ⟨#[116]⟩ vp (.slice va vl vc)) (e := .nilIface) (.inr (.inr ⟨hf, hh, by rw [recOf, hV'.out], rfl⟩))
        obtain ⟨fn, tmps, assign, body, hy, hR⟩ := hY _ _ hit hx2.ry
        have f6 : (W2.alloc (.cells #[.int .i64 ((i : Int) + 1), .int .i64 ((i : Int) + 2), .string ⟨#[116]⟩, .pointer vp, .slice va vl vc] 31)).heap[E.w.heap.size + 6]? = W1.heap[E.w.heap.size + 6]? := hB4.block _ (by omega)
        have f5 : (W2.alloc (.cells #[.int .i64 ((i : Int) + 1), .int .i64 ((i : Int) + 2), .string ⟨#[116]⟩, .pointer vp, .slice va vl vc] 31)).heap[E.w.heap.size + 5]? = W1.heap[E.w.heap.size + 5]? := hB4.block _ (by omega)
        have Hp : Hid (W0.heap.size + 1 + 1 = E.w.heap.size + 4) := by show _ = _; rw [Hsz.out]
        clear hit hz hpos
        have Hf : Hid (_ ∧ _) := ⟨f6, f5⟩
        clear f6 f5
        gi_wp2
        refine (roundAny hR).mono ?_
        clear hy hR cy
        rintro e W5 (⟨rfl, h5, ry5⟩ | ⟨rfl, h5, rn5⟩)
        · have hpos := (tmc _ h5.tm).2.2
          have cp := hpos.cell
          have fp := hpos.frozen
          have hadv := TB.advance g hRy h5 ry5
          clear hpos
          gi_wp2
          rw [Hp.out]
          exact ⟨⟨(Below.heap_setCell _ _ _ _ (by simp)).trans (h5.h6.trans Hf.out.1), (Below.heap_setCell _ _ _ _ (by simp)).trans (h5.h5.trans Hf.out.2)⟩, hadv⟩
        · gi_wp2
          exact ⟨⟨h5.h6.trans Hf.out.1, h5.h5.trans Hf.out.2⟩, h5.fin, h5.size, rn5⟩
    · simp only [srcArgs, hf, if_true]
      gi_wp2
      refine ⟨⟨Below.heap_alloc _ _ _ (by omega), Below.heap_alloc _ _ _ (by omega)⟩, fun o => ?_⟩
      have hx1 := hi.mid g hRy (hO #[.int .i64 ((i : Int) + 1), .int .i64 0, .string ⟨#[]⟩, .pointer none, .slice none 0 0] o)
      generalize hW1 : (W.alloc (.cells #[.int .i64 ((i : Int) + 1), .int .i64 0, .string ⟨#[]⟩, .pointer none, .slice none 0 0] 31)).putObj (E.w.heap.size + 6) o = W1 at hx1 ⊢
      clear hO hW1 hi
      obtain ⟨cy, hz, hpos⟩ := tmc _ hx1.tm
      have c0 : W1.cell? ⟨W0.heap.size + 1, 0, none⟩ = some (.int .i64 0) := cell_of hz rfl
      have c1 : W1.cell? ⟨W0.heap.size + 1, 1, none⟩ = some (.int .i64 0) := cell_of hz rfl
      have c2 : W1.cell? ⟨W0.heap.size + 1, 2, none⟩ = some (.string ⟨#[]⟩) := cell_of hz rfl
      have c3 : W1.cell? ⟨W0.heap.size + 1, 3, none⟩ = some (.pointer none) := cell_of hz rfl
      have c4 : W1.cell? ⟨W0.heap.size + 1, 4, none⟩ = some (.slice none 0 0) := cell_of hz rfl
      have hit := hx1.item (r := zeroRec) (e := .iface 49 (.pointer (some E.aS))) (.inl ⟨hf, rfl, rfl⟩)
      obtain ⟨fn, tmps, assign, body, hy, hR⟩ := hY _ _ hit hx1.ry
      clear hit hz hpos
      gi_wp2
      refine (roundAny hR).mono ?_
      clear hy hR
      rintro e W4 (⟨rfl, h4, ry4⟩ | ⟨rfl, h4, rn4⟩)
      · have := (h4.run.1 i (by simp)).1
        rw [hf] at this
        cases this
      · clear c0 c1 c2 c3 c4 cy
        gi_wp2
        exact ⟨⟨h4.h6, h4.h5⟩, h4.fin, h4.size, rn4⟩
  case done =>
    rintro W hE hK
    gi_wp2
    refine ⟨by simp, .inl ⟨_, _, rfl, run_takeDeferred hK, ?_⟩⟩
    have h := hE.put g hRy (l := W3.heap.size) (by omega) (.deferred none)
    exact ⟨_, results_none rfl _ _ _, ⟨_, rfl⟩, .inl ⟨⟨h.core, h.run⟩, h.ry⟩⟩
  case left =>
    rintro i W hX hK
    gi_wp2
    refine ⟨by simp, .inl ⟨_, _, rfl, run_takeDeferred hK, ?_⟩⟩
    have h := hX.put g hRn (l := W3.heap.size) (by omega) (.deferred none)
    exact ⟨_, results_none rfl _ _ _, ⟨_, rfl⟩, .inr ⟨⟨0, .nilIface, .nilIface, _, _⟩, ⟨h.fin, h.size, rfl, rfl⟩, h.rn⟩⟩
end Go.Proofs.YbulkckseFmt
