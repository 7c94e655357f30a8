import Derived.Test.YbulkckseFmtMake
namespace Go.Proofs.YbulkckseFmt
open Go Go.RowKit Go.Maps Go.Stop

/-- The law's first argument, as it lies. -/
def RecsAt (n : Nat) (R : Nat → RC) (ra : Option Addr) (w : World) : Prop :=
  ∀ j, j < n → ∃ br off, ra = some ⟨br, off, none⟩ ∧ w.cell? ⟨br, off + j * 4, none⟩ = some (.bool (R j).has) ∧ w.cell? ⟨br, off + j * 4 + 1, none⟩ = some (.bool (R j).wide) ∧ w.cell? ⟨br, off + j * 4 + 2, none⟩ = some (.int .u8 (R j).val) ∧ w.cell? ⟨br, off + j * 4 + 3, none⟩ = some (.bool (R j).fail)
def ValsAt (m : Nat) (v : Nat → Int) (va : Option Addr) (w : World) : Prop :=
  ∀ j, j < m → ∃ bv off, va = some ⟨bv, off, none⟩ ∧ w.cell? ⟨bv, off + j, none⟩ = some (.int .u8 (v j))

theorem RecsAt.below {n : Nat} {R : Nat → RC} {ra : Option Addr} {w w' : World} (h : RecsAt n R ra w) (hb : Below w.heap.size w w') : RecsAt n R ra w' := fun j hj => by
  obtain ⟨br, off, e, c0, c1, c2, c3⟩ := h j hj
  have hl : br < w.heap.size := lt_of_cell c0
  exact ⟨br, off, e, (hb.cell (p := ⟨br, _, none⟩) hl).trans c0, (hb.cell (p := ⟨br, _, none⟩) hl).trans c1, (hb.cell (p := ⟨br, _, none⟩) hl).trans c2, (hb.cell (p := ⟨br, _, none⟩) hl).trans c3⟩
theorem ValsAt.below {m : Nat} {v : Nat → Int} {va : Option Addr} {w w' : World} (h : ValsAt m v va w) (hb : Below w.heap.size w w') : ValsAt m v va w' := fun j hj => by
  obtain ⟨br, off, e, c0⟩ := h j hj
  have hl : br < w.heap.size := lt_of_cell c0
  exact ⟨br, off, e, (hb.cell (p := ⟨br, _, none⟩) hl).trans c0⟩

/-- What zzs4333brec has made of the first k entries. -/
def Made (R : Nat → RC) (V : VT) (lo0 k : Nat) (w : World) : Prop :=
  ∀ j, j < k → ∃ lo hi, lo0 ≤ lo ∧ hi ≤ w.heap.size ∧ LookOK lo hi w (recOf V j) (if (R j).has then bvalS (R j).val else ⟨#[]⟩) (R j).has

def sF : ByteArray := ⟨#[115, 111, 117, 114, 99, 101, 32, 102, 97, 105, 108, 101, 100]⟩

/-- The state while 'built' is filled: k records stand. -/
structure Bld (B n : Nat) (R : Nat → RC) (ra : Option Addr) (rcap : Nat) (V : VT) (k : Nat) (w wr : World) : Prop where
  below : Below B w wr
  recs : Boxed wr B 22 (.slice ra n rcap)
  serr : wr.heap[B + 1]? = some (.cells #[.string sF] 51 (0, 0))
  err : Boxed wr (B + 1 + 1) 25 (.iface 49 (.pointer (some ⟨B + 1, 0, none⟩)))
  row : wr.rowIs (B + 1 + 1 + 1) 31 (n * 5) (builtAt V k)
  built : Boxed wr (B + 1 + 1 + 1 + 1) 27 (.slice (some ⟨B + 1 + 1 + 1, 0, none⟩) n n)
  made : Made R V (B + 5) k wr
  size : B + 5 ≤ wr.heap.size

theorem Made.only {R : Nat → RC} {V : VT} {lo k : Nat} {S : Nat → Prop} {w w' : World} (h : Made R V lo k w) (ho : Only S w w') (hS : ∀ b, S b → b < lo) : Made R V lo k w' := fun j hj => by
  obtain ⟨l, hi, h1, h2, h3⟩ := h j hj
  exact ⟨l, hi, h1, Nat.le_trans h2 ho.size, h3.same fun b hb1 hb2 => ho.block b (by omega) (fun hs => by have := hS b hs; omega)⟩

theorem Bld.only {B n : Nat} {R : Nat → RC} {ra : Option Addr} {rcap : Nat} {V : VT} {k : Nat} {w wr w' : World} (h : Bld B n R ra rcap V k w wr) (hb : Below wr.heap.size wr w') : Bld B n R ra rcap V k w w' := by
  have ho : Only (fun _ => False) wr w' := Only.of_below hb _
  exact ⟨h.below.trans (hb.mono (by have := h.size; omega)), ho.at h.recs id, ho.at h.serr id, ho.at h.err id, h.row.of_block (hb.block _ h.row.lt), ho.at h.built id, h.made.only ho (fun _ hf => hf.elim), Nat.le_trans h.size ho.size⟩

/-- One record more. -/
theorem Bld.succ {B n : Nat} {R : Nat → RC} {ra : Option Addr} {rcap : Nat} {V : VT} {k : Nat} {w wr w1 : World} (h : Bld B n R ra rcap V k w wr) (x : Option Addr × Option Addr × Nat × Nat) (hb : Below wr.heap.size wr w1)
    (hl : LookOK wr.heap.size w1.heap.size w1 (recV ((k : Int) + 1) ((k : Int) + 2) ⟨#[116]⟩ x.1 (.slice x.2.1 x.2.2.1 x.2.2.2)) (if (R k).has then bvalS (R k).val else ⟨#[]⟩) (R k).has) :
    Bld B n R ra rcap (V.upd k x) (k + 1) w (((((w1.setCell ⟨B + 1 + 1 + 1, k * 5, none⟩ (.int .i64 ((k : Int) + 1))).setCell ⟨B + 1 + 1 + 1, k * 5 + 1, none⟩ (.int .i64 ((k : Int) + 2))).setCell ⟨B + 1 + 1 + 1, k * 5 + 2, none⟩ (.string ⟨#[116]⟩)).setCell ⟨B + 1 + 1 + 1, k * 5 + 3, none⟩ (.pointer x.1)).setCell ⟨B + 1 + 1 + 1, k * 5 + 4, none⟩ (.slice x.2.1 x.2.2.1 x.2.2.2)) := by
  have h1 := h.only hb
  obtain ⟨W2, hW2⟩ : ∃ W2, W2 = (((((w1.setCell ⟨B + 1 + 1 + 1, k * 5, none⟩ (.int .i64 ((k : Int) + 1))).setCell ⟨B + 1 + 1 + 1, k * 5 + 1, none⟩ (.int .i64 ((k : Int) + 2))).setCell ⟨B + 1 + 1 + 1, k * 5 + 2, none⟩ (.string ⟨#[116]⟩)).setCell ⟨B + 1 + 1 + 1, k * 5 + 3, none⟩ (.pointer x.1)).setCell ⟨B + 1 + 1 + 1, k * 5 + 4, none⟩ (.slice x.2.1 x.2.2.1 x.2.2.2)) := ⟨_, rfl⟩
  have hrow := builtAt_succ h1.row x
  rw [← hW2] at hrow ⊢
  have ho : Only (fun b => b = B + 1 + 1 + 1) w1 W2 := by
    rw [hW2]
    have f : ∀ {w' : World} (i : Nat) (u : Value), Only (fun b => b = B + 1 + 1 + 1) w1 w' → Only (fun b => b = B + 1 + 1 + 1) w1 (w'.setCell ⟨B + 1 + 1 + 1, i, none⟩ u) := fun i u hh => Only.setCell (S := fun b => b = B + 1 + 1 + 1) hh (p := ⟨B + 1 + 1 + 1, i, none⟩) (fun _ => rfl) u
    exact f _ _ (f _ _ (f _ _ (f _ _ (f _ _ (Only.refl _ w1)))))
  have hs := h.size
  have hs1 := hb.size
  refine ⟨h1.below.trans (ho.below (by omega) (fun b _ hb => by omega)), ho.at h1.recs (by omega), ho.at h1.serr (by omega), ho.at h1.err (by omega), hrow, ho.at h1.built (by omega), ?_, Nat.le_trans h1.size ho.size⟩
  intro j hj
  by_cases e : j = k
  · subst e
    refine ⟨wr.heap.size, w1.heap.size, by omega, ho.size, ?_⟩
    have hr : recOf (V.upd j x) j = recV ((j : Int) + 1) ((j : Int) + 2) ⟨#[116]⟩ x.1 (.slice x.2.1 x.2.2.1 x.2.2.2) := by simp [recOf, VT.upd]
    rw [hr]
    exact hl.same fun b hb1 hb2 => ho.block b hb2 (by omega)
  · obtain ⟨l, hi, g1, g2, g3⟩ := h1.made j (by omega)
    refine ⟨l, hi, g1, Nat.le_trans g2 ho.size, ?_⟩
    have hr : recOf (V.upd k x) j = recOf V j := by simp [recOf, VT.upd, e]
    rw [hr]
    exact g3.same fun b hb1 hb2 => ho.block b (by omega) (by omega)

theorem frozen_set {w : World} {p q : Addr} (h : w.frozen? q = false) (v : Value) : (w.setCell p v).frozen? q = false := by
  by_cases e : q.block = p.block
  · simp only [World.frozen?, World.setCell] at h ⊢
    rw [e] at h ⊢
    rw [Array.getElem?_modify]
    cases hh : w.heap[p.block]? with
    | none => simp
    | some o =>
      rw [hh] at h
      cases o <;> simp_all
  · simp only [World.frozen?, Below.heap_setCell w p v q.block e] at h ⊢
    exact h

theorem chain5 {w1 : World} {bb o : Nat} {f : Nat → Value} (hc : ∀ q, q < 5 → w1.cell? ⟨bb, o + q, none⟩ = some (f q)) (hf : ∀ q, w1.frozen? ⟨bb, q, none⟩ = false) (x0 x1 x2 x3 : Value) :
    (w1.cell? ⟨bb, o, none⟩ = some (f 0) ∧ w1.frozen? ⟨bb, o, none⟩ = false) ∧
    ((w1.setCell ⟨bb, o, none⟩ x0).cell? ⟨bb, o + 1, none⟩ = some (f 1) ∧ (w1.setCell ⟨bb, o, none⟩ x0).frozen? ⟨bb, o + 1, none⟩ = false) ∧
    (((w1.setCell ⟨bb, o, none⟩ x0).setCell ⟨bb, o + 1, none⟩ x1).cell? ⟨bb, o + 2, none⟩ = some (f 2) ∧ ((w1.setCell ⟨bb, o, none⟩ x0).setCell ⟨bb, o + 1, none⟩ x1).frozen? ⟨bb, o + 2, none⟩ = false) ∧
    ((((w1.setCell ⟨bb, o, none⟩ x0).setCell ⟨bb, o + 1, none⟩ x1).setCell ⟨bb, o + 2, none⟩ x2).cell? ⟨bb, o + 3, none⟩ = some (f 3) ∧ (((w1.setCell ⟨bb, o, none⟩ x0).setCell ⟨bb, o + 1, none⟩ x1).setCell ⟨bb, o + 2, none⟩ x2).frozen? ⟨bb, o + 3, none⟩ = false) ∧
    (((((w1.setCell ⟨bb, o, none⟩ x0).setCell ⟨bb, o + 1, none⟩ x1).setCell ⟨bb, o + 2, none⟩ x2).setCell ⟨bb, o + 3, none⟩ x3).cell? ⟨bb, o + 4, none⟩ = some (f 4) ∧ ((((w1.setCell ⟨bb, o, none⟩ x0).setCell ⟨bb, o + 1, none⟩ x1).setCell ⟨bb, o + 2, none⟩ x2).setCell ⟨bb, o + 3, none⟩ x3).frozen? ⟨bb, o + 4, none⟩ = false) :=
  ⟨⟨hc 0 (by decide), hf _⟩, ⟨cell_set_off (hc 1 (by decide)) (by omega) _, frozen_set (hf _) _⟩, ⟨cell_set_off (cell_set_off (hc 2 (by decide)) (by omega) _) (by omega) _, frozen_set (frozen_set (hf _) _) _⟩,
   ⟨cell_set_off (cell_set_off (cell_set_off (hc 3 (by decide)) (by omega) _) (by omega) _) (by omega) _, frozen_set (frozen_set (frozen_set (hf _) _) _) _⟩,
   ⟨cell_set_off (cell_set_off (cell_set_off (cell_set_off (hc 4 (by decide)) (by omega) _) (by omega) _) (by omega) _) (by omega) _, frozen_set (frozen_set (frozen_set (frozen_set (hf _) _) _) _) _⟩⟩


/-- The row 'strs' behind k strings. -/
def strAt (v : Nat → Int) (k c : Nat) : Value := if c < k then .string (bvalS (v c)) else .string ⟨#[]⟩
theorem strAt_zero (w : World) (v : Nat → Int) (m : Nat) : (w.alloc (.cells (madeCells #[.string ⟨#[]⟩] m) 9)).rowIs w.heap.size 9 m (strAt v 0) :=
  (World.rowIs_made w (.string ⟨#[]⟩) m 9).congr fun i _ => by simp [strAt]
theorem strAt_succ {w : World} {b m k : Nat} {v : Nat → Int} (h : w.rowIs b 9 m (strAt v k)) : (w.setCell ⟨b, k, none⟩ (.string (bvalS (v k)))).rowIs b 9 m (strAt v (k + 1)) :=
  (h.set k _).congr fun j _ => by
    simp only [strAt]
    by_cases e : j = k
    · subst e; simp
    · rw [if_neg e]
      by_cases hl : j < k
      · rw [if_pos hl, if_pos (by omega)]
      · rw [if_neg hl, if_neg (by omega)]

/-- The state while 'strs' is filled. -/
structure Sts (C m : Nat) (v : Nat → Int) (k : Nat) (wA wr : World) : Prop where
  below : Below C wA wr
  P : Boxed wr C 3 (.int .i64 0)
  row : wr.rowIs (C + 1) 9 m (strAt v k)
  size : wr.heap.size = C + 2
theorem Sts.succ {C m : Nat} {v : Nat → Int} {k : Nat} {wA wr : World} (h : Sts C m v k wA wr) : Sts C m v (k + 1) wA (wr.setCell ⟨C + 1, k, none⟩ (.string (bvalS (v k)))) :=
  ⟨h.below.setCell (by simp) _, (Below.heap_setCell _ _ _ _ (by simp)).trans h.P, strAt_succ h.row, by rw [sz_set]; exact h.size⟩
end Go.Proofs.YbulkckseFmt
