import Derived.Test.YbulkckseFmtPre
namespace Go.Proofs.YbulkckseFmt
open Go Go.RowKit Go.Maps Go.Stop

theorem bvalS_size (x : Int) : (bvalS x).size ≤ maxLen := by
  have h2 : (2 : Nat) ≤ maxLen := by decide
  unfold bvalS
  split
  · exact Nat.zero_le _
  split
  · exact Nat.le_trans (by decide) h2
  split
  · exact Nat.le_trans (by decide) h2
  · exact Nat.le_trans (by decide) h2

def strsOf (v : Nat → Int) (m : Nat) : List ByteArray := (List.range m).map fun j => bvalS (v j)
theorem strsOf_length (v : Nat → Int) (m : Nat) : (strsOf v m).length = m := by simp [strsOf]
theorem strsOf_at (v : Nat → Int) (m j : Nat) (hj : j < m) : (strsOf v m)[j]?.getD ByteArray.empty = bvalS (v j) := by simp [strsOf, hj]

/-- The world where RestrictField is called. -/
def wD (lim : Nat) (wB : World) : World := ((((wB.alloc (.cells #[.int .i64 (lim : Nat)] 3)).alloc (.cells #[.slice none 0 0] 27)).alloc (.cells #[.slice none 0 0] 39)).alloc (.cells #[.bool false] 4)).alloc (.cells #[.bool false] 4)

theorem restrict_here {B C m : Nat} {v : Nat → Int} {lim : Nat} {wA wB : World} (hm : m ≤ 1024) (hst : Sts C m v m wA wB) :
    Calls Ybaf.prog 8 #[.func (.func 6) #[] (srcCaps B C (B + 1 + 1) (B + 1 + 1 + 1 + 1)), .string ⟨#[107]⟩, .slice (some ⟨C + 1, 0, none⟩) m m] (wD lim wB) fun e W' => ∃ bN bW bm bq bf bs bk n, e = .returned (.func (.func 27) #[] #[.pointer (some ⟨bs, 0, none⟩), .pointer (some ⟨bk, 0, none⟩)]) ∧ Rest n (strsOf v m) (.func 6) (srcCaps B C (B + 1 + 1) (B + 1 + 1 + 1 + 1)) bN bW bm bq bf bs bk W' ∧ ((wD lim wB).heap.size ≤ bN ∧ (wD lim wB).heap.size ≤ bW ∧ (wD lim wB).heap.size ≤ bm ∧ (wD lim wB).heap.size ≤ bq ∧ (wD lim wB).heap.size ≤ bf ∧ (wD lim wB).heap.size ≤ bs ∧ (wD lim wB).heap.size ≤ bk) ∧ Below (wD lim wB).heap.size (wD lim wB) W' := by
  have hl := hst.row.lt
  have hr : (wD lim wB).rowIs (C + 1) 9 m (strAt v m) := ((((hst.row.alloc _).alloc _).alloc _).alloc _).alloc _
  have h := restrict_any (.func 6) (srcCaps B C (B + 1 + 1) (B + 1 + 1 + 1 + 1)) (C + 1) m (strsOf v m) (wD lim wB) (by rw [strsOf_length]; exact hm) (fun t ht => by
      obtain ⟨j, _, rfl⟩ := List.mem_map.1 ht
      exact bvalS_size _) hr.lt (fun j hj => by
      rw [strsOf_length] at hj
      rw [hr.cell hj, strsOf_at v m j hj]
      simp [strAt, hj])
  rw [strsOf_length] at h
  exact h

/-- The run's numbers. -/
def envOf (n m : Nat) (R : Nat → RC) (v : Nat → Int) (V : VT) (ra : Option Addr) (rcap lim B C : Nat) (aE : Addr) (sE : ByteArray) (bN bW bm bq bf bs bk mapn : Nat) (wE : World) : Env :=
  { n := n, R := R, L := strsOf v m, lim := lim, V := V, ra := ra, rcap := rcap, bRecs := B, bErr := B + 1 + 1, bB := B + 1 + 1 + 1 + 1, bb := B + 1 + 1 + 1, aS := ⟨B + 1, 0, none⟩, aE := aE, sE := sE, bP := C, bS := C + 2 + 1 + 1 + 1, bL := C + 2 + 1 + 1 + 1 + 1, bR := C + 2 + 1, bE := C + 2 + 1 + 1, bM := C + 2,
    mapn := mapn, bN := bN, bW := bW, bm := bm, bq := bq, bf := bf, bs := bs, bk := bk,
    w := wE.alloc (.cells #[.func (.func 9) #[] #[.pointer (some ⟨C + 2 + 1 + 1 + 1, 0, none⟩), .pointer (some ⟨C + 2 + 1 + 1 + 1 + 1, 0, none⟩), .pointer (some ⟨C + 2 + 1, 0, none⟩), .pointer (some ⟨C + 2 + 1 + 1, 0, none⟩), .pointer (some ⟨C + 2, 0, none⟩)]] 35) }

theorem good_here {F : Interp} {n m : Nat} {R : Nat → RC} {v : Nat → Int} {V : VT} {ra : Option Addr} {rcap lim B C : Nat} {aE : Addr} {sE : ByteArray} {bN bW bm bq bf bs bk mapn : Nat} {w wA wB wE : World}
    (hn : n ≤ 1024) (hl8 : lim < 8) (hB : w.heap.size = B) (hR : RecsAt n R ra w) (hF : F.answers w.tape) (hE : w.cell? ⟨0, 0, none⟩ = some (.iface 49 (.pointer (some aE)))) (hES : w.cell? aE = some (.string sE))
    (hbl : Bld B n R ra rcap V n w wA) (hC : wA.heap.size = C) (hst : Sts C m v m wA wB)
    (hrest : Rest mapn (strsOf v m) (.func 6) (srcCaps B C (B + 1 + 1) (B + 1 + 1 + 1 + 1)) bN bW bm bq bf bs bk wE)
    (hlo : (wD lim wB).heap.size ≤ bN ∧ (wD lim wB).heap.size ≤ bW ∧ (wD lim wB).heap.size ≤ bm ∧ (wD lim wB).heap.size ≤ bq ∧ (wD lim wB).heap.size ≤ bf ∧ (wD lim wB).heap.size ≤ bs ∧ (wD lim wB).heap.size ≤ bk)
    (hbe : Below (wD lim wB).heap.size (wD lim wB) wE) :
    (envOf n m R v V ra rcap lim B C aE sE bN bW bm bq bf bs bk mapn wE).Good F ∧ Core (envOf n m R v V ra rcap lim B C aE sE bN bW bm bq bf bs bk mapn wE) 0 0 (envOf n m R v V ra rcap lim B C aE sE bN bW bm bq bf bs bk mapn wE).w := by
  have hsB := hst.size
  have hsD : (wD lim wB).heap.size = C + 7 := by simp [wD]; omega
  rw [hsD] at hlo hbe
  have hsE := hbe.size
  rw [hsD] at hsE
  have hBC := hbl.size
  -- the way from wA to the end
  have bD : Below (C + 2) wB (wD lim wB) := ((((((Below.refl _ wB).alloc (by omega) _).alloc (by simp; omega) _).alloc (by simp; omega) _).alloc (by simp; omega) _).alloc (by simp; omega) _)
  obtain ⟨wF, hwF⟩ : ∃ wF, wF = wE.alloc (.cells #[.func (.func 9) #[] #[.pointer (some ⟨C + 2 + 1 + 1 + 1, 0, none⟩), .pointer (some ⟨C + 2 + 1 + 1 + 1 + 1, 0, none⟩), .pointer (some ⟨C + 2 + 1, 0, none⟩), .pointer (some ⟨C + 2 + 1 + 1, 0, none⟩), .pointer (some ⟨C + 2, 0, none⟩)]] 35) := ⟨_, rfl⟩
  have hsF : wF.heap.size = wE.heap.size + 1 := by rw [hwF]; simp
  have bEF : Below wE.heap.size wE wF := by rw [hwF]; exact (Below.refl _ wE).alloc (Nat.le_refl _) _
  have bDF : Below (C + 7) (wD lim wB) wF := hbe.trans (bEF.mono (by omega))
  have bBF : Below (C + 2) wB wF := bD.trans (bDF.mono (by omega))
  have bAF : Below C wA wF := hst.below.trans (bBF.mono (by omega))
  have bwF : Below B w wF := hbl.below.trans (bAF.mono (by omega))
  have bwF' : Below w.heap.size w wF := by rw [hB]; exact bwF
  have upA : ∀ b, b < C → wF.heap[b]? = wA.heap[b]? := fun b hb => bAF.block b hb
  have dM : Boxed wF (C + 2) 3 (.int .i64 (lim : Nat)) := (bDF.block _ (by omega)).trans (heap_up (heap_up (heap_up (heap_up (heap_new _ _ (by omega)) _) _) _) _)
  have dR : Boxed wF (C + 2 + 1) 27 (.slice none 0 0) := (bDF.block _ (by omega)).trans (heap_up (heap_up (heap_up (heap_new _ _ (by simp; omega)) _) _) _)
  have dE : Boxed wF (C + 2 + 1 + 1) 39 (.slice none 0 0) := (bDF.block _ (by omega)).trans (heap_up (heap_up (heap_new _ _ (by simp; omega)) _) _)
  have dS : Boxed wF (C + 2 + 1 + 1 + 1) 4 (.bool false) := (bDF.block _ (by omega)).trans (heap_up (heap_new _ _ (by simp; omega)) _)
  have dL : Boxed wF (C + 2 + 1 + 1 + 1 + 1) 4 (.bool false) := (bDF.block _ (by omega)).trans (heap_new _ _ (by simp; omega))
  have dP : Boxed wF C 3 (.int .i64 0) := (bBF.block _ (by omega)).trans hst.P
  have hw : (envOf n m R v V ra rcap lim B C aE sE bN bW bm bq bf bs bk mapn wE).w = wF := by rw [hwF]; rfl
  have lE0 := lt_of_cell hE
  have lES := lt_of_cell hES
  have five_iff : ∀ b, (envOf n m R v V ra rcap lim B C aE sE bN bW bm bq bf bs bk mapn wE).five b ↔ (b = C ∨ b = C + 2 + 1 + 1 + 1 ∨ b = C + 2 + 1 + 1 + 1 + 1 ∨ b = C + 2 + 1 ∨ b = C + 2 + 1 + 1) := fun b => Iff.rfl
  have hrl := hrest
  have upE : ∀ {b : Nat} {t : TypeId} {x : Value}, Boxed wE b t x → Boxed wF b t x := fun h => (bEF.block _ h.lt).trans h
  refine ⟨⟨hn, hl8, ?_, ?_, ?_, ?_, ?_, ?_, ?_, ?_, ?_, ?_, ?_, ?_, ?_, ?_⟩, ?_⟩
  · rw [hw]
    show Stat n R ra rcap B (B + 1 + 1) (B + 1 + 1 + 1 + 1) (B + 1 + 1 + 1) ⟨B + 1, 0, none⟩ V wF
    refine ⟨(upA _ (by omega)).trans hbl.recs, hR.below bwF', (upA _ (by omega)).trans hbl.err, (upA _ (by omega)).trans hbl.built, fun j hj => ?_⟩
    exact built_cells (hbl.row.of_block (upA _ (by omega))) j hj
  · rw [hw]
    exact ⟨upE hrest.N, upE hrest.M, ownsMap_below hrest.own bEF hrest.own.lt, upE hrest.q, upE hrest.f, upE hrest.s, upE hrest.k⟩
  · rw [hw]; exact dM
  · rw [hw]
    have : wF.heap.size - 1 = wE.heap.size := by omega
    rw [this, hwF]
    exact World.alloc_heap_new _ _
  · rw [hw]; exact (bwF'.cell (p := ⟨0, 0, none⟩) lE0).trans hE
  · rw [hw]; exact (bwF'.cell (p := aE) lES).trans hES
  · rw [hw, bwF.tape]; exact hF
  · intro j
    show (if (R j).has then bvalS (R j).val else ⟨#[]⟩).size ≤ maxLen
    split
    · exact bvalS_size _
    · exact Nat.zero_le _
  · intro j hj W hW
    obtain ⟨lo, hi, h1, h2, h3⟩ := hbl.made j hj
    refine h3 W fun b hb1 hb2 => ?_
    have e1 := hW.block b (by rw [hw]; omega) (by rw [five_iff]; omega)
    rw [hw] at e1
    exact e1.trans (upA b (by omega))
  · intro b hb
    rw [five_iff] at hb
    rw [hw]
    omega
  · show C + 2 + 1 + 1 + 1 ≠ C + 2 + 1 + 1 + 1 + 1
    omega
  · show C ≠ C + 2 + 1 + 1 + 1 ∧ C ≠ C + 2 + 1 + 1 + 1 + 1 ∧ C ≠ C + 2 + 1 ∧ C ≠ C + 2 + 1 + 1
    omega
  · intro br off h0 e
    rw [five_iff]
    have e' : ra = some ⟨br, off, none⟩ := e
    obtain ⟨br', off', e2, c0, _⟩ := hR 0 h0
    rw [e'] at e2
    cases e2
    have : br < w.heap.size := lt_of_cell c0
    omega
  · rw [hw]
    have z0 : (0 : Nat) < w.heap.size := lE0
    have aw : aE.block < w.heap.size := lES
    refine ⟨?_, ?_, ?_, ?_, ?_, ?_, ?_, ?_, ?_, ?_, ?_, ?_, ?_, ?_, ?_⟩ <;> (rw [five_iff]; (try simp only [envOf]); omega)
  · refine ⟨Only.refl _ _, by rw [hw]; exact dP, ?_⟩
    rw [hw]
    exact ⟨dS, dL, ⟨_, dR, World.ownsRow_nil _ _ _ _⟩, ⟨_, dE, World.ownsRow_nil _ _ _ _⟩⟩
end Go.Proofs.YbulkckseFmt
