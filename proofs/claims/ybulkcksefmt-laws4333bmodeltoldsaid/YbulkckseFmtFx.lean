import Derived.Test.YbulkckseFmtRes
namespace Go.Proofs.YbulkckseFmt
open Go Go.RowKit Go.Maps Go.Stop

theorem Res.below {E : Env} {W W' : World} {T kk p : Nat} {oR oE : Option Addr} {cR cE : Nat} (h : Res E W T kk p oR oE cR cE) (hb : Below W.heap.size W W') : Res E W' T kk p oR oE cR cE := by
  have ho : Only (fun _ => False) W W' := Only.of_below hb _
  have kc : ∀ {a : Addr} {u : Value}, W.cell? a = some u → W'.cell? a = some u := fun hc => ho.cell hc id
  refine ⟨h.only.andThen ho (fun _ _ hf => hf.elim), ho.at h.P id, ho.at h.L id, ho.at h.R id, ho.at h.Er id, h.hT, h.kk1, fun i hi => ?_, ?_⟩
  · obtain ⟨h1, h2, h3⟩ := h.run i hi
    refine ⟨h1, h2, fun hk => ?_⟩
    obtain ⟨h4, h5, g, g', e1, e2, h6, h7⟩ := h3 hk
    exact ⟨h4, h5, g, g', e1, e2, fun q hq => kc (h6 q hq), kc h7⟩
  · rcases h.fin with hf | ⟨h1, h2, h3, g, g', e1, e2, hc⟩
    · exact .inl hf
    · refine .inr ⟨h1, h2, h3, g, g', e1, e2, ?_⟩
      rcases hc with ⟨k1, k2, k3⟩ | ⟨k1, k2, k3, b, c, t, k4, k5, k6⟩ | ⟨k1, k2, k3, k4, k5, k6, k7⟩
      · exact .inl ⟨k1, fun q hq => kc (k2 q hq), kc k3⟩
      · exact .inr (.inl ⟨k1, k2, fun q hq => kc (k3 q hq), b, c, t, kc k4, ho.at k5 id, ho.at k6 id⟩)
      · exact .inr (.inr ⟨k1, k2, k3, k4, k5, fun q hq => kc (k6 q hq), kc k7⟩)

/-- What the last loop reads. -/
structure Fx (n m : Nat) (R : Nat → RC) (v : Nat → Int) (V : VT) (ra : Option Addr) (rcap lim B C kk p : Nat) (aE : Addr) (oR oE : Option Addr) (cR cE : Nat) (W : World) : Prop where
  recs : W.cell? ⟨B, 0, none⟩ = some (.slice ra n rcap)
  row : RecsAt n R ra W
  err : W.cell? ⟨B + 1 + 1, 0, none⟩ = some (.iface 49 (.pointer (some ⟨B + 1, 0, none⟩)))
  built : W.cell? ⟨B + 1 + 1 + 1 + 1, 0, none⟩ = some (.slice (some ⟨B + 1 + 1 + 1, 0, none⟩) n n)
  brow : ∀ j, j < n → W.cell? ⟨B + 1 + 1 + 1, j * 5 + 3, none⟩ = some (.pointer (V j).1)
  strs : ∀ j, j < m → W.cell? ⟨C + 1, j, none⟩ = some (.string (bvalS (v j)))
  M : W.cell? ⟨C + 2, 0, none⟩ = some (.int .i64 (lim : Nat))
  P : W.cell? ⟨C, 0, none⟩ = some (.int .i64 (p : Nat))
  L : W.cell? ⟨C + 2 + 1 + 1 + 1 + 1, 0, none⟩ = some (.bool false)
  gR : W.cell? ⟨C + 2 + 1, 0, none⟩ = some (.slice oR kk cR)
  gE : W.cell? ⟨C + 2 + 1 + 1, 0, none⟩ = some (.slice oE kk cE)
  glob : W.cell? ⟨0, 0, none⟩ = some (.iface 49 (.pointer (some aE)))

theorem fx_here {F : Interp} {n m : Nat} {R : Nat → RC} {v : Nat → Int} {V : VT} {ra : Option Addr} {rcap lim B C : Nat} {aE : Addr} {sE : ByteArray} {bN bW bm bq bf bs bk mapn : Nat} {wE W : World} {T kk p : Nat} {oR oE : Option Addr} {cR cE : Nat}
    (hg : (envOf n m R v V ra rcap lim B C aE sE bN bW bm bq bf bs bk mapn wE).Good F) (hr : Res (envOf n m R v V ra rcap lim B C aE sE bN bW bm bq bf bs bk mapn wE) W T kk p oR oE cR cE) (hrow : W.rowIs (C + 1) 9 m (strAt v m)) :
    Fx n m R v V ra rcap lim B C kk p aE oR oE cR cE W := by
  have hs := hg.stat' hr.only
  exact ⟨hs.recs.cell, hs.row, hs.err.cell, hs.built.cell, fun j hj => (hs.brow j hj).2.2.2.1, fun j hj => by rw [hrow.cell hj]; simp [strAt, hj], (hg.M' hr.only).cell, hr.P.cell, hr.L.cell, hr.R.cell, hr.Er.cell, hg.glob' hr.only⟩

theorem strs_here {n m : Nat} {R : Nat → RC} {v : Nat → Int} {V : VT} {ra : Option Addr} {rcap lim B C : Nat} {aE : Addr} {sE : ByteArray} {bN bW bm bq bf bs bk mapn : Nat} {wA wB wE W : World} (hst : Sts C m v m wA wB) (hbe : Below (wD lim wB).heap.size (wD lim wB) wE)
    (ho : Only (envOf n m R v V ra rcap lim B C aE sE bN bW bm bq bf bs bk mapn wE).five (envOf n m R v V ra rcap lim B C aE sE bN bW bm bq bf bs bk mapn wE).w W) : W.rowIs (C + 1) 9 m (strAt v m) := by
  have hsB := hst.size
  have hsD : (wD lim wB).heap.size = C + 7 := by simp [wD]; omega
  have hsE := hbe.size
  rw [hsD] at hsE
  have hr : (wD lim wB).rowIs (C + 1) 9 m (strAt v m) := ((((hst.row.alloc _).alloc _).alloc _).alloc _).alloc _
  have h1 := hr.of_block (hbe.block _ hr.lt)
  have h2 : (envOf n m R v V ra rcap lim B C aE sE bN bW bm bq bf bs bk mapn wE).w.rowIs (C + 1) 9 m (strAt v m) := h1.alloc _
  refine h2.of_block (ho.block _ h2.lt ?_)
  show ¬ (C + 1 = C ∨ C + 1 = C + 2 + 1 + 1 + 1 ∨ C + 1 = C + 2 + 1 + 1 + 1 + 1 ∨ C + 1 = C + 2 + 1 ∨ C + 1 = C + 2 + 1 + 1)
  omega

theorem below_here {C m lim B : Nat} {v : Nat → Int} {w wA wB wE : World} (hw : Below B w wA) (hBC : B ≤ C) (hst : Sts C m v m wA wB) (hbe : Below (wD lim wB).heap.size (wD lim wB) wE) : Below B w wE := by
  have hsB := hst.size
  have hsD : (wD lim wB).heap.size = C + 7 := by simp [wD]; omega
  have bD : Below B wB (wD lim wB) := ((((((Below.refl _ wB).alloc (by omega) _).alloc (by simp; omega) _).alloc (by simp; omega) _).alloc (by simp; omega) _).alloc (by simp; omega) _)
  exact hw.trans ((hst.below.mono (by omega)).trans (bD.trans (hbe.mono (by omega))))
theorem below_end {n m : Nat} {R : Nat → RC} {v : Nat → Int} {V : VT} {ra : Option Addr} {rcap lim B C : Nat} {aE : Addr} {sE : ByteArray} {bN bW bm bq bf bs bk mapn : Nat} {w wE W : World} (hw : Below B w wE) (hBC : B + 5 ≤ C) (hsz : B ≤ wE.heap.size)
    (ho : Only (envOf n m R v V ra rcap lim B C aE sE bN bW bm bq bf bs bk mapn wE).five (envOf n m R v V ra rcap lim B C aE sE bN bW bm bq bf bs bk mapn wE).w W) : Below B w W := by
  refine (hw.alloc hsz _).trans (ho.below (n₀ := B) (by show B ≤ (wE.alloc _).heap.size; simp; omega) (fun b _ hb => ?_))
  have hb : (b = C ∨ b = C + 2 + 1 + 1 + 1 ∨ b = C + 2 + 1 + 1 + 1 + 1 ∨ b = C + 2 + 1 ∨ b = C + 2 + 1 + 1) := hb
  omega
end Go.Proofs.YbulkckseFmt
