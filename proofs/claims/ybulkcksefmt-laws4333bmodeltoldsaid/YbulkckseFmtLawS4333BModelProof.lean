/- The row's step of 'LawS4333BModelToldSaid', after the kit's own worked examples. -/
import Derived.Test.YbulkckseFmtRows
import Derived.Test.YbulkckseFmtTie
import Derived.Test.YbulkckseFmtCards
import Derived.Test.YbulkckseFmtWalk
import Derived.Test.YbulkckseFmtOpen
import Derived.ProofKit
import Derived.OpenShut
import Derived.Stop.JoinedAt
import Derived.Stop.JoinedTold
import Derived.Stop.LaidErr
import Derived.SevenTiedAt
namespace Go.Proofs.YbulkckseFmt.lawS4333BModel
open Go.ChangeShapes Go.WideShapes Go.ChangeAt Go.RowKit
open Go.Extern.Stop Go.Stop Go.Extern

theorem own : ownKnob Ybaf.prog.godebug = none := by kernel_rfl
theorem laidOut : laidOutB Ybaf.prog = true := by kernel_rfl
theorem laidOutP : laidOutB Ybaf.pinned.checked.prog = true := by kernel_rfl
theorem knobs : Ybaf.pinned.checked.prog.stopKnobs = [] := by kernel_rfl
theorem quiet (os : Os) : Stop.quiet Ybaf.pinned.checked.prog os := by
  intro k hk
  rw [knobs] at hk
  cases hk
theorem cells51 : Ybaf.prog.cellsOf 51 = 1 := by kernel_rfl
theorem cells9 : Ybaf.prog.cellsOf 9 = 1 := by kernel_rfl
theorem gType : (Ybaf.prog.globals[0]?).map (·.type) = some 25 := by kernel_rfl

theorem var_below {P : Program} {B g : Nat} {W W' : World} {n : String} {cs : Array Value} (h : Below B W W') (hg : P.globalNamed n = some g) (hgB : g < B) (hv : W.var? P n = some cs) : W'.var? P n = some cs := by
  unfold World.var? at hv ⊢
  simp only [hg, Option.bind_some] at hv ⊢
  rw [h.block g hgB]
  exact hv

/-- One start that fits. -/
theorem witness (os : Os) {H : Type} (enc : TypeId × Value → H) (F : Stop.Interp) :
    ∃ (w : World) (tape : Tape) (i : Input), w.os = os ∧ (w.forCall tape i).Shaped Ybaf.checked.prog ∧ i.vars = [] ∧ Input.okWide Ybaf.checked.prog (w.forCall tape i) .any w.heap.size 3 i ∧
      (OpenSpec.ofChange Rows.lawS4333BModelSpec).preRow enc Ybaf.checked.prog Ybaf.f3 Rows.lawS4333BModelRow.domain false Rows.lawS4333BModelRow.laid (w.forCall tape i).memory i.args ∧ ({ modest := false } : Assume).holds Ybaf.checked.prog (lone (Frame.enter Ybaf.checked.prog 3 i.args .normal) [] (w.forCall tape i)) ∧ F.answers tape := by
  refine OpenSpec.witness_stopped_at (enc := enc) (C := Ybaf.checked) false
    ({ (World.holding Ybaf.prog os ⟨#[.cells #[.string ⟨#[110, 111, 32, 115, 117, 99, 104, 32, 102, 105, 101, 108, 100]⟩] 51], #[], []⟩) with
        heap := (World.holding Ybaf.prog os ⟨#[.cells #[.string ⟨#[110, 111, 32, 115, 117, 99, 104, 32, 102, 105, 101, 108, 100]⟩] 51], #[], []⟩).heap.modify 0 fun
          | .cells _ t frozen => .cells #[.iface 49 (.pointer (some ⟨(World.holding Ybaf.prog default ⟨#[], #[], []⟩).heap.size, 0, none⟩))] t frozen
          | o => o } : World)
    #[.slice none 0 0, .slice none 0 0, .int .u8 0] rfl (by kernel_rfl) (by kernel_rfl) (by kernel_rfl)
    (OpenSpec.preRow_of_B rfl 8 (by kernel_rfl) (by kernel_rfl) ?_) F
  show laidMet Ybaf.prog Rows.lawS4333BModelRow.laid _
  exact laidMet_of_run (ps := [.cell 0 0, .cell (World.holding Ybaf.prog default ⟨#[], #[], []⟩).heap.size 0]) 8 (by kernel_rfl) (by kernel_rfl) (by kernel_rfl)

set_option maxRecDepth 100000 in
theorem lifted (os : Os) (started : os.Started) (H : Type) (enc : TypeId × Value → H) :
    ReturnsInTold none {} Ybaf.checked os 3 .any Input.okWide ((OpenSpec.ofChange Rows.lawS4333BModelSpec).preRow enc Ybaf.prog Ybaf.f3 Rows.lawS4333BModelRow.domain false Rows.lawS4333BModelRow.laid) (fun F => ((OpenSpec.ofChange Rows.lawS4333BModelSpec).at F).post enc Ybaf.prog Ybaf.f3 false true false false) (aloneAtReturn Ybaf.prog) nothingAlways := by
  refine returnsInTold_of_row (C := Ybaf.checked) (s := OpenSpec.ofChange Rows.lawS4333BModelSpec) (by kernel_rfl) own started (by kernel_rfl) Ybaf.func3 (witness os enc) ?_
  intro F W base args ds gs before _ hF hval0 hW _ _ _ hL _
  have hval : ∀ (j : Nat) t v, Ybaf.f3.params[j]? = some t → args[j]? = some v → Value.okWide Ybaf.prog W .any base t v := hval0
  have hW' := hW
  obtain ⟨p, q, hA0, hV0, rfl, hfz, hnd⟩ := hW
  have hA : DataW.TrodAll enc Ybaf.prog W 0 (fun _ => true) true Ybaf.f3.params.toList args.toList ds p := hA0
  have hV : DataW.TrodVars enc Ybaf.prog W (fun _ => true) Rows.lawS4333BModelSpec.vars gs q := hV0
  rw [Ybaf.params3] at hA hval
  obtain ⟨v0, v1, v2, d0, d1, d2, p0, p1, p2, rfl, rfl, rfl, h0, h1, h2⟩ := trodAll_three hA
  obtain ⟨a0, len0, cap0, rfl⟩ := okWide_slice Ybaf.underlying22 (hval 0 22 v0 rfl rfl)
  obtain ⟨a1, len1, cap1, rfl⟩ := okWide_slice Ybaf.underlying23 (hval 1 23 v1 rfl rfl)
  obtain ⟨s, rfl, rfl, rfl, w2⟩ := open_int Ybaf.underlying5 (hval 2 5 v2 rfl rfl) h2
  obtain ⟨aE, sE, hvE, hcE, _, hzE⟩ := laid_sentinel (g := 0) (tp := 49) hL (by kernel_rfl) gType Ybaf.underlying25 (fun u h => typeName_ptr_named (nm := "errors.errorString") (by kernel_rfl) (by kernel_rfl) (by decide) u (h.trans (congrArg some (by decide)))) Ybaf.underlying49 Ybaf.underlying51 rfl rfl Ybaf.underlying9 cells51 cells9
  have hgE : Ybaf.prog.globalNamed (Rows.lawS4333BModelSpec.vars.headD default) = some 0 := by kernel_rfl
  obtain ⟨rfl, rfl⟩ := hV.unique (vars_read1 enc hgE gType Ybaf.underlying25 hvE trivial _)
  have hg0 : W.cell? ⟨0, 0, none⟩ = some (.iface 49 (.pointer (some aE))) := by simpa using World.var?_cell hgE hvE 0
  have k0 := h0
  have k1 := h1
  have lt0 : ∀ x ∈ p0, x.block < W.heap.size := by obtain ⟨m, hm⟩ := k0; exact DataW.trod_lt m _ _ _ hm
  have lt1 : ∀ x ∈ p1, x.block < W.heap.size := by obtain ⟨m, hm⟩ := k1; exact DataW.trod_lt m _ _ _ hm
  obtain ⟨R, hR, hRv⟩ : ∃ R : Nat → RC, RecsAt len0 R a0 W ∧ ∀ j, 0 ≤ (R j).val := by obtain ⟨fuel, hf⟩ := h0; exact open_recs hf
  obtain ⟨v, hV1, hVv⟩ : ∃ v : Nat → Int, ValsAt len1 v a1 W ∧ ∀ j, 0 ≤ v j := by obtain ⟨fuel, hf⟩ := h1; exact open_vals hf
  have hs : 0 ≤ s := by
    simp [Lit.wf, IntKind.min, IntKind.signed] at w2
    exact w2.1
  have hcall : Calls Ybaf.prog 3 #[.slice a0 len0 cap0, .slice a1 len1 cap1, .int .u8 s] W fun e w' => e = .returned (.bool true) ∧ Below W.heap.size W w' := by
    by_cases hn : len0 ≤ 1024
    · by_cases hm : len1 ≤ 1024
      · exact law_small F.told len0 len1 R v a0 a1 cap0 cap1 s aE sE W hn hm hs hR hRv hV1 hVv hF hg0 hcE
      · exact law_big _ _ _ _ _ _ _ _ (.inr (by omega))
    · exact law_big _ _ _ _ _ _ _ _ (.inl (by omega))
  refine hcall.mono fun e W' ⟨he, bel⟩ => ?_
  subst he
  refine ⟨_, rfl, _, _, _, [], p0 ++ (p1 ++ ([] ++ [])), [.cell 0 0], hW', trodAll_mk1 (shut_bool Ybaf.underlying4 _), ?_, ?_, bel.frame _, fun h => by cases h⟩
  · exact trodAll_cons_mk (Below.trod laidOut (by kernel_rfl) (of_decide_eq_true (by kernel_rfl)) k0 bel lt0) (trodAll_cons_mk (Below.trod laidOut (by kernel_rfl) (of_decide_eq_true (by kernel_rfl)) k1 bel lt1) (trodAll_cons_mk (shut_int Ybaf.underlying5 w2) trodAll_mk0))
  · exact vars_read1 enc hgE gType Ybaf.underlying25 (var_below bel hgE (lt_of_cell hg0) hvE) trivial _

/-- THE STATEMENT. -/
theorem proved : Rows.LawS4333BModelToldSaid :=
  Claim7.holds_of_told_tied_any_at .later 3 Ybaf.f3 _ _ [] _ _ _ _ _ (by kernel_rfl) rfl rfl rfl laidOutP (by kernel_rfl) rfl ⟨rfl, rfl, rfl, rfl, rfl, rfl, rfl⟩ rfl rfl (by kernel_rfl) (by kernel_rfl) Ybaf.func3 (by kernel_rfl)
    (of_decide_eq_true (by kernel_rfl)) (of_decide_eq_true (by kernel_rfl)) (by kernel_rfl) rfl knobs.symm (by kernel_rfl)
    (by kernel_rfl) (by kernel_rfl) (by kernel_rfl) (by kernel_rfl) (by kernel_rfl) (by kernel_rfl) (by kernel_rfl) (by kernel_rfl) (by kernel_rfl) rfl (by kernel_rfl) rfl rfl
    rfl rfl
    rfl (by kernel_rfl) (by kernel_rfl) (by kernel_rfl) (by decide) (by kernel_rfl) lawS4333BModel_row_tie
    (OpenClaim.moreEntering_of (by kernel_rfl) (by kernel_rfl) (by kernel_rfl) (by kernel_rfl) (by kernel_rfl) (by kernel_rfl) (by kernel_rfl) (by kernel_rfl) (by kernel_rfl) (by kernel_rfl))
    ⟨_, WideRow.started_initial, quiet _⟩
    (fun os started _ H enc _ => lifted os started H enc)
end Go.Proofs.YbulkckseFmt.lawS4333BModel
