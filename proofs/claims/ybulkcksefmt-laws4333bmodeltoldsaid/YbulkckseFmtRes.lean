import Derived.Test.YbulkckseFmtGood
namespace Go.Proofs.YbulkckseFmt
open Go Go.RowKit Go.Maps Go.Stop

theorem stream_any (E : Env) (F : Interp) (g : E.Good F) (w0 : World) (hw : E.w = w0.alloc (.cells #[.func (.func 9) #[] E.caps9] 35)) (hc0 : Core E 0 0 E.w) :
    Calls Ybaf.prog 27 #[.func (.func 9) #[] E.caps9, .pointer (some ⟨E.bs, 0, none⟩), .pointer (some ⟨E.bk, 0, none⟩)] w0 fun e W' => (∃ v, e = .returned v) ∧ (EE E W' ∨ Fin E W') :=
  callsIn_wide.1 (filter27 E F g w0 hw hc0 (tryMap22 E F g))

theorem Env.rs_length (E : Env) : ∀ i, (E.rs i).length = E.k i * 5
  | 0 => rfl
  | i + 1 => by
    cases h : E.kept i
    · rw [E.rs_no h, E.k_no h]; exact E.rs_length i
    · rw [E.rs_yes h, E.k_yes h, List.length_append, E.rs_length i]
      simp [Env.cellsOf, cells5]
      omega
theorem Env.es_length (E : Env) (i : Nat) : (E.es i).length = E.k i := by simp [Env.es, Env.k]
theorem Env.k_mono (E : Env) {i j : Nat} (h : i ≤ j) : E.k i ≤ E.k j := by
  induction j with
  | zero => obtain rfl : i = 0 := by omega
            exact Nat.le_refl _
  | succ j ih =>
    by_cases e : i = j + 1
    · subst e; exact Nat.le_refl _
    · have := ih (by omega)
      cases h : E.kept j
      · rw [E.k_no h]; exact this
      · rw [E.k_yes h]; omega
theorem Env.k_lt (E : Env) {i j : Nat} (h : i < j) (hk : E.kept i = true) : E.k i < E.k j := by
  have := E.k_mono (show i + 1 ≤ j from h)
  rw [E.k_yes hk] at this
  omega

theorem cellsOf_at (E : Env) (i q : Nat) (hq : q < 5) : (E.cellsOf i)[q]? = some (recCell E.V i q) := by
  match q, hq with
  | 0, _ => rfl
  | 1, _ => rfl
  | 2, _ => rfl
  | 3, _ => rfl
  | 4, _ => rfl
theorem zero5_at (q : Nat) (hq : q < 5) : (cells5 0 0 ⟨#[]⟩ none (.slice none 0 0))[q]? = some (zeroCell q) := by
  match q, hq with
  | 0, _ => rfl
  | 1, _ => rfl
  | 2, _ => rfl
  | 3, _ => rfl
  | 4, _ => rfl

theorem Env.rs_at (E : Env) {j i : Nat} (h : j < i) (hk : E.kept j = true) (q : Nat) (hq : q < 5) : (E.rs i)[E.k j * 5 + q]? = some (recCell E.V j q) := by
  induction i with
  | zero => omega
  | succ i ih =>
    have hl := E.rs_length i
    by_cases e : j = i
    · subst e
      rw [E.rs_yes hk, List.getElem?_append_right (by omega), hl, show E.k j * 5 + q - E.k j * 5 = q by omega]
      exact cellsOf_at E j q hq
    · have h1 := ih (by omega)
      have h2 := E.k_lt (show j < i by omega) hk
      cases hi : E.kept i
      · rw [E.rs_no hi]; exact h1
      · rw [E.rs_yes hi, List.getElem?_append_left (by omega)]; exact h1
theorem Env.es_at (E : Env) {j i : Nat} (h : j < i) (hk : E.kept j = true) : (E.es i)[E.k j]? = some .nilIface := by
  have h2 := E.k_lt h hk
  simp only [Env.es, List.getElem?_map]
  rw [List.getElem?_eq_getElem (by exact h2)]
  rfl

/-- What stands behind the stream. -/
structure Res (E : Env) (W : World) (T kk p : Nat) (oR oE : Option Addr) (cR cE : Nat) : Prop where
  only : Only E.five E.w W
  P : Boxed W E.bP 3 (.int .i64 (p : Nat))
  L : Boxed W E.bL 4 (.bool false)
  R : Boxed W E.bR 27 (.slice oR kk cR)
  Er : Boxed W E.bE 39 (.slice oE kk cE)
  hT : T ≤ E.n
  kk1 : kk ≤ 1025
  run : ∀ i, i < T → (E.R i).fail = false ∧ (E.R i).has = true ∧ (E.kept i = true → ¬ (0 < E.lim ∧ E.k i + 1 = E.lim) ∧ E.k i < kk ∧ ∃ g g', oR = some ⟨g, 0, none⟩ ∧ oE = some ⟨g', 0, none⟩ ∧ (∀ q, q < 5 → W.cell? ⟨g, E.k i * 5 + q, none⟩ = some (recCell E.V i q)) ∧ W.cell? ⟨g', E.k i, none⟩ = some .nilIface)
  fin : (T = E.n ∧ kk = E.k E.n ∧ p = E.n) ∨ (T < E.n ∧ p = T + 1 ∧ kk = E.k T + 1 ∧ ∃ g g', oR = some ⟨g, 0, none⟩ ∧ oE = some ⟨g', 0, none⟩ ∧
    (((E.R T).fail = true ∧ (∀ q, q < 5 → W.cell? ⟨g, E.k T * 5 + q, none⟩ = some (zeroCell q)) ∧ W.cell? ⟨g', E.k T, none⟩ = some (.iface 49 (.pointer (some E.aS)))) ∨
     ((E.R T).fail = false ∧ (E.R T).has = false ∧ (∀ q, q < 5 → W.cell? ⟨g, E.k T * 5 + q, none⟩ = some (zeroCell q)) ∧ ∃ b c t, W.cell? ⟨g', E.k T, none⟩ = some (.iface 41 (.pointer (some ⟨b, 0, none⟩))) ∧ W.heap[b]? = some (.cells #[.int .i64 ((T : Int) + 1), .int .i64 ((T : Int) + 2), .iface 76 (.pointer (some ⟨c, 0, none⟩))] 44 (0, 0)) ∧ W.heap[c]? = some (.cells #[.string t, .iface 49 (.pointer (some E.aE))] 117 (0, 0))) ∨
     ((E.R T).fail = false ∧ (E.R T).has = true ∧ E.kept T = true ∧ 0 < E.lim ∧ E.k T + 1 = E.lim ∧ (∀ q, q < 5 → W.cell? ⟨g, E.k T * 5 + q, none⟩ = some (recCell E.V T q)) ∧ W.cell? ⟨g', E.k T, none⟩ = some .nilIface)))

theorem row_read {W : World} {base e size k : Nat} {v : Value} {xs : List Value} (h : W.ownsRow base e size v k xs) : ∃ o c, v = .slice o k c ∧ ∀ j u, xs[j]? = some u → ∃ g, o = some ⟨g, 0, none⟩ ∧ W.cell? ⟨g, j, none⟩ = some u := by
  rcases h.2 with ⟨rfl, rfl⟩ | ⟨g, cap, cur, rfl, hb, hg, rest⟩
  · refine ⟨none, 0, rfl, fun j u hu => ?_⟩
    have : xs = [] := List.eq_nil_of_length_eq_zero (by simpa using h.1)
    subst this
    simp at hu
  · refine ⟨_, cap, rfl, fun j u hu => ⟨g, rfl, ?_⟩⟩
    have := h.cells (g := g) rfl j u hu
    rwa [show (⟨g, 0, none⟩ : Addr).add j = ⟨g, j, none⟩ by unfold Addr.add; split <;> simp_all] at this

theorem res_of {E : Env} {F : Interp} (gd : E.Good F) {W : World} (h : EE E W ∨ Fin E W) : ∃ T kk p oR oE cR cE, Res E W T kk p oR oE cR cE := by
  have hmax := gd.max
  have run_of : ∀ {T : Nat} {kk : Nat} {o o' : Option Addr} {rs es : List Value}, E.Run T →
      (∀ j u, rs[j]? = some u → ∃ g, o = some ⟨g, 0, none⟩ ∧ W.cell? ⟨g, j, none⟩ = some u) → (∀ j u, es[j]? = some u → ∃ g, o' = some ⟨g, 0, none⟩ ∧ W.cell? ⟨g, j, none⟩ = some u) →
      (∀ i, i < T → E.kept i = true → E.k i < kk ∧ (∀ q, q < 5 → rs[E.k i * 5 + q]? = some (recCell E.V i q)) ∧ es[E.k i]? = some .nilIface) →
      ∀ i, i < T → (E.R i).fail = false ∧ (E.R i).has = true ∧ (E.kept i = true → ¬ (0 < E.lim ∧ E.k i + 1 = E.lim) ∧ E.k i < kk ∧ ∃ g g', o = some ⟨g, 0, none⟩ ∧ o' = some ⟨g', 0, none⟩ ∧ (∀ q, q < 5 → W.cell? ⟨g, E.k i * 5 + q, none⟩ = some (recCell E.V i q)) ∧ W.cell? ⟨g', E.k i, none⟩ = some .nilIface) := by
    intro T kk o o' rs es hr hrs hes hk i hi
    refine ⟨(hr.1 i hi).1, (hr.1 i hi).2, fun hki => ?_⟩
    obtain ⟨h1, h2, h3⟩ := hk i hi hki
    obtain ⟨g, e1, _⟩ := hrs _ _ (h2 0 (by decide))
    obtain ⟨g', e2, c2⟩ := hes _ _ h3
    refine ⟨fun hl => ?_, h1, g, g', e1, e2, fun q hq => ?_, c2⟩
    · have := E.k_mono (show i + 1 ≤ T from hi)
      rw [E.k_yes hki] at this
      have := hr.2
      omega
    · obtain ⟨g2, e3, c3⟩ := hrs _ _ (h2 q hq)
      rw [e1] at e3
      cases e3
      exact c3
  rcases h with ⟨hc, hr⟩ | hf
  · obtain ⟨hS, hL, ⟨v, hv, hrow⟩, ⟨u, hu, hrow'⟩⟩ := hc.got
    obtain ⟨oR, cR, rfl, hrs⟩ := row_read hrow
    obtain ⟨oE, cE, rfl, hes⟩ := row_read hrow'
    have := E.k_le E.n
    exact ⟨E.n, E.k E.n, E.n, oR, oE, cR, cE, hc.only, hc.P, hL, hv, hu, Nat.le_refl _, by omega, run_of hr hrs hes (fun i hi hk => ⟨E.k_lt hi hk, fun q hq => E.rs_at hi hk q hq, E.es_at hi hk⟩), .inl ⟨rfl, rfl, rfl⟩⟩
  · obtain ⟨T, hT, hr, hP, hcase⟩ := hf.out
    have hle := E.k_le T
    have hpre : ∀ (xs ys : List Value), (∀ i, i < T → E.kept i = true → E.k i < E.k T + 1 ∧ (∀ q, q < 5 → (E.rs T ++ xs)[E.k i * 5 + q]? = some (recCell E.V i q)) ∧ (E.es T ++ ys)[E.k i]? = some .nilIface) := fun xs ys i hi hk => by
      have hl := E.k_lt hi hk
      refine ⟨by omega, fun q hq => ?_, ?_⟩
      · rw [List.getElem?_append_left (by rw [E.rs_length]; omega)]; exact E.rs_at hi hk q hq
      · rw [List.getElem?_append_left (by rw [E.es_length]; exact hl)]; exact E.es_at hi hk
    have hzero : ∀ q, q < 5 → (E.rs T ++ cells5 0 0 ⟨#[]⟩ none (.slice none 0 0))[E.k T * 5 + q]? = some (zeroCell q) := fun q hq => by
      rw [List.getElem?_append_right (by rw [E.rs_length]; omega), E.rs_length, show E.k T * 5 + q - E.k T * 5 = q by omega]
      exact zero5_at q hq
    have hlast : ∀ x : Value, (E.es T ++ [x])[E.k T]? = some x := fun x => by
      rw [List.getElem?_append_right (by rw [E.es_length]; exact Nat.le_refl _), E.es_length]; simp
    rcases hcase with ⟨h1, hG⟩ | ⟨h1, h2, b, c, t, hG, hb, hcb, h3, h4⟩ | ⟨h1, h2, h3, h4, h5, hG⟩
    · obtain ⟨hS, hL, ⟨v, hv, hrow⟩, ⟨u, hu, hrow'⟩⟩ := hG
      obtain ⟨oR, cR, rfl, hrs⟩ := row_read hrow
      obtain ⟨oE, cE, rfl, hes⟩ := row_read hrow'
      obtain ⟨g, e1, _⟩ := hrs _ _ (hzero 0 (by decide))
      obtain ⟨g', e2, c2⟩ := hes _ _ (hlast _)
      refine ⟨T, E.k T + 1, T + 1, oR, oE, cR, cE, hf.only, hP, hL, hv, hu, Nat.le_of_lt hT, by omega, run_of hr hrs hes (hpre _ _), .inr ⟨hT, rfl, rfl, g, g', e1, e2, .inl ⟨h1, fun q hq => ?_, c2⟩⟩⟩
      obtain ⟨g2, e3, c3⟩ := hrs _ _ (hzero q hq)
      rw [e1] at e3
      cases e3
      exact c3
    · obtain ⟨hS, hL, ⟨v, hv, hrow⟩, ⟨u, hu, hrow'⟩⟩ := hG
      obtain ⟨oR, cR, rfl, hrs⟩ := row_read hrow
      obtain ⟨oE, cE, rfl, hes⟩ := row_read hrow'
      obtain ⟨g, e1, _⟩ := hrs _ _ (hzero 0 (by decide))
      obtain ⟨g', e2, c2⟩ := hes _ _ (hlast _)
      refine ⟨T, E.k T + 1, T + 1, oR, oE, cR, cE, hf.only, hP, hL, hv, hu, Nat.le_of_lt hT, by omega, run_of hr hrs hes (hpre _ _), .inr ⟨hT, rfl, rfl, g, g', e1, e2, .inr (.inl ⟨h1, h2, fun q hq => ?_, b, c, t, c2, h3, h4⟩)⟩⟩
      obtain ⟨g2, e3, c3⟩ := hrs _ _ (hzero q hq)
      rw [e1] at e3
      cases e3
      exact c3
    · obtain ⟨hS, hL, ⟨v, hv, hrow⟩, ⟨u, hu, hrow'⟩⟩ := hG
      obtain ⟨oR, cR, rfl, hrs⟩ := row_read hrow
      obtain ⟨oE, cE, rfl, hes⟩ := row_read hrow'
      have hrs' := E.rs_at (Nat.lt_succ_self T) h3
      obtain ⟨g, e1, _⟩ := hrs _ _ (hrs' 0 (by decide))
      obtain ⟨g', e2, c2⟩ := hes _ _ (E.es_at (Nat.lt_succ_self T) h3)
      refine ⟨T, E.k T + 1, T + 1, oR, oE, cR, cE, hf.only, hP, hL, hv, hu, Nat.le_of_lt hT, by omega, run_of hr hrs hes (fun i hi hk => ⟨by have := E.k_lt hi hk; omega, fun q hq => E.rs_at (by omega) hk q hq, E.es_at (by omega) hk⟩), .inr ⟨hT, rfl, rfl, g, g', e1, e2, .inr (.inr ⟨h1, h2, h3, h4, h5, fun q hq => ?_, c2⟩)⟩⟩
      obtain ⟨g2, e3, c3⟩ := hrs _ _ (hrs' q hq)
      rw [e1] at e3
      cases e3
      exact c3
end Go.Proofs.YbulkckseFmt
