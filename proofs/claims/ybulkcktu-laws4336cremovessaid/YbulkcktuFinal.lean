/- From what was built and dropped to what 'zzs4336ccheck' asks. -/
import Derived.Test.YbulkcktuState2
namespace Go.Proofs.Ybulkcktu
open Go Go.RowKit Go.Maps

/-- What a drop at list k may turn. -/
def Turned (Bk : Nat) (bk : List Nat) (bm : Nat) (j : Nat) : Prop := Mine Bk bk j ∨ j = bm

variable {W W' : World} {n₀ bm bv bp N : Nat} {sz B : Nat → Nat} {bs : Nat → List Nat} {sv : Nat → Value}

theorem Outer.not_turned (h : Outer W n₀ bm bp N N sz B bs sv) {k : Nat} (hk : k < N) {b : Nat} {c : Array Value} {t : TypeId} (hb : W.heap[b]? = some (.cells c t (0, 0))) (h1 : t ≠ 44) (h2 : t ≠ 38) : ¬ Turned (B k) (bs k) bm b := by
  rintro ((rfl | hm) | rfl)
  · exact kinds_ne hb (h.lists k hk).root h1 rfl
  · obtain ⟨n, p, v, hn⟩ := (h.lists k hk).at hm
    exact kinds_ne hb hn h2 rfl
  · exact map_ne hb h.own rfl

theorem Outer.list_kept (h : Outer W n₀ bm bp N N sz B bs sv) {k i : Nat} (hk : k < N) (hi : i < N) (hne : i ≠ k) (ho : Only (Turned (B k) (bs k) bm) W W') : IsL W' (B i) (bs i) (vlist i (sz i)) := by
  refine (h.lists i hi).only ho ?_ (fun b hb => ?_)
  · rintro ((e | hm) | e)
    · exact h.inj i k hi hk hne e
    · exact (h.lists k hk).root_apart (h.lists i hi) hm
    · exact map_ne (h.lists i hi).root h.own e
  · rintro ((e | hm) | e)
    · exact (h.lists i hi).root_apart (h.lists k hk) (e ▸ hb)
    · exact ((h.lists i hi).apart (h.lists k hk) (h.inj i k hi hk hne) hb).2 hm
    · obtain ⟨n, p, v, hn⟩ := (h.lists i hi).at hb
      exact map_ne hn h.own e
theorem Outer.hold_kept (h : Outer W n₀ bm bp N N sz B bs sv) {k i : Nat} (hk : k < N) (hi : i < N) (ho : Only (Turned (B k) (bs k) bm) W W') : Holds W' n₀ (sv i) (vlist i (sz i)) :=
  (h.holds i hi).only ho (fun g hg => by
    obtain ⟨_, c, hc⟩ := (h.holds i hi).block hg
    exact h.not_turned hk hc (by decide) (by decide))

theorem final_of (h : Outer W n₀ bm bp N N sz B bs sv) (hv : W.rowIs bv 30 N sv) {k : Nat} (hk : k < N) (hsz : ∀ i, i < N → sz i ≤ 8) (ho : Only (Turned (B k) (bs k) bm) W W') {wk : Value} {wl : List Int} {bl : List Nat} (hbl : bl.length ≤ 1000)
    (hown : W'.ownsMap Yba.prog 3 heldElem bm N (if wl.length = 0 then (mapD B N).del (keyI k) else mapD B N)) (hlk : wl ≠ [] → IsL W' (B k) bl wl) (hwk : Holds W' n₀ wk wl) :
    Final W' n₀ N bm bv bp k N (if wl.length = 0 then (mapD B N).del (keyI k) else mapD B N) B (fun i => if i = k then bl else if i < N then bs i else []) sv (fun i => vlist i (sz i)) wk wl := by
  have hnil : wl.length = 0 ↔ wl = [] := List.length_eq_zero_iff
  obtain ⟨cv, hcv, _⟩ := id hv
  obtain ⟨cp, hcp, _⟩ := id h.ptrs
  refine ⟨hown, fun i hi => ?_, fun i hi => ?_, fun i hi hne => h.hold_kept hk hi ho, fun i hi hne => ?_, fun hne => ?_, hwk, fun i hi => ?_, fun i hi => ?_, ?_, fun i => ?_⟩
  · exact (rowIs_only hv ho (h.not_turned hk hcv (by decide) (by decide))).cell hi
  · have := (rowIs_only h.ptrs ho (h.not_turned hk hcp (by decide) (by decide))).cell hi
    simpa [hi] using this
  · simp only [if_neg hne, if_pos hi]
    exact h.list_kept hk hi hne ho
  · simp only [if_true]
    exact hlk hne
  · by_cases hw : wl = []
    · simp only [hw, List.length_nil, if_true, and_true]
      by_cases e : i = k
      · subst e; simp [has_del_same]
      · rw [has_del_other (fun e' => e (by have := keyI_inj e'; omega)), mapD_has]
        simp [e, hi]
    · rw [if_neg (fun h => hw (hnil.1 h)), mapD_has]
      simp [hw, hi]
  · by_cases hw : wl = []
    · simp only [hw, List.length_nil, if_true, and_true]
      by_cases e : i = k
      · subst e; simp [atI, atKey_del_same]
      · rw [atI, atKey_del_other (fun e' => e (by have := keyI_inj e'; omega)), mapD_at B i N hi]
        simp [e, ptrD]
    · rw [if_neg (fun h => hw (hnil.1 h)), atI, mapD_at B i N hi]
      simp [hw, ptrD]
  · by_cases hw : wl = []
    · simp only [hw, List.length_nil, if_true]
      have := size_del (k := keyI k) (mapD_tidy B N)
      rw [mapD_has, mapD_size] at this
      simp [hk] at this
      omega
    · rw [if_neg (fun h => hw (hnil.1 h)), if_neg hw, mapD_size]
  · by_cases e : i = k
    · simp only [if_pos e]; exact hbl
    · simp only [if_neg e]
      by_cases hi : i < N
      · rw [if_pos hi, (h.lists i hi).len, vlist_length]
        have := hsz i hi; omega
      · rw [if_neg hi]; simp

end Go.Proofs.Ybulkcktu
