/- The state inside a round of 'zzs4336cbuild': plain facts on worlds. -/
import Derived.Test.YbulkcktuState
namespace Go.Proofs.Ybulkcktu
open Go Go.RowKit Go.Maps

theorem rowIs_only {W W' : World} {b : Nat} {t : TypeId} {n : Nat} {f : Nat → Value} (h : W.rowIs b t n f) {S : Nat → Prop} (ho : Only S W W') (hS : ¬ S b) : W'.rowIs b t n f := h.of_block (ho.block b h.lt hS)

/-- While list k (at Bl: its elements bl, ql of them) and its slice s (qh of its values) grow. -/
structure Inner (W : World) (n₀ bm bv bp N k : Nat) (sz B : Nat → Nat) (bs : Nat → List Nat) (sv : Nat → Value) (Bl : Nat) (bl : List Nat) (s : Value) (ql qh : Nat) : Prop where
  out : Outer W n₀ bm bp N k sz B bs sv
  list : IsL W Bl bl (vlist k ql)
  hold : Holds W n₀ s (vlist k qh)
  row : W.rowIs bv 30 N (fun j => if j < k then sv j else if j = k then s else .slice none 0 0)
  apart : ∀ g, s.ownBlock = some g → ∀ i, i < k → (sv i).ownBlock ≠ some g
  fresh : ∀ i, i < k → B i ≠ Bl
variable {W W' : World} {n₀ bm bv bp N k : Nat} {sz B : Nat → Nat} {bs : Nat → List Nat} {sv : Nat → Value} {Bl : Nat} {bl : List Nat} {s : Value} {q : Nat}

theorem Inner.pushed (h : Inner W n₀ bm bv bp N k sz B bs sv Bl bl s q q) {x : Nat} (hl : IsL W' Bl (bl ++ [x]) (vlist k (q + 1))) (ho : Only (Mine Bl bl) W W') : Inner W' n₀ bm bv bp N k sz B bs sv Bl (bl ++ [x]) s (q + 1) q := by
  have key : ∀ {b : Nat} {c : Array Value} {t : TypeId}, W.heap[b]? = some (.cells c t (0, 0)) → t ≠ 44 → t ≠ 38 → ¬ Mine Bl bl b := fun hb h1 h2 hm => by
    rcases hm with rfl | hm
    · exact kinds_ne hb h.list.root h1 rfl
    · obtain ⟨n, p, v, hn⟩ := h.list.at hm
      exact kinds_ne hb hn h2 rfl
  refine ⟨h.out.push h.list h.fresh ho, hl, h.hold.only ho (fun g hg => ?_), rowIs_only h.row ho ?_, h.apart, h.fresh⟩
  · obtain ⟨_, c, hc⟩ := h.hold.block hg
    exact key hc (by decide) (by decide)
  · obtain ⟨c, hc, _⟩ := h.row
    exact key hc (by decide) (by decide)

theorem Inner.alloc {ql qh : Nat} (h : Inner W n₀ bm bv bp N k sz B bs sv Bl bl s ql qh) (o : Obj) : Inner (W.alloc o) n₀ bm bv bp N k sz B bs sv Bl bl s ql qh :=
  ⟨h.out.alloc o, h.list.only (S := fun _ => False) ((Only.refl _ W).alloc o) (fun h => h) (fun _ _ h => h), h.hold.only (S := fun _ => False) ((Only.refl _ W).alloc o) (fun _ _ h => h), h.row.alloc o, h.apart, h.fresh⟩

/-- Behind the append (W is the world in which it began). -/
theorem Inner.appended {ql : Nat} (h : Inner W n₀ bm bv bp N k sz B bs sv Bl bl s ql q) {s' : Value} (hown : W'.ownsRow n₀ 3 1 s' (q + 1) ((vlist k (q + 1)).map (Value.int .i64))) (hg : W.grownBy W' s.ownBlock) (hloc : s'.ownBlock = s.ownBlock ∨ s'.ownBlock = some W.heap.size) :
    (∃ c, W'.heap[bv]? = some (.cells c 30 (0, 0))) ∧ W'.rowIs bv 30 N (fun j => if j < k then sv j else if j = k then s else .slice none 0 0) ∧ (k < N → Inner (W'.setCell ⟨bv, k, none⟩ s') n₀ bm bv bp N k sz B bs sv Bl bl s' ql (q + 1)) := by
  have ho : Only (fun j => s.ownBlock = some j) W W' := (Only.refl _ W).grown hg (fun j e _ => e)
  have key : ∀ {b : Nat} {c : Array Value} {t : TypeId}, W.heap[b]? = some (.cells c t (0, 0)) → t ≠ 3 → ¬ s.ownBlock = some b := fun hb ht e => by
    obtain ⟨_, c', hc'⟩ := h.hold.block e
    exact kinds_ne hb hc' ht rfl
  obtain ⟨cr, hcr, _⟩ := h.row
  have hrow' := rowIs_only h.row ho (key hcr (by decide))
  obtain ⟨cr', hcr', _⟩ := hrow'
  refine ⟨⟨cr', hcr'⟩, rowIs_only h.row ho (key hcr (by decide)), fun hk => ?_⟩
  have hrow' := rowIs_only h.row ho (key hcr (by decide))
  have hl' : IsL W' Bl bl (vlist k ql) := h.list.only ho (key h.list.root (by decide)) (fun b hb => by
    obtain ⟨n, p, v, hn⟩ := h.list.at hb
    exact key hn (by decide))
  have hs' : Holds W' n₀ s' (vlist k (q + 1)) := by rw [Holds, vlist_length]; exact hown
  have hov : Only (fun j => j = bv) W' (W'.setCell ⟨bv, k, none⟩ s') := (Only.refl (fun j => j = bv) W').setCell (p := ⟨bv, k, none⟩) (fun _ => rfl) s'
  refine ⟨(h.out.appended h.hold hg h.apart).setVals hrow' k s', hl'.only hov (kinds_ne hl'.root hcr' (by decide)) (fun b hb => ?_), hs'.only hov (fun g hg' => ?_), (hrow'.set k s').congr (fun i hi => ?_), fun g hg' i hi e => ?_, h.fresh⟩
  · obtain ⟨n, p, v, hn⟩ := hl'.at hb
    exact kinds_ne hn hcr' (by decide)
  · obtain ⟨_, c, hc⟩ := hs'.block hg'
    exact kinds_ne hc hcr' (by decide)
  · by_cases h1 : i = k
    · subst h1; simp
    · simp only [if_neg h1]
  · rcases hloc with h1 | h1
    · rw [h1] at hg'
      exact h.apart g hg' i hi e
    · rw [h1] at hg'
      obtain ⟨_, c, hc⟩ := (h.out.holds i hi).block e
      have := (Array.getElem?_eq_some_iff.1 hc).1
      simp at hg'
      omega

/-- A list is put under its key, and its pointer into the row: the round is over. -/
theorem Inner.stored (h : Inner W n₀ bm bv bp N k sz B bs sv Bl bl s (sz k) (sz k)) {W2 : World} (hown : W2.ownsMap Yba.prog 3 heldElem bm (k + 1) ((mapD B k).put (keyI k) (ptrD Bl))) (hg : W.grownBy W2 (some bm)) (hk : k < N) :
    W2.rowIs bp 31 N (fun i => .pointer (if i < k then some ⟨B i, 0, none⟩ else none)) ∧ Outer (W2.setCell ⟨bp, k, none⟩ (.pointer (some ⟨Bl, 0, none⟩))) n₀ bm bp N (k + 1) sz (upd B k Bl) (upd bs k bl) (upd sv k s) ∧
      (W2.setCell ⟨bp, k, none⟩ (.pointer (some ⟨Bl, 0, none⟩))).rowIs bv 30 N (fun j => if j < k + 1 then upd sv k s j else .slice none 0 0) := by
  have ho : Only (fun j => j = bm) W W2 := (Only.refl _ W).grown hg (fun j e _ => by cases e; rfl)
  have hO2 : IsL W2 Bl bl (vlist k (sz k)) := h.list.only ho (fun e => map_ne h.list.root h.out.own e) (fun b hb e => by
    obtain ⟨n, p, v, hn⟩ := h.list.at hb
    exact map_ne hn h.out.own e)
  have hS2 : Holds W2 n₀ s (vlist k (sz k)) := h.hold.only ho (fun g hg' e => by
    obtain ⟨_, c, hc⟩ := h.hold.block hg'
    exact map_ne hc h.out.own e)
  obtain ⟨cv, hcv, _⟩ := h.row
  have hR2 := rowIs_only h.row ho (fun e => map_ne hcv h.out.own e)
  obtain ⟨cp, hcp, _⟩ := h.out.ptrs
  have hP2 := rowIs_only h.out.ptrs ho (fun e => map_ne hcp h.out.own e)
  have hL2 : ∀ i, i < k → IsL W2 (B i) (bs i) (vlist i (sz i)) := fun i hi => (h.out.lists i hi).only ho (fun e => map_ne (h.out.lists i hi).root h.out.own e) (fun b hb e => by
    obtain ⟨n, p, v, hn⟩ := (h.out.lists i hi).at hb
    exact map_ne hn h.out.own e)
  have hH2 : ∀ i, i < k → Holds W2 n₀ (sv i) (vlist i (sz i)) := fun i hi => (h.out.holds i hi).only ho (fun g hg' e => by
    obtain ⟨_, c, hc⟩ := (h.out.holds i hi).block hg'
    exact map_ne hc h.out.own e)
  obtain ⟨cp2, hcp2, _⟩ := hP2
  have hP2 := rowIs_only h.out.ptrs ho (fun e => map_ne hcp h.out.own e)
  have hop : Only (fun j => j = bp) W2 (W2.setCell ⟨bp, k, none⟩ (.pointer (some ⟨Bl, 0, none⟩))) := (Only.refl (fun j => j = bp) W2).setCell (p := ⟨bp, k, none⟩) (fun _ => rfl) _
  have keyL : ∀ {b : Nat} {l : List Nat} {v : List Int}, IsL W2 b l v → IsL (W2.setCell ⟨bp, k, none⟩ (.pointer (some ⟨Bl, 0, none⟩))) b l v := fun hl => hl.only hop (kinds_ne hl.root hcp2 (by decide)) (fun b hb => by
    obtain ⟨n, p, v, hn⟩ := hl.at hb
    exact kinds_ne hn hcp2 (by decide))
  have keyH : ∀ {u : Value} {v : List Int}, Holds W2 n₀ u v → Holds (W2.setCell ⟨bp, k, none⟩ (.pointer (some ⟨Bl, 0, none⟩))) n₀ u v := fun hu => hu.only hop (fun g hg' => by
    obtain ⟨_, c, hc⟩ := hu.block hg'
    exact kinds_ne hc hcp2 (by decide))
  obtain ⟨cv2, hcv2, _⟩ := hR2
  have hR2 := rowIs_only h.row ho (fun e => map_ne hcv h.out.own e)
  refine ⟨hP2, ⟨?_, ?_, fun i hi => ?_, fun i hi => ?_, fun i j hi hj hne => ?_⟩, (rowIs_only hR2 hop (kinds_ne hcv2 hcp2 (by decide))).congr (fun i _ => ?_)⟩
  · have e : mapD (upd B k Bl) (k + 1) = (mapD B k).put (keyI k) (ptrD Bl) := by
      rw [mapD, upd_same, mapD_congr k (fun i hi => upd_ne B Bl (by omega))]
    rw [e]
    obtain ⟨es, clock, hb, r⟩ := hown
    refine ⟨es, clock, hop.at hb (fun e => ?_), r⟩
    subst e
    rw [hcp2] at hb
    cases hb
  · refine (hP2.set k _).congr (fun i _ => ?_)
    by_cases h1 : i = k
    · subst h1; simp [upd_same]
    · simp only [if_neg h1]
      rw [upd_ne B Bl h1]
      by_cases h2 : i < k
      · simp [h2, show i < k + 1 by omega]
      · simp [h2, show ¬ i < k + 1 by omega]
  · by_cases h1 : i = k
    · subst h1; rw [upd_same]; exact keyH hS2
    · rw [upd_ne sv s h1]; exact keyH (hH2 i (by omega))
  · by_cases h1 : i = k
    · subst h1; rw [upd_same, upd_same]; exact keyL hO2
    · rw [upd_ne B Bl h1, upd_ne bs bl h1]; exact keyL (hL2 i (by omega))
  · by_cases h1 : i = k
    · subst h1
      rw [upd_same, upd_ne B Bl (fun e => hne e.symm)]
      exact fun e => h.fresh j (by omega) e.symm
    · rw [upd_ne B Bl h1]
      by_cases h2 : j = k
      · subst h2; rw [upd_same]; exact h.fresh i (by omega)
      · rw [upd_ne B Bl h2]; exact h.out.inj i j (by omega) (by omega) hne
  · by_cases h1 : i = k
    · subst h1; simp [upd_same]
    · by_cases h2 : i < k
      · simp [h2, upd_ne sv s h1, show i < k + 1 by omega]
      · simp [h2, h1, show ¬ i < k + 1 by omega]

end Go.Proofs.Ybulkcktu
