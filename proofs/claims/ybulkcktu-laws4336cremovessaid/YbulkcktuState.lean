/- The state that 'zzs4336cbuild' builds up: plain facts on worlds. -/
import Derived.Test.YbulkcktuCheck
namespace Go.Proofs.Ybulkcktu
open Go Go.RowKit Go.Maps

/-! ### A function turned at one place -/
def upd {α : Type} (f : Nat → α) (k : Nat) (x : α) : Nat → α := fun j => if j = k then x else f j
theorem upd_same {α : Type} (f : Nat → α) (k : Nat) (x : α) : upd f k x k = x := by simp [upd]
theorem upd_ne {α : Type} (f : Nat → α) {k j : Nat} (x : α) (h : j ≠ k) : upd f k x j = f j := by simp [upd, h]

/-! ### The map of lists, as data -/
def ptrD (b : Nat) : DataW Value := .held (.pointer (some ⟨b, 0, none⟩))
def mapD (B : Nat → Nat) : Nat → DataW Value
  | 0 => .map []
  | k + 1 => (mapD B k).put (keyI k) (ptrD (B k))
theorem mapD_congr {B B' : Nat → Nat} : ∀ k, (∀ i, i < k → B i = B' i) → mapD B k = mapD B' k
  | 0, _ => rfl
  | k + 1, h => by rw [mapD, mapD, mapD_congr k (fun i hi => h i (by omega)), h k (by omega)]
theorem mapD_tidy (B : Nat → Nat) : ∀ k, Tidy (mapD B k)
  | 0 => tidy_empty
  | k + 1 => (mapD_tidy B k).put (isKey_keyI _) _
theorem keyI_inj {a b : Int} (h : keyI a = keyI b) : a = b := by simpa [keyI] using h
theorem mapD_has (B : Nat → Nat) (q : Nat) : ∀ k, Maps.has (mapD B k) (keyI q) = decide (q < k)
  | 0 => rfl
  | k + 1 => by
    rw [mapD]
    by_cases h : q = k
    · subst h
      rw [has_put_same (mapD_tidy B q).isMap (isKey_keyI _)]
      simp
    · rw [has_put_other (fun e => h (by have := keyI_inj e; omega)), mapD_has B q k]
      simp; omega
theorem mapD_at (B : Nat → Nat) (q : Nat) : ∀ k, q < k → ∀ z, (mapD B k).atKey (keyI q) z = ptrD (B q)
  | 0, h, _ => by omega
  | k + 1, h, z => by
    rw [mapD]
    by_cases e : q = k
    · subst e
      exact atKey_put_same (mapD_tidy B q).isMap (isKey_keyI _) _ _
    · rw [atKey_put_other (fun e' => e (by have := keyI_inj e'; omega))]
      exact mapD_at B q k (by omega) z
theorem mapD_size (B : Nat → Nat) : ∀ k, Maps.size (mapD B k) = k
  | 0 => rfl
  | k + 1 => by
    rw [mapD, size_put (mapD_tidy B k), mapD_has, mapD_size B k]
    simp

/-! ### Blocks of two kinds are two -/
theorem kinds_ne {W : World} {a b : Nat} {c c' : Array Value} {t t' : TypeId} (ha : W.heap[a]? = some (.cells c t (0, 0))) (hb : W.heap[b]? = some (.cells c' t' (0, 0))) (h : t ≠ t') : a ≠ b := by
  rintro rfl
  rw [ha] at hb
  simp at hb
  exact h hb.2
theorem map_ne {W : World} {a b : Nat} {c : Array Value} {t : TypeId} {H : Type} {P : Program} {k : TypeId} {R : Value → Option (DataW H × List MemPlace)} {n : Nat} {D : DataW H} (ha : W.heap[a]? = some (.cells c t (0, 0))) (hb : W.ownsMap P k R b n D) : a ≠ b := by
  rintro rfl
  obtain ⟨es, clock, h, _⟩ := hb
  rw [ha] at h
  cases h

theorem Holds.block {w : World} {n₀ : Nat} {v : Value} {vs : List Int} (h : Holds w n₀ v vs) {g : Nat} (hg : v.ownBlock = some g) : n₀ ≤ g ∧ ∃ c, w.heap[g]? = some (.cells c 3 (0, 0)) := by
  rcases h.cases with ⟨rfl, _⟩ | ⟨g', cap, cur, rfl, hn, hh, _⟩
  · simp [Value.ownBlock] at hg
  · simp [Value.ownBlock] at hg
    subst hg
    exact ⟨hn, cur, hh⟩
theorem Holds.only {w w' : World} {n₀ : Nat} {v : Value} {vs : List Int} (h : Holds w n₀ v vs) {S : Nat → Prop} (ho : Only S w w') (hS : ∀ g, v.ownBlock = some g → ¬ S g) : Holds w' n₀ v vs := by
  refine ⟨h.1, ?_⟩
  rcases h.2 with h0 | ⟨g, cap, cur, rfl, hb, hh, rest⟩
  · exact .inl h0
  · exact .inr ⟨g, cap, cur, rfl, hb, ho.at hh (hS g rfl), rest⟩

/-! ### What has been built when the lists ahead of k are done -/
/-- The values of list i, of size s: i*16, i*16 + 1, .. -/
def vlist (i s : Nat) : List Int := (List.range s).map fun j => ((i * 16 + j : Nat) : Int)
theorem vlist_length (i s : Nat) : (vlist i s).length = s := by simp [vlist]
theorem vlist_succ (i s : Nat) : vlist i (s + 1) = vlist i s ++ [((i * 16 + s : Nat) : Int)] := by simp [vlist, List.range_succ]

structure Outer (W : World) (n₀ bm bp N : Nat) (k : Nat) (sz : Nat → Nat) (B : Nat → Nat) (bs : Nat → List Nat) (sv : Nat → Value) : Prop where
  own : W.ownsMap Yba.prog 3 heldElem bm k (mapD B k)
  ptrs : W.rowIs bp 31 N (fun i => .pointer (if i < k then some ⟨B i, 0, none⟩ else none))
  holds : ∀ i, i < k → Holds W n₀ (sv i) (vlist i (sz i))
  lists : ∀ i, i < k → IsL W (B i) (bs i) (vlist i (sz i))
  inj : ∀ i j, i < k → j < k → i ≠ j → B i ≠ B j

theorem Outer.only {W W' : World} {n₀ bm bp N k : Nat} {sz B : Nat → Nat} {bs : Nat → List Nat} {sv : Nat → Value} (h : Outer W n₀ bm bp N k sz B bs sv) {S : Nat → Prop} (ho : Only S W W')
    (h1 : ¬ S bm) (h2 : ¬ S bp) (h3 : ∀ i, i < k → ¬ S (B i)) (h4 : ∀ i, i < k → ∀ b ∈ bs i, ¬ S b) (h5 : ∀ i, i < k → ∀ g, (sv i).ownBlock = some g → ¬ S g) : Outer W' n₀ bm bp N k sz B bs sv := by
  refine ⟨?_, ?_, fun i hi => (h.holds i hi).only ho (h5 i hi), fun i hi => (h.lists i hi).only ho (h3 i hi) (h4 i hi), h.inj⟩
  · obtain ⟨es, clock, hb, r⟩ := h.own
    exact ⟨es, clock, ho.at hb h1, r⟩
  · exact h.ptrs.of_block (ho.block bp h.ptrs.lt h2)

/-- .. while another list grows. -/
theorem Outer.push {W W' : World} {n₀ bm bp N k : Nat} {sz B : Nat → Nat} {bs : Nat → List Nat} {sv : Nat → Value} (h : Outer W n₀ bm bp N k sz B bs sv) {Bl : Nat} {bl : List Nat} {vl : List Int} (hl : IsL W Bl bl vl) (hne : ∀ i, i < k → B i ≠ Bl) (ho : Only (Mine Bl bl) W W') : Outer W' n₀ bm bp N k sz B bs sv := by
  have key : ∀ {b : Nat} {c : Array Value} {t : TypeId}, W.heap[b]? = some (.cells c t (0, 0)) → t ≠ 44 → t ≠ 38 → ¬ Mine Bl bl b := fun hb h1 h2 hm => by
    rcases hm with rfl | hm
    · exact kinds_ne hb hl.root h1 rfl
    · obtain ⟨n, p, v, hn⟩ := hl.at hm
      exact kinds_ne hb hn h2 rfl
  refine h.only ho ?_ ?_ (fun i hi hm => ?_) (fun i hi b hb hm => ?_) (fun i hi g hg => ?_)
  · rintro (rfl | hm)
    · exact map_ne hl.root h.own rfl
    · obtain ⟨n, p, v, hn⟩ := hl.at hm
      exact map_ne hn h.own rfl
  · obtain ⟨c, hc, _⟩ := h.ptrs
    exact key hc (by decide) (by decide)
  · rcases hm with e | hm
    · exact hne i hi e
    · exact hl.root_apart (h.lists i hi) hm
  · rcases hm with e | hm
    · exact (h.lists i hi).root_apart hl (e ▸ hb)
    · exact ((h.lists i hi).apart hl (hne i hi) hb).2 hm
  · obtain ⟨_, c, hc⟩ := (h.holds i hi).block hg
    exact key hc (by decide) (by decide)

/-- .. while a row of slices is stored into. -/
theorem Outer.setVals {W : World} {n₀ bm bp N k : Nat} {sz B : Nat → Nat} {bs : Nat → List Nat} {sv : Nat → Value} (h : Outer W n₀ bm bp N k sz B bs sv) {bv M : Nat} {f : Nat → Value} (hv : W.rowIs bv 30 M f) (i : Nat) (v : Value) : Outer (W.setCell ⟨bv, i, none⟩ v) n₀ bm bp N k sz B bs sv := by
  obtain ⟨c, hc, _⟩ := hv
  have ho : Only (fun j => j = bv) W (W.setCell ⟨bv, i, none⟩ v) := (Only.refl (fun j => j = bv) W).setCell (p := ⟨bv, i, none⟩) (fun _ => rfl) v
  refine h.only ho ?_ ?_ (fun i hi => ?_) (fun i hi b hb => ?_) (fun i hi g hg => ?_)
  · rintro rfl; exact map_ne hc h.own rfl
  · rintro rfl
    obtain ⟨c', hc', _⟩ := h.ptrs
    exact kinds_ne hc' hc (by decide) rfl
  · intro e
    exact kinds_ne (h.lists i hi).root hc (by decide) e
  · obtain ⟨n, p, v, hn⟩ := (h.lists i hi).at hb
    exact kinds_ne hn hc (by decide)
  · obtain ⟨_, c', hc'⟩ := (h.holds i hi).block hg
    exact kinds_ne hc' hc (by decide)

/-- .. while a slice of its own row is appended to. -/
theorem Outer.appended {W W' : World} {n₀ bm bp N k : Nat} {sz B : Nat → Nat} {bs : Nat → List Nat} {sv : Nat → Value} (h : Outer W n₀ bm bp N k sz B bs sv) {s : Value} {vs : List Int} (hs : Holds W n₀ s vs) (hg : W.grownBy W' s.ownBlock) (hne : ∀ g, s.ownBlock = some g → ∀ i, i < k → (sv i).ownBlock ≠ some g) : Outer W' n₀ bm bp N k sz B bs sv := by
  have ho : Only (fun j => s.ownBlock = some j) W W' := (Only.refl _ W).grown hg (fun j e _ => e)
  have key : ∀ {b : Nat} {c : Array Value} {t : TypeId}, W.heap[b]? = some (.cells c t (0, 0)) → t ≠ 3 → ¬ s.ownBlock = some b := fun hb ht e => by
    obtain ⟨_, c', hc'⟩ := hs.block e
    exact kinds_ne hb hc' ht rfl
  refine h.only ho ?_ ?_ (fun i hi => key (h.lists i hi).root (by decide)) (fun i hi b hb => ?_) (fun i hi g hg e => hne g e i hi hg)
  · intro e
    obtain ⟨_, c', hc'⟩ := hs.block e
    exact map_ne hc' h.own rfl
  · obtain ⟨c, hc, _⟩ := h.ptrs
    exact key hc (by decide)
  · obtain ⟨n, p, v, hn⟩ := (h.lists i hi).at hb
    exact key hn (by decide)

theorem Outer.alloc {W : World} {n₀ bm bp N k : Nat} {sz B : Nat → Nat} {bs : Nat → List Nat} {sv : Nat → Value} (h : Outer W n₀ bm bp N k sz B bs sv) (o : Obj) : Outer (W.alloc o) n₀ bm bp N k sz B bs sv :=
  h.only (S := fun _ => False) ((Only.refl _ W).alloc o) (fun h => h) (fun h => h) (fun _ _ h => h) (fun _ _ _ _ h => h) (fun _ _ _ _ h => h)

end Go.Proofs.Ybulkcktu
