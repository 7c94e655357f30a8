import Derived.Test.YbulkckseRange
import Derived.RangeFuncNested
import Derived.RangeFuncBound
import Derived.RangeFuncCalls
import Derived.RangeFuncLeaves
import Derived.Shelf.Abstract
import Derived.Shelf.RegionOpen
import Derived.WalkKit
import Derived.OwnWalkIn
import Derived.TacticsInMore
import Derived.LoopNIn
import Derived.LoopIn
import Derived.Maps.AppendAt
import Derived.Test.YbulkckseChecked
namespace Go.Proofs.Ybulkckse
open Go Go.RowKit Go.Shelf
attribute [local go_sem] Oper.semAt_some

theorem info3 : (Yba.prog.info? 3).map (fun i => (i.zero, i.size, i.bytes)) = some (some (.int .i64 0), 1, 8) := by kernel_rfl
theorem info9 : (Yba.prog.info? 9).map (fun i => (i.zero, i.size, i.bytes)) = some (some (.string ByteArray.empty), 1, 16) := by kernel_rfl

set_option maxRecDepth 100000 in
set_option maxHeartbeats 2000000 in
theorem collect8 (F : Fence) (n : Nat) (h8 : F.fn 8) (hro : F.round = none) (hn : 2 ≤ n) (gf : Nat) (hgf : F.fn gf) (eg : ∀ args w, (callFunc gf args).run Yba.prog w = .ok (.enter gf args) w) (lb : Array Value) (S : List Int → World → Prop) (N : Nat) (hN : N ≤ 1024) (w : World)
    (hseq : SeqState F (n - 1) Yba.prog gf lb (fun x : Int => #[Value.int .i64 x]) w.heap.size S N w)
    (hS : ∀ xs (W : World) (l : Nat) (o o' : Obj), w.heap.size ≤ l → W.heap[l]? = some o → S xs W → S xs (W.putObj l o')) :
    CallsIn F n Yba.prog 8 #[.func (.func gf) #[] lb] w fun e W' => ∃ g cap xs, e = .returned (.slice (some ⟨g, 0, none⟩) xs.length cap) ∧ W'.ownsRow w.heap.size 3 1 (.slice (some ⟨g, 0, none⟩) xs.length cap) xs.length (xs.map (Value.int .i64)) ∧ S xs W' := by
  have h1 : 1 ≤ n := by omega
  obtain ⟨i0, hi, hz0, hz1, hz2⟩ := info_parts info3
  refine callsIn_of_wp_marks Yba.func8 rfl h8 ?_ hro
  simp only [Yba.ntmps8, List.size_toArray, List.length_cons, List.length_nil, Nat.reduceAdd, Nat.reduceSub, Array.replicate_succ, Array.replicate_zero, List.push_toArray, List.append_toArray, List.nil_append, List.cons_append]
  gi_wp2
  have bV := Boxed.new (w.alloc (.cells #[] 3)) 22 (.slice (some ⟨w.heap.size, 0, none⟩) 0 0)
  rw [World.size_alloc] at bV
  have hrow0 : ((w.alloc (.cells #[] 3)).alloc (.cells #[.slice (some ⟨w.heap.size, 0, none⟩) 0 0] 22)).ownsRow w.heap.size 3 1 (.slice (some ⟨w.heap.size, 0, none⟩) 0 0) 0 [] :=
    ⟨rfl, .inr ⟨w.heap.size, 0, #[], rfl, Nat.le_refl _, (Below.heap_alloc _ _ _ (by simp)).trans (World.alloc_heap_new w _), Nat.le_refl _, by decide, rfl, rfl⟩⟩
  have hB0 : Below w.heap.size w ((w.alloc (.cells #[] 3)).alloc (.cells #[.slice (some ⟨w.heap.size, 0, none⟩) 0 0] 22)) := ((Below.refl _ w).alloc (Nat.le_refl _) _).alloc (by simp) _
  refine wpIn_rangeFunc_state hro h1 (gf := gf) (lb := lb) (w0 := w) (n₀ := w.heap.size) rfl hgf eg (by simp; omega) hB0 hseq
    (fun xs W l o o' hl ho hs => hS xs W l o o' (by simp at hl; omega) ho hs) (fun _ => rfl)
    (fun pre W => (∃ v, Boxed W (w.heap.size + 1) 22 v ∧ W.ownsRow w.heap.size 3 1 v pre.length (pre.map (Value.int .i64)) ∧ v ≠ .slice none 0 0) ∧ w.heap.size ≤ W.heap.size)
    (OwnFrom.and (Own.from (holdsRow_own w.heap.size (w.heap.size + 1) 22 3 1 (fun pre : List Int => pre.length) (fun pre => pre.map (Value.int .i64)) (fun pre v => v ≠ .slice none 0 0)) _) (fun _ _ _ _ hs hg _ => Nat.le_trans hs hg.size))
    (fun s W b v hb hs => by
      obtain ⟨⟨u, hu, hr, hne⟩, hsz⟩ := hs
      exact ⟨⟨u, hu.kept (grownBy_setCell' W b v) (by simp; omega), ownsRow_setCell_below hr (a := ⟨b, 0, none⟩) hb v, hne⟩, by rw [show (W.setCell ⟨b, 0, none⟩ v).heap.size = W.heap.size by simp [World.setCell]]; exact hsz⟩)
    ⟨⟨_, bV, hrow0, by simp⟩, by simp; omega⟩
    (fun x => { tmps := #[Value.func (Fn.func gf) #[] lb, undef, Value.slice none 0 0, Value.pointer (some { block := w.heap.size + 1, off := 0 }), .int .i64 x, Value.slice (some { block := w.heap.size, off := 0 }) 0 0, Value.func (Fn.func gf) #[] lb, .int .i64 x, undef, undef, undef, undef, undef], defers := [] }) ?assign ?body ?done
  case assign =>
    intro l x W K hK
    gi_wp2
    exact hK
  case body =>
    rintro l pre x W ⟨⟨v, hv, hrow, hne⟩, hsz⟩ hlt
    have hc := hv.cell
    have hm : (1024 : Nat) ≤ maxLen := by decide
    gi_wp2_with (gi_at_builtin; refine wpListIn_append_own _ rfl _ _ 22 rfl w.heap.size 3 i0 (.int .i64 0) 1 8 Yba.underlying22 hi hz0 hz1 hz2 rfl (by decide) _ _ _ rfl (hrow.alloc _) ⟨W.heap.size, 0, none⟩ 1 1 [.int .i64 x] rfl rfl (cell_one_new _ _ _) (by simp [Value.oneCell']) (by omega) (by omega) (by simp; omega) ?_; intro v' w1 hown' hgrow _; obtain ⟨g', cap', rfl⟩ := ownsRow_succ hown'; obtain ⟨hv1, hv2, hr2, hk2, hb2⟩ := hv.appended (by decide) hrow hsz (by omega) hown' hgrow; have hc1 := hv1.cell; have hf1 := hv1.frozen)
    exact ⟨hk2.from _, hb2, ⟨_, hv2, by simpa using hr2, by simp⟩, Nat.le_trans hsz hb2.size⟩
  case done =>
    rintro D ys W hD hSx ⟨⟨v, hv, hrow, hne⟩, hsz⟩ hK
    have hc := hv.cell
    gi_wp2
    refine ⟨by simp, .inl ⟨_, _, rfl, run_takeDeferred hK, ?_⟩⟩
    have hrow' := hrow
    rcases hrow'.2 with ⟨rfl, _⟩ | ⟨g, cap, cur, rfl, _⟩
    · exact absurd rfl hne
    · exact ⟨_, results_tmp rfl _ _ _, g, cap, ys, rfl, ownsRow_putObj hrow _ hK rfl, hS _ _ _ _ _ (by simp at hD; omega) hK hSx⟩

set_option maxRecDepth 100000 in
set_option maxHeartbeats 2000000 in
theorem collect10 (F : Fence) (n : Nat) (h8 : F.fn 10) (hro : F.round = none) (hn : 2 ≤ n) (gf : Nat) (hgf : F.fn gf) (eg : ∀ args w, (callFunc gf args).run Yba.prog w = .ok (.enter gf args) w) (lb : Array Value) (S : List ByteArray → World → Prop) (N : Nat) (hN : N ≤ 1024) (w : World)
    (hseq : SeqState F (n - 1) Yba.prog gf lb (fun x : ByteArray => #[Value.string x]) w.heap.size S N w)
    (hS : ∀ xs (W : World) (l : Nat) (o o' : Obj), w.heap.size ≤ l → W.heap[l]? = some o → S xs W → S xs (W.putObj l o')) :
    CallsIn F n Yba.prog 10 #[.func (.func gf) #[] lb] w fun e W' => ∃ g cap xs, e = .returned (.slice (some ⟨g, 0, none⟩) xs.length cap) ∧ W'.ownsRow w.heap.size 9 1 (.slice (some ⟨g, 0, none⟩) xs.length cap) xs.length (xs.map (Value.string)) ∧ S xs W' := by
  have h1 : 1 ≤ n := by omega
  obtain ⟨i0, hi, hz0, hz1, hz2⟩ := info_parts info9
  refine callsIn_of_wp_marks Yba.func10 rfl h8 ?_ hro
  simp only [Yba.ntmps10, List.size_toArray, List.length_cons, List.length_nil, Nat.reduceAdd, Nat.reduceSub, Array.replicate_succ, Array.replicate_zero, List.push_toArray, List.append_toArray, List.nil_append, List.cons_append]
  gi_wp2
  have bV := Boxed.new (w.alloc (.cells #[] 9)) 27 (.slice (some ⟨w.heap.size, 0, none⟩) 0 0)
  rw [World.size_alloc] at bV
  have hrow0 : ((w.alloc (.cells #[] 9)).alloc (.cells #[.slice (some ⟨w.heap.size, 0, none⟩) 0 0] 27)).ownsRow w.heap.size 9 1 (.slice (some ⟨w.heap.size, 0, none⟩) 0 0) 0 [] :=
    ⟨rfl, .inr ⟨w.heap.size, 0, #[], rfl, Nat.le_refl _, (Below.heap_alloc _ _ _ (by simp)).trans (World.alloc_heap_new w _), Nat.le_refl _, by decide, rfl, rfl⟩⟩
  have hB0 : Below w.heap.size w ((w.alloc (.cells #[] 9)).alloc (.cells #[.slice (some ⟨w.heap.size, 0, none⟩) 0 0] 27)) := ((Below.refl _ w).alloc (Nat.le_refl _) _).alloc (by simp) _
  refine wpIn_rangeFunc_state hro h1 (gf := gf) (lb := lb) (w0 := w) (n₀ := w.heap.size) rfl hgf eg (by simp; omega) hB0 hseq
    (fun xs W l o o' hl ho hs => hS xs W l o o' (by simp at hl; omega) ho hs) (fun _ => rfl)
    (fun pre W => (∃ v, Boxed W (w.heap.size + 1) 27 v ∧ W.ownsRow w.heap.size 9 1 v pre.length (pre.map (Value.string)) ∧ v ≠ .slice none 0 0) ∧ w.heap.size ≤ W.heap.size)
    (OwnFrom.and (Own.from (holdsRow_own w.heap.size (w.heap.size + 1) 27 9 1 (fun pre : List ByteArray => pre.length) (fun pre => pre.map (Value.string)) (fun pre v => v ≠ .slice none 0 0)) _) (fun _ _ _ _ hs hg _ => Nat.le_trans hs hg.size))
    (fun s W b v hb hs => by
      obtain ⟨⟨u, hu, hr, hne⟩, hsz⟩ := hs
      exact ⟨⟨u, hu.kept (grownBy_setCell' W b v) (by simp; omega), ownsRow_setCell_below hr (a := ⟨b, 0, none⟩) hb v, hne⟩, by rw [show (W.setCell ⟨b, 0, none⟩ v).heap.size = W.heap.size by simp [World.setCell]]; exact hsz⟩)
    ⟨⟨_, bV, hrow0, by simp⟩, by simp; omega⟩
    (fun x => { tmps := #[Value.func (Fn.func gf) #[] lb, undef, Value.slice none 0 0, Value.pointer (some { block := w.heap.size + 1, off := 0 }), .string x, Value.slice (some { block := w.heap.size, off := 0 }) 0 0, Value.func (Fn.func gf) #[] lb, .string x, undef, undef, undef, undef, undef], defers := [] }) ?assign ?body ?done
  case assign =>
    intro l x W K hK
    gi_wp2
    exact hK
  case body =>
    rintro l pre x W ⟨⟨v, hv, hrow, hne⟩, hsz⟩ hlt
    have hc := hv.cell
    have hm : (1024 : Nat) ≤ maxLen := by decide
    gi_wp2_with (gi_at_builtin; refine wpListIn_append_own _ rfl _ _ 27 rfl w.heap.size 9 i0 (.string ByteArray.empty) 1 16 Yba.underlying27 hi hz0 hz1 hz2 rfl (by decide) _ _ _ rfl (hrow.alloc _) ⟨W.heap.size, 0, none⟩ 1 1 [.string x] rfl rfl (cell_one_new _ _ _) (by simp [Value.oneCell']) (by omega) (by omega) (by simp; omega) ?_; intro v' w1 hown' hgrow _; obtain ⟨g', cap', rfl⟩ := ownsRow_succ hown'; obtain ⟨hv1, hv2, hr2, hk2, hb2⟩ := hv.appended (by decide) hrow hsz (by omega) hown' hgrow; have hc1 := hv1.cell; have hf1 := hv1.frozen)
    exact ⟨hk2.from _, hb2, ⟨_, hv2, by simpa using hr2, by simp⟩, Nat.le_trans hsz hb2.size⟩
  case done =>
    rintro D ys W hD hSx ⟨⟨v, hv, hrow, hne⟩, hsz⟩ hK
    have hc := hv.cell
    gi_wp2
    refine ⟨by simp, .inl ⟨_, _, rfl, run_takeDeferred hK, ?_⟩⟩
    have hrow' := hrow
    rcases hrow'.2 with ⟨rfl, _⟩ | ⟨g, cap, cur, rfl, _⟩
    · exact absurd rfl hne
    · exact ⟨_, results_tmp rfl _ _ _, g, cap, ys, rfl, ownsRow_putObj hrow _ hK rfl, hS _ _ _ _ _ (by simp at hD; omega) hK hSx⟩

end Go.Proofs.Ybulkckse
