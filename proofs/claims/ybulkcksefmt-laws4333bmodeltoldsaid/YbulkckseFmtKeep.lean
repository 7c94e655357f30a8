import Derived.Test.YbulkckseFmtBin
import Derived.Deep.RegionWith
import Derived.BigRegion
namespace Go.Proofs.YbulkckseFmt
open Go Go.RowKit Go.Maps

theorem zero4 (w : World) : (zeroValue 4).run Ybaf.prog w = .ok (.bool false) w := by kernel_rfl

theorem run_lookup_want {w : World} {bm n : Nat} {L : List ByteArray} {v : ByteArray} (hown : w.ownsMap Ybaf.prog 9 heldElem bm n (wantTo L L.length)) (hv : v.size ≤ maxLen) :
    (Instr.lookup 53 (.map (some bm)) (.string v) false).run Ybaf.prog w = .ok (.bool (inL L v)) w := by
  obtain ⟨u, ps, hrun, hu⟩ := hown.lookup law9 Ybaf.underlying53 (zero4 w) (zd := .held (.bool false)) (zp := []) rfl (WideMaps.keyOf_string_mk Ybaf.underlying9 hv)
  simp only [heldElem, Option.some.injEq, Prod.mk.injEq] at hu
  have e := wanted_at L v
  rw [keyS] at e
  rw [e] at hu
  have := DataW.held.inj hu.1
  rw [hrun, this]

set_option maxRecDepth 100000 in
set_option maxHeartbeats 1000000 in
/-- RestrictField$2: is the record wanted? -/
theorem keep_any (bW bN bm n : Nat) (L : List ByteArray) (nr ln : Int) (text v : ByteArray) (ok : Bool) (p a : Option Addr) (l c : Nat) (W : World) (hN : Boxed W bN 9 (.string sK)) (hW : Boxed W bW 53 (.map (some bm)))
    (hown : W.ownsMap Ybaf.prog 9 heldElem bm n (wantTo L L.length)) (hv : v.size ≤ maxLen)
    (hlook : ∀ W', Below W.heap.size W W' → Calls Ybaf.prog 16 #[recV nr ln text p (.slice a l c), .string sK] W' fun e W2 => e = .returned (.tuple #[.string v, .bool ok]) ∧ Below W'.heap.size W' W2) :
    Calls Ybaf.prog 19 #[recV nr ln text p (.slice a l c), .pointer (some ⟨bW, 0, none⟩), .pointer (some ⟨bN, 0, none⟩)] W fun e W' => e = .returned (.bool (inL L v)) ∧ Below W.heap.size W W' := by
  have hfield : ∀ W1, Below W.heap.size W W1 → Calls Ybaf.prog 12 #[recV nr ln text p (.slice a l c), .string sK] W1 fun e W2 => e = .returned (.string v) ∧ Below W1.heap.size W1 W2 := fun W1 h1 =>
    Field_of _ sK v ok nr ln text p a l c rfl W1 ((hlook _ (h1.alloc h1.size _)).mono fun e W2 h => ⟨h.1, by have := h.2; rwa [World.size_alloc] at this⟩)
  have hB1 : Below W.heap.size W (W.alloc (.cells #[.int .i64 nr, .int .i64 ln, .string text, .pointer p, .slice a l c] 31)) := (Below.refl _ W).alloc (Nat.le_refl _) _
  have cN := (hB1.cell (p := ⟨bN, 0, none⟩) hN.lt).trans hN.cell
  have cW := (hB1.cell (p := ⟨bW, 0, none⟩) hW.lt).trans hW.cell
  have hbW := hW.lt
  have hcW := hW.cell
  have hmb := hown.lt
  clear hN hW hlook
  go_enter Ybaf.func19, Ybaf.ntmps19
  go_wp2_with fail
  go_region_with (
    (go_at_call 12; go_must (refine (hfield _ hB1.drew).mono ?_); rintro e w1 ⟨rfl, hb1⟩; have hB2 : Below W.heap.size W w1 := hB1.drew.trans (hb1.mono (by simp)); have c2 := (hB2.cell (p := ⟨bW, 0, none⟩) hbW).trans hcW; have hlk := run_lookup_want (ownsMap_below hown hB2 hmb) hv; clear hb1))
  all_goals
    go_wp2_with fail
    go_ret
    exact ⟨rfl, hB2⟩
end Go.Proofs.YbulkckseFmt
