/- zzs4333bin; the map 'wanted'; errors.New. -/
import Derived.Test.YbulkckseFmtBrec
namespace Go.Proofs.YbulkckseFmt
open Go Go.RowKit Go.Maps

/-- Is q among L? -/
def inL (L : List ByteArray) (q : ByteArray) : Bool := L.any (fun s => s.toList == q.toList)
theorem inL_none {L : List ByteArray} {q : ByteArray} (h : NoneTo L q L.length) : inL L q = false := by
  unfold inL
  rw [List.any_eq_false]
  intro x hx
  obtain ⟨j, hj, rfl⟩ := List.mem_iff_getElem.1 hx
  have := h j hj
  rw [List.getElem?_eq_getElem hj] at this
  simpa using this
theorem inL_hit {L : List ByteArray} {q : ByteArray} {k : Nat} (hk : k < L.length) (h : ((L[k]?.getD ByteArray.empty).toList == q.toList) = true) : inL L q = true := by
  unfold inL
  rw [List.any_eq_true]
  exact ⟨L[k], List.getElem_mem hk, by rw [List.getElem?_eq_getElem hk] at h; simpa using h⟩

set_option maxRecDepth 100000 in
set_option maxHeartbeats 1000000 in
theorem bin_any (a : Option Addr) (cap : Nat) (L : List ByteArray) (q : ByteArray) (w : World) (hmax : L.length ≤ 1024)
    (hc : ∀ j, j < L.length → ∃ b off, a = some ⟨b, off, none⟩ ∧ w.cell? ⟨b, off + j, none⟩ = some (.string (L[j]?.getD ByteArray.empty))) :
    Calls Ybaf.prog 11 #[.slice a L.length cap, .string q] w fun e w' => e = .returned (.bool (inL L q)) ∧ w' = w := by
  go_enter Ybaf.func11, Ybaf.ntmps11
  go_wp2
  go_loop [9] (fun i => ∃ k : Nat, k ≤ L.length ∧ i = .int .i64 k ∧ NoneTo L q k) (fun i => L.length - (intOf i).toNat)
  case atStart => exact ⟨0, Nat.zero_le _, rfl, fun j hj => by omega⟩
  case round =>
    obtain ⟨k, hk, rfl, hno⟩ := hrel
    by_cases hlt : k < L.length
    · obtain ⟨b, off, rfl, hcx⟩ := hc k hlt
      obtain ⟨t, ht⟩ : ∃ t, L[k]?.getD ByteArray.empty = t := ⟨_, rfl⟩
      rw [ht] at hcx
      have HT : Hid (L[k]?.getD ByteArray.empty = t) := ht
      clear ht hc
      cases hq : (t.toList == q.toList)
      · go_wp2
        exact ⟨⟨k + 1, by omega, by simp, hno.succ (by rw [HT.out]; exact hq)⟩, by simp [intOf]; omega⟩
      · go_wp2
        go_ret
        refine ⟨?_, rfl⟩
        rw [inL_hit hlt (by rw [HT.out]; exact hq)]
        rfl
    · obtain rfl : k = L.length := by omega
      have hn := inL_none hno
      go_wp2
      go_ret
      exact ⟨rfl, rfl⟩

/-! ### The map 'wanted' -/
def heldElem : Value → Option (DataW Value × List MemPlace) := fun v => some (.held v, [])
def wantTo (L : List ByteArray) : Nat → DataW Value
  | 0 => .map []
  | k + 1 => (wantTo L k).put (keyS (L[k]?.getD ByteArray.empty)) (.held (.bool true))
theorem wantTo_isMap (L : List ByteArray) : ∀ k, IsMap (wantTo L k)
  | 0 => isMap_empty
  | k + 1 => (wantTo_isMap L k).put _ _
theorem wantTo_spec (L : List ByteArray) (q : ByteArray) : ∀ k, k ≤ L.length →
    (NoneTo L q k ∧ Maps.has (wantTo L k) (keyS q) = false) ∨ (inL L q = true ∧ ∀ z, (wantTo L k).atKey (keyS q) z = .held (.bool true))
  | 0, _ => .inl ⟨fun j hj => by omega, rfl⟩
  | k + 1, hk => by
    by_cases ht : ((L[k]?.getD ByteArray.empty).toList == q.toList) = true
    · have e : keyS (L[k]?.getD ByteArray.empty) = keyS q := keyS_inj.2 ht
      refine .inr ⟨inL_hit (by omega) ht, fun z => ?_⟩
      rw [wantTo, e]
      exact atKey_put_same (wantTo_isMap L k) (isKey_keyS q) _ _
    · have ht' : ((L[k]?.getD ByteArray.empty).toList == q.toList) = false := by simpa using ht
      have hne : keyS q ≠ keyS (L[k]?.getD ByteArray.empty) := fun e => ht (keyS_inj.1 e.symm)
      rcases wantTo_spec L q k (by omega) with ⟨h0, hh⟩ | ⟨hi, ha⟩
      · exact .inl ⟨h0.succ ht', by rw [wantTo, has_put_other hne]; exact hh⟩
      · exact .inr ⟨hi, fun z => by rw [wantTo, atKey_put_other hne]; exact ha z⟩
theorem wanted_at (L : List ByteArray) (q : ByteArray) : (wantTo L L.length).atKey (keyS q) (.held (.bool false)) = .held (.bool (inL L q)) := by
  rcases wantTo_spec L q L.length (Nat.le_refl _) with ⟨h0, hh⟩ | ⟨hi, ha⟩
  · rw [inL_none h0]; exact atKey_of_not_has hh _
  · rw [hi]; exact ha _

theorem wpList_lookup_held {P : Program} {w : World} {ops : Array Oper} {rest : List Oper} {o : Oper} {a : Act} {Q : Exit → Act → World → Prop} (hg : o.guard = none) (m x : Operand) (t : TypeId) (hop : o.op = Op.lookup t m x false)
    (k e : TypeId) (K : Keyed P k) (ht : P.underlying t = some (.map k e)) {z : Value} (hz : (zeroValue e).run P w = .ok z w) (b n : Nat) (D : DataW Value)
    (hm : a.eval m = .map (some b)) (hown : w.ownsMap P k heldElem b n D) (key : Value) (kl : Lit) (hx : a.eval x = key) (hkey : keyOf P k key = some kl) (u : Value) (hu : D.atKey kl (.held z) = .held u)
    (hK : wpList P ops Q rest (a.put o.dst u) w) : wpList P ops Q (o :: rest) a w := by
  refine wpList_plain hg fun K' hK' => ?_
  obtain ⟨v, ps, hrun, hv⟩ := hown.lookup K ht hz (zd := .held z) (zp := []) rfl hkey
  have e : v = u := by
    simp only [heldElem, Option.some.injEq, Prod.mk.injEq] at hv
    rw [hu] at hv
    exact DataW.held.inj hv.1
  subst e
  unfold Oper.wp
  simp [execOp, hop, hm, hx, hrun, Result.andThen]
  exact hK' _ _ hK

set_option maxHeartbeats 1000000 in
theorem errorsNew (t : ByteArray) (w : World) : Calls Ybaf.prog 4 #[.string t] w fun e w' => e = .returned (.iface 49 (.pointer (some ⟨w.heap.size, 0, none⟩))) ∧ w' = w.alloc (.cells #[.string t] 51) := by
  go_enter Ybaf.func4, Ybaf.ntmps4
  go_wp2
  go_ret
  exact ⟨rfl, rfl⟩
end Go.Proofs.YbulkckseFmt
