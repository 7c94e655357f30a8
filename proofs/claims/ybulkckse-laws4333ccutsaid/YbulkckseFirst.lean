import Derived.Test.YbulkckseChecked
import Derived.WalkKit
import Derived.WalkSpells
import Derived.WalkSmall
import Derived.OwnWalk
import Derived.Outline
import Derived.Below
namespace Go.Proofs.Ybulkckse
open Go Go.RowKit

/-- The first place of q in L. -/
def fst? (L : List ByteArray) (q : ByteArray) : Option Nat := L.findIdx? (fun s => s.toList == q.toList)
def fstInt (L : List ByteArray) (q : ByteArray) : Int := match fst? L q with | some j => (j : Int) | none => -1

/-- THE ROW OF STRINGS L lies at a. -/
def Strs (w : World) (a : Option Addr) (L : List ByteArray) : Prop :=
  L = [] ∨ ∃ b off, a = some ⟨b, off, none⟩ ∧ b < w.heap.size ∧ ∀ j, j < L.length → w.cell? ⟨b, off + j, none⟩ = some (.string (L[j]?.getD ByteArray.empty))

theorem Strs.below {w w' : World} {a : Option Addr} {L : List ByteArray} (h : Strs w a L) (hb : Below w.heap.size w w') : Strs w' a L := by
  rcases h with h | ⟨b, off, ha, hlt, hc⟩
  · exact .inl h
  · exact .inr ⟨b, off, ha, Nat.lt_of_lt_of_le hlt hb.size, fun j hj => (hb.cell (p := ⟨b, off + j, none⟩) hlt).trans (hc j hj)⟩

/-- No place ahead of k holds q. -/
def NoneTo (L : List ByteArray) (q : ByteArray) (k : Nat) : Prop := ∀ j, j < k → ((L[j]?.getD ByteArray.empty).toList == q.toList) = false

theorem fst_hit {L : List ByteArray} {q : ByteArray} {k : Nat} (hk : k < L.length) (h0 : NoneTo L q k) (h : ((L[k]?.getD ByteArray.empty).toList == q.toList) = true) : fst? L q = some k := by
  unfold fst?
  rw [List.findIdx?_eq_some_iff_getElem]
  refine ⟨hk, by simpa [hk] using h, fun j hj => ?_⟩
  have := h0 j hj
  rw [List.getElem?_eq_getElem (by omega)] at this
  simp at this
  simpa using this
theorem fst_none {L : List ByteArray} {q : ByteArray} (h0 : NoneTo L q L.length) : fst? L q = none := by
  unfold fst?
  rw [List.findIdx?_eq_none_iff]
  intro x hx
  obtain ⟨j, hj, rfl⟩ := List.mem_iff_getElem.1 hx
  have := h0 j hj
  rwa [List.getElem?_eq_getElem hj] at this
theorem fst_lt {L : List ByteArray} {q : ByteArray} {k : Nat} (h : fst? L q = some k) : k < L.length := by
  unfold fst? at h
  rw [List.findIdx?_eq_some_iff_getElem] at h
  exact h.1
theorem NoneTo.succ {L : List ByteArray} {q : ByteArray} {k : Nat} (h : NoneTo L q k) (hk : ((L[k]?.getD ByteArray.empty).toList == q.toList) = false) : NoneTo L q (k + 1) := fun j hj => by
  by_cases e : j = k
  · subst e; exact hk
  · exact h j (by omega)

set_option maxHeartbeats 1000000 in
theorem first_some (b off cap : Nat) (L : List ByteArray) (q : ByteArray) (w : World) (hmax : L.length ≤ 1024)
    (hc : ∀ j, j < L.length → w.cell? ⟨b, off + j, none⟩ = some (.string (L[j]?.getD ByteArray.empty))) :
    Calls Yba.prog 16 #[.slice (some ⟨b, off, none⟩) L.length cap, .string q] w fun e w' => e = .returned (.int .i64 (fstInt L q)) ∧ w' = w := by
  go_enter Yba.func16, Yba.ntmps16
  go_wp2
  go_loop [5] (fun i => ∃ k : Nat, k ≤ L.length ∧ i = .int .i64 k ∧ NoneTo L q k) (fun i => L.length - (intOf i).toNat)
  case atStart => exact ⟨0, Nat.zero_le _, rfl, fun j hj => by omega⟩
  case round =>
    obtain ⟨k, hk, rfl, hno⟩ := hrel
    by_cases hlt : k < L.length
    · have hcx := hc k hlt
      obtain ⟨t, ht⟩ : ∃ t, L[k]?.getD ByteArray.empty = t := ⟨_, rfl⟩
      rw [ht] at hcx
      have HT : Hid (L[k]?.getD ByteArray.empty = t) := ht
      clear ht hc
      cases hq : (t.toList == q.toList)
      · go_wp2
        exact ⟨⟨k + 1, by omega, by simp, hno.succ (by rw [HT.out]; exact hq)⟩, by simp [intOf]; omega⟩
      · go_wp2
        go_ret
        refine ⟨?_, rfl⟩
        rw [fstInt, fst_hit hlt hno (by rw [HT.out]; exact hq)]
        rfl
    · go_wp2
      go_ret
      obtain rfl : k = L.length := by omega
      refine ⟨?_, rfl⟩
      simp [fstInt, fst_none hno]

set_option maxHeartbeats 1000000 in
theorem first_zero (a : Option Addr) (cap : Nat) (q : ByteArray) (w : World) :
    Calls Yba.prog 16 #[.slice a 0 cap, .string q] w fun e w' => e = .returned (.int .i64 (-1)) ∧ w' = w := by
  go_enter Yba.func16, Yba.ntmps16
  go_wp2
  go_loop [5] (fun i => i = .int .i64 0) (fun i => 0)
  case atStart => rfl
  case round =>
    obtain rfl := hrel
    go_wp2
    go_ret
    exact ⟨rfl, rfl⟩

theorem first_any (a : Option Addr) (cap : Nat) (L : List ByteArray) (q : ByteArray) (w : World) (hmax : L.length ≤ 1024) (hs : Strs w a L) :
    Calls Yba.prog 16 #[.slice a L.length cap, .string q] w fun e w' => e = .returned (.int .i64 (fstInt L q)) ∧ w' = w := by
  rcases hs with rfl | ⟨b, off, rfl, _, hc⟩
  · exact first_zero _ _ _ _
  · exact first_some b off cap L q w hmax hc

/-- 'zzs4333cquery'. -/
def queryOf (L : List ByteArray) (query : ByteArray) (pick : Nat) : ByteArray := if pick % (L.length + 1) < L.length then L[pick % (L.length + 1)]?.getD ByteArray.empty else query

set_option maxHeartbeats 1000000 in
theorem query_any (a : Option Addr) (cap : Nat) (L : List ByteArray) (query : ByteArray) (pick : Nat) (w : World) (hmax : L.length ≤ 1024) (hp : pick ≤ 255) (hs : Strs w a L) :
    Calls Yba.prog 13 #[.slice a L.length cap, .string query, .int .u8 pick] w fun e w' => e = .returned (.string (queryOf L query pick)) ∧ w' = w := by
  by_cases h0 : L.length = 0
  · obtain rfl := List.length_eq_zero_iff.1 h0
    go_enter Yba.func13, Yba.ntmps13
    go_wp2
    go_ret
    exact ⟨by simp [queryOf], rfl⟩
  · rcases hs with rfl | ⟨b, off, rfl, _, hc⟩
    · simp at h0
    · have hpos : 0 < L.length := by omega
      obtain ⟨r, hr⟩ : ∃ r, pick % (L.length + 1) = r := ⟨_, rfl⟩
      have hri : (pick : Int) % ((L.length : Int) + 1) = (r : Int) := by rw [← hr]; simp
      have hq : queryOf L query pick = if r < L.length then L[r]?.getD ByteArray.empty else query := by rw [queryOf, hr]
      rw [hq]
      clear hq hr
      by_cases h1 : r < L.length
      · have hcx := hc _ h1
        obtain ⟨t, ht⟩ : ∃ t, L[r]?.getD ByteArray.empty = t := ⟨_, rfl⟩
        rw [ht] at hcx
        rw [if_pos h1, ht]
        clear ht hc
        go_enter Yba.func13, Yba.ntmps13
        go_wp2
        go_ret
        exact ⟨rfl, rfl⟩
      · rw [if_neg h1]
        clear hc
        go_enter Yba.func13, Yba.ntmps13
        go_wp2
        go_ret
        exact ⟨rfl, rfl⟩
end Go.Proofs.Ybulkckse
