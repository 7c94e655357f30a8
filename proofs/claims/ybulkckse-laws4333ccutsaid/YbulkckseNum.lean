import Derived.Test.YbulkckseChecked
import Derived.WalkKit
import Derived.WalkSpells
import Derived.WalkSmall
import Derived.OwnWalk
import Derived.Outline
import Derived.Below
import Derived.RangeFuncBox
import Derived.Laws.BytesArg
import Derived.Laws.AppendOwnNone
import Derived.Maps.AppendAt
import Derived.Maps.Own
namespace Go.Proofs.Ybulkckse
open Go Go.RowKit

theorem info5 : (Yba.prog.info? 5).map (fun i => (i.zero, i.size, i.bytes)) = some (some (.int .u8 0), 1, 1) := by kernel_rfl

/-- The decimal digits of n ahead of acc. -/
def digs : Nat → Nat → List Int → List Int
  | 0, _, acc => acc
  | f + 1, n, acc => if n = 0 then acc else digs f (n / 10) ((48 + (n % 10 : Nat) : Int) :: acc)

/-- 'zzs4333cnum(n)'. -/
def numS (n : Nat) : ByteArray := if n = 0 then strOfNums [48] else strOfNums (digs n n [])

theorem digs_step (f n : Nat) (acc : List Int) (h : 0 < n) (hf : n ≤ f) : ∃ f', n / 10 ≤ f' ∧ digs f n acc = digs f' (n / 10) ((48 + (n % 10 : Nat) : Int) :: acc) := by
  cases f with
  | zero => omega
  | succ f => exact ⟨f, by omega, by simp [digs, show n ≠ 0 by omega]⟩
theorem digs_zero (f : Nat) (acc : List Int) : digs f 0 acc = acc := by cases f <;> simp [digs]

theorem digs_length : ∀ (f n : Nat) (acc : List Int), (digs f n acc).length ≤ acc.length + f
  | 0, _, acc => by simp [digs]
  | f + 1, n, acc => by
    unfold digs
    split
    · omega
    · have := digs_length f (n / 10) ((48 + (n % 10 : Nat) : Int) :: acc)
      simp at this ⊢
      omega
theorem numS_size (n : Nat) : (numS n).size ≤ n + 1 := by
  unfold numS
  split
  · rw [strOfNums_size]; simp
  · rw [strOfNums_size]; have := digs_length n n []; simp at this; omega

set_option maxHeartbeats 1000000 in
theorem num_zero (w : World) : Calls Yba.prog 12 #[.int .i64 0] w fun e w' => e = .returned (.string (numS 0)) ∧ Below w.heap.size w w' := by
  go_enter Yba.func12, Yba.ntmps12
  go_wp2
  go_ret
  exact ⟨rfl, Below.refl _ _⟩

set_option maxHeartbeats 1000000 in
theorem num_pos (n : Nat) (hn : 0 < n) (hn2 : n ≤ 1024) (w : World) : Calls Yba.prog 12 #[.int .i64 n] w fun e w' => e = .returned (.string (numS n)) ∧ Below w.heap.size w w' := by
  obtain ⟨i0, hi, hz0, hz1, hz2⟩ := info_parts info5
  have hnz : ¬ n = 0 := by omega
  go_enter Yba.func12, Yba.ntmps12
  go_wp2
  go_loopw [0, 3] (fun i b wr => ∃ (m f : Nat) (acc : List Int), i = .int .i64 m ∧ m ≤ 1024 ∧ m ≤ f ∧ digs f m acc = digs n n [] ∧ acc.length + m ≤ 2048 ∧ (m = 0 → acc ≠ []) ∧ wr.ownsRow w.heap.size 5 1 b acc.length (acc.map (Value.int .u8)) ∧ Below w.heap.size w wr)
    (fun i _ _ => (intOf i).toNat)
  case atStart => exact ⟨n, n, [], rfl, hn2, Nat.le_refl _, rfl, by simp; omega, by omega, World.ownsRow_nil _ _ _ _, Below.refl _ _⟩
  case round =>
    obtain ⟨m, f, acc, rfl, hm, hf, hd, hal, hne, hrow, hB⟩ := hrel
    obtain ⟨d, hdd⟩ : ∃ d : Int, (48 + (m : Int) % 10) = d := ⟨_, rfl⟩
    by_cases h0 : 0 < m
    · obtain ⟨f', hf', hst⟩ := digs_step f m acc h0 hf
      have HS : Hid (digs f' (m / 10) ((48 + (m % 10 : Nat) : Int) :: acc) = digs n n []) := hst.symm.trans hd
      have HD : Hid (48 + (m : Int) % 10 = d) := hdd
      clear hst hd hdd
      have hnew : (wr.alloc (.cells #[.int .u8 (48 + (m : Int) % 10)] 5)).ownsRow w.heap.size 5 1 (.slice (some ⟨wr.heap.size, 0, none⟩) 1 1) 1 [.int .u8 (48 + (m : Int) % 10)] :=
        ⟨rfl, .inr ⟨wr.heap.size, 1, _, rfl, hB.size, World.alloc_heap_new wr _, Nat.le_refl _, by decide, rfl, rfl⟩⟩
      rcases hrow.2 with ⟨rfl, hac⟩ | ⟨g, cap, cur, rfl, hg, hh, hcc, hcm, hsz, htk⟩
      · obtain rfl : acc = [] := List.length_eq_zero_iff.1 hac
        go_wp2_with (at_builtin; refine wpList_append_own_none rfl _ _ 52 rfl w.heap.size 5 i0 1 Yba.underlying52 hi _ 1 [.int .u8 (48 + (m : Int) % 10)] rfl hnew rfl ?_)
        go_roundw
        case rel =>
          refine ⟨m / 10, f', [48 + (m : Int) % 10], by go_num, by omega, hf', by simpa using HS.out, by simp; omega, by simp, hnew, hB.alloc hB.size _⟩
        case measure => simp [intOf]; omega
      · have hnews : ∀ j u, (acc.map (Value.int .u8))[j]? = some u → (wr.alloc (.cells #[.int .u8 (48 + (m : Int) % 10)] 5)).cell? ((⟨g, 0, none⟩ : Addr).add j) = some u := by
          intro j u hu
          have hj : j < acc.length := by have := (List.getElem?_eq_some_iff.1 hu).1; simpa using this
          rw [Go.WideShapes.add_plain, Nat.zero_add]
          have hlt : g < wr.heap.size := (Array.getElem?_eq_some_iff.1 hh).1
          have e1 : (wr.alloc (.cells #[.int .u8 (48 + (m : Int) % 10)] 5)).cell? ⟨g, j, none⟩ = wr.cell? ⟨g, j, none⟩ := ((Below.refl wr.heap.size wr).alloc (Nat.le_refl _) _).cell (p := ⟨g, j, none⟩) hlt
          rw [e1]
          rw [← htk, List.getElem?_take_of_lt (by omega)] at hu
          simp [World.cell?, hh]
          simpa using hu
        have h1c : ∀ u ∈ acc.map (Value.int .u8), u.oneCell' = true := by
          intro u hu
          obtain ⟨z, _, rfl⟩ := List.mem_map.1 hu
          rfl
        have hmx : (4096 : Nat) ≤ maxLen := by decide
        go_wp2_with (at_builtin; refine wpList_append_own _ rfl _ _ 52 rfl w.heap.size 5 i0 (.int .u8 0) 1 1 Yba.underlying52 hi hz0 hz1 hz2 rfl (by decide) (.slice (some ⟨wr.heap.size, 0, none⟩) 1 1) 1 [.int .u8 (48 + (m : Int) % 10)] rfl hnew ⟨g, 0, none⟩ acc.length cap (acc.map (Value.int .u8)) rfl (by simp) hnews h1c (by omega) (by omega) (by have := hB.size; simp; omega) ?_; intro v' w1 hown' hgrow _)
        go_roundw
        case rel =>
          refine ⟨m / 10, f', (48 + (m : Int) % 10) :: acc, by go_num, by omega, hf', by simpa using HS.out, by simp; omega, by simp, by simpa [Nat.add_comm] using hown', (hB.alloc hB.size _).grown hgrow (by have := hB.size; simp; omega) (fun k e => by have e' : wr.heap.size = k := (by simpa [Value.ownBlock] using e); rw [← e']; exact hB.size)⟩
        case measure => simp [intOf]; omega
    · obtain rfl : m = 0 := by omega
      rw [digs_zero] at hd
      subst hd
      rcases hrow.2 with ⟨rfl, hac⟩ | ⟨g, cap, cur, rfl, hg, hh, hcc, hcm, hsz, htk⟩
      · exact absurd (List.length_eq_zero_iff.1 hac) (hne rfl)
      · have hcv := fun W (hW : ∀ j, j < (digs n n []).length → W.cell? ⟨g, 0 + j, none⟩ = some (.int .u8 ((digs n n []).getD j 0))) => run_convert_bytes_arg (P := Yba.prog) W 52 5 Yba.underlying52 Yba.underlying5 g 0 (digs n n []).length cap (digs n n []) rfl hW 9 Yba.underlying9
        have hcv' := hcv wr (fun j hj => by
          have e1 : (cur.toList.take ((digs n n []).length * 1))[j]? = some (.int .u8 ((digs n n []).getD j 0)) := by
            rw [htk]; simp [hj]
          rw [List.getElem?_take_of_lt (by omega)] at e1
          simp only [Nat.zero_add, World.cell?, hh]
          simpa using e1)
        clear hcv
        go_wp2
        go_ret
        refine ⟨?_, hB⟩
        simp [numS, show n ≠ 0 by omega]

theorem num_any (n : Nat) (hn2 : n ≤ 1024) (w : World) : Calls Yba.prog 12 #[.int .i64 n] w fun e w' => e = .returned (.string (numS n)) ∧ Below w.heap.size w w' := by
  by_cases h : n = 0
  · subst h; exact num_zero w
  · exact num_pos n (by omega) hn2 w
end Go.Proofs.Ybulkckse
