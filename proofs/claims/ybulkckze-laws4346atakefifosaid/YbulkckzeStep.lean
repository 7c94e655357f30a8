import Derived.Test.YbulkckzeInv
namespace Go.Proofs.Ybulkckze
open Go Go.RowKit

theorem decT {P : Prop} [Decidable P] (h : P) : decide P = true := by simp [h]
theorem decF {P : Prop} [Decidable P] (h : ¬ P) : decide P = false := by simp [h]

/-- A take with an item there. -/
theorem take_step {B n h k m : Nat} {z : Nat → Int} {t : Nat} {w : World} (I : Inv B n h k m z t w) (htk : t < k) (hkn : k ≤ n) (hn2 : n ≤ 2000) (hh : h ≤ 70000) (hm : m ≤ 15) :
    Calls Yba.prog 4 #[.pointer (some ⟨B + 3, 0, none⟩)] w fun e w' => e = .returned (.tuple #[.int .i64 (z t), .bool true]) ∧ (Inv B n h k m z (t + 1) w' ∧ Below B w w') := by
  have hn : 1 ≤ n := by omega
  have htn : t < n := by omega
  have hrn : (h + t) % n < n := Nat.mod_lt _ hn
  have hs : w.cell? ⟨B, (h + t) % n, none⟩ = some (.int .u64 (2 * ((h + t : Nat) : Int) + 1)) := by
    rw [I.seqs.cell hrn]
    simp only [jOf_at hn h htn, seqv, show ¬ t < t by omega, if_false, htk, if_true]
    congr 2
  have hi : w.cell? ⟨B + 1, (h + t) % n, none⟩ = some (.int .i64 (z t)) := by
    rw [I.items.cell hrn]
    simp only [jOf_at hn h htn, itemv, show ¬ t < t by omega, if_false, htk, if_true]
  have hqt := qtake_hit (B + 2) B (B + 1) n (h + t) ((h + t) % n) (z t) _ w I.queue hn hn2 (by omega) hs hi (by omega) hrn (I.seqs.frozen _) (I.items.frozen _) (by omega) (by omega) (by omega)
  have ho1 : Only (fun k => B ≤ k ∧ k ≤ B + 2) w (((w.setCell ⟨B + 2, 0, none⟩ (.int .u64 (((h + t : Nat) : Int) + 1))).setCell ⟨B + 1, (h + t) % n, none⟩ (.int .i64 0)).setCell ⟨B, (h + t) % n, none⟩ (.int .u64 (2 * (((h + t : Nat) : Int) + n)))) :=
    (((Only.refl _ w).setCell (fun _ => ⟨by simp, by simp⟩) _).setCell (fun _ => ⟨by simp, by simp⟩) _).setCell (fun _ => ⟨by simp, by simp⟩) _
  obtain ⟨w1, hw1⟩ : ∃ w1, w1 = ((w.setCell ⟨B + 2, 0, none⟩ (.int .u64 (((h + t : Nat) : Int) + 1))).setCell ⟨B + 1, (h + t) % n, none⟩ (.int .i64 0)).setCell ⟨B, (h + t) % n, none⟩ (.int .u64 (2 * (((h + t : Nat) : Int) + n))) := ⟨_, rfl⟩
  rw [← hw1] at hqt ho1
  have hp1 := I.pool.only ho1 (by omega)
  have hwt1 : ∀ j, j < m → WaiterIs w1 (wtr B j) (bell B j) (prevOf B t j) (nextOf B m t j) (decide (t ≤ j)) := fun j hj => (I.wait j hj).only ho1 (by unfold wtr; omega)
  have hbl1 : ∀ j, j < m → BellIs w1 (bell B j) (decide (j < t)) := fun j hj => (I.bells j hj).only ho1 (by unfold bell; omega)
  refine (ptake_hit (B + 3) (B + 2) (z t) w w1 I.pool.queue hqt (fun w' => Inv B n h k m z (t + 1) w' ∧ Below B w w') ?_)
  have hlift : ∀ {S : Nat → Prop} {w2 : World}, Only S w1 w2 → (∀ k, S k → B + 3 ≤ k ∧ k ≠ B + 4) → Below B w w2 := fun {S w2} ho hS => by
    have x : Only (fun k => B ≤ k) w w2 := (ho1.mono (fun k _ h => h.1)).andThen ho (fun i _ h => by have := hS i h; omega)
    exact ⟨x.os, x.tape, x.output, x.size, fun i hi => x.block i (by have := I.seqs.lt; omega) (by omega)⟩
  by_cases c0 : m ≤ t
  · have e0 : ((m - t : Nat) : Int) = 0 := by omega
    rw [e0, if_neg (by omega), if_neg (by omega)] at hp1
    refine (wake_none (B + 3) (B + 2) 0 none none w1 hp1).mono ?_
    rintro e w2 ⟨rfl, rfl⟩
    refine ⟨⟨_, rfl⟩, I.woken htk hkn hw1 (Only.refl _ _) ?_ ?_ ?_, hlift (Only.refl (fun _ => False) _) (fun _ h => h.elim)⟩
    · rw [if_neg (by omega), if_neg (by omega), show ((m - (t + 1) : Nat) : Int) = 0 by omega]
      exact hp1
    · intro j hj
      have := hwt1 j hj
      rw [prevOf, if_pos (by omega), nextOf, if_pos (by omega), decF (by omega)] at this
      rw [prevOf, if_pos (by omega), nextOf, if_pos (by omega), decF (by omega)]
      exact this
    · intro j hj
      have := hbl1 j hj
      rw [decT (by omega)] at this
      rw [decT (by omega)]
      exact this
  · have htm : t < m := by omega
    rw [if_pos htm, if_pos htm] at hp1
    have hw0 := hwt1 t htm
    rw [prevOf, if_pos (by omega), decT (by omega)] at hw0
    have hb0 := hbl1 t htm
    rw [decF (by omega)] at hb0
    have hbells : ∀ {w2 : World} {S : Nat → Prop}, Only S w1 w2 → (∀ k, S k → k = bell B t ∨ ∀ j, k ≠ bell B j) → BellIs w2 (bell B t) true → ∀ j, j < m → BellIs w2 (bell B j) (decide (j < t + 1)) := by
      intro w2 S ho hS hb j hj
      by_cases hjt : j = t
      · subst hjt
        rw [decT (by omega)]
        exact hb
      · have := (hbl1 j hj).only ho (fun h => by
          rcases hS _ h with h | h
          · unfold bell at h; omega
          · exact h j rfl)
        have e : decide (j < t + 1) = decide (j < t) := by
          by_cases hc : j < t
          · rw [decT hc, decT (by omega)]
          · rw [decF hc, decF (by omega)]
        rw [e]
        exact this
    by_cases c1 : t + 1 = m
    · have hnx : nextOf B m t t = none := by rw [nextOf, if_neg (by omega), if_neg (by omega)]
      rw [hnx] at hw0
      refine (wake_last (B + 3) (B + 2) (wtr B t) (bell B t) _ _ w1 hp1 (by omega) hw0 hb0 (by unfold wtr; omega) (by unfold bell; omega) (by unfold wtr bell; omega)).mono ?_
      rintro e w2 ⟨rfl, hp2, hw2, hb2, ho2⟩
      have hS : ∀ k, (k = B + 3 ∨ k = wtr B t ∨ k = bell B t) → B + 3 ≤ k ∧ k ≠ B + 4 := by
        rintro k (h | h | h) <;> (subst h; (try unfold wtr); (try unfold bell); omega)
      refine ⟨⟨_, rfl⟩, I.woken htk hkn hw1 (ho2.mono (fun k _ h => hS k h)) ?_ ?_ (hbells ho2 ?_ hb2), hlift ho2 hS⟩
      · rw [if_neg (by omega), if_neg (by omega), show ((m - (t + 1) : Nat) : Int) = ((m - t : Nat) : Int) - 1 by omega]
        exact hp2
      · intro j hj
        by_cases hjt : j = t
        · subst hjt
          rw [prevOf, if_pos (by omega), nextOf, if_pos (by omega), decF (by omega)]
          exact hw2
        · have := (hwt1 j hj).only ho2 (by unfold wtr bell; omega)
          rw [prevOf, if_pos (by omega), nextOf, if_pos (by omega), decF (by omega)] at this
          rw [prevOf, if_pos (by omega), nextOf, if_pos (by omega), decF (by omega)]
          exact this
      · rintro k (h | h | h)
        · exact .inr (fun j => by unfold bell; omega)
        · exact .inr (fun j => by unfold bell; unfold wtr at h; omega)
        · exact .inl h
    · have h1m : t + 1 < m := by omega
      have hnx : nextOf B m t t = some ⟨wtr B (t + 1), 0, none⟩ := by rw [nextOf, if_neg (by omega), if_pos h1m]; rfl
      rw [hnx] at hw0
      have hw1' := hwt1 (t + 1) h1m
      rw [prevOf, if_neg (by omega), decT (by omega), show t + 1 - 1 = t by omega] at hw1'
      refine (wake_more (B + 3) (B + 2) (wtr B t) (bell B t) (wtr B (t + 1)) (bell B (t + 1)) _ _ _ w1 hp1 (by omega) hw0 hw1' hb0 (by unfold wtr; omega) (by unfold bell; omega) (by unfold wtr bell; omega) (by unfold wtr; omega) (by unfold wtr; omega) (by unfold wtr bell; omega)).mono ?_
      rintro e w2 ⟨rfl, hp2, hw2, hw22, hb2, ho2⟩
      have hS : ∀ k, (k = B + 3 ∨ k = wtr B t ∨ k = wtr B (t + 1) ∨ k = bell B t) → B + 3 ≤ k ∧ k ≠ B + 4 := by
        rintro k (h | h | h | h) <;> (subst h; (try unfold wtr); (try unfold bell); omega)
      refine ⟨⟨_, rfl⟩, I.woken htk hkn hw1 (ho2.mono (fun k _ h => hS k h)) ?_ ?_ (hbells ho2 ?_ hb2), hlift ho2 hS⟩
      · rw [if_pos h1m, if_pos h1m, show ((m - (t + 1) : Nat) : Int) = ((m - t : Nat) : Int) - 1 by omega]
        exact hp2
      · intro j hj
        by_cases hjt : j = t
        · subst hjt
          rw [prevOf, if_pos (by omega), nextOf, if_pos (by omega), decF (by omega)]
          exact hw2
        · by_cases hj1 : j = t + 1
          · subst hj1
            rw [prevOf, if_pos (by omega), decT (by omega)]
            have e : nextOf B m (t + 1) (t + 1) = nextOf B m t (t + 1) := by simp only [nextOf, show ¬ (t + 1 < t + 1) by omega, show ¬ (t + 1 < t) by omega, if_false]
            rw [e]
            exact hw22
          · have := (hwt1 j hj).only ho2 (by unfold wtr bell; omega)
            have e1 : prevOf B (t + 1) j = prevOf B t j := by
              by_cases hc : j ≤ t
              · simp only [prevOf, hc, show j ≤ t + 1 by omega, if_true]
              · simp only [prevOf, hc, show ¬ j ≤ t + 1 by omega, if_false]
            have e2 : nextOf B m (t + 1) j = nextOf B m t j := by
              by_cases hc : j < t
              · simp only [nextOf, hc, show j < t + 1 by omega, if_true]
              · simp only [nextOf, hc, show ¬ j < t + 1 by omega, if_false]
            have e3 : decide (t + 1 ≤ j) = decide (t ≤ j) := by
              by_cases hc : t ≤ j
              · rw [decT hc, decT (by omega)]
              · rw [decF hc, decF (by omega)]
            rw [e1, e2, e3]
            exact this
      · rintro k (h | h | h | h)
        · exact .inr (fun j => by unfold bell; omega)
        · exact .inr (fun j => by unfold bell; unfold wtr at h; omega)
        · exact .inr (fun j => by unfold bell; unfold wtr at h; omega)
        · exact .inl h

/-- The take behind the last item. -/
theorem take_none {B n h k m : Nat} {z : Nat → Int} {w : World} (I : Inv B n h k m z k w) (hn : 1 ≤ n) (hkn : k ≤ n) (hn2 : n ≤ 2000) (hh : h ≤ 70000) :
    Calls Yba.prog 4 #[.pointer (some ⟨B + 3, 0, none⟩)] w fun e w' => e = .returned (.tuple #[.int .i64 0, .bool false]) ∧ w' = w := by
  have hrn : (h + k) % n < n := Nat.mod_lt _ hn
  obtain ⟨sq, hs, hlt⟩ : ∃ sq : Nat, w.cell? ⟨B, (h + k) % n, none⟩ = some (.int .u64 sq) ∧ sq < 2 * (h + k) + 1 := by
    refine ⟨2 * (h + k), ?_, by omega⟩
    rw [I.seqs.cell hrn]
    by_cases hc : k < n
    · simp only [jOf_at hn h hc, seqv, show ¬ k < k by omega, if_false]
      congr 2
    · obtain rfl : k = n := by omega
      have e : (h + k) % k = (h + 0) % k := by simp
      rw [e]
      simp only [jOf_at hn h (show 0 < k by omega), seqv, show 0 < k by omega, if_true]
      congr 2
  exact ptake_miss (B + 3) (B + 2) w I.pool.queue (qtake_miss (B + 2) B (B + 1) n (h + k) ((h + k) % n) sq _ w I.queue hn hn2 (by omega) hs (by omega) hrn hlt)
end Go.Proofs.Ybulkckze
