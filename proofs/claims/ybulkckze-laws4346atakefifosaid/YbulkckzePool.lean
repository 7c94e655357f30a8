import Derived.Test.YbulkckzeTake
namespace Go.Proofs.Ybulkckze
open Go Go.RowKit

set_option maxRecDepth 100000 in
set_option maxHeartbeats 1000000 in
/-- pool.take, an item there. -/
theorem ptake_hit (p q : Nat) (x : Int) (w w1 : World) (hp : w.cell? ⟨p, 195, none⟩ = some (.pointer (some ⟨q, 0, none⟩)))
    (hqt : Calls Yba.prog 5 #[.pointer (some ⟨q, 0, none⟩)] w fun e w' => e = .returned (.tuple #[.int .i64 x, .bool true]) ∧ w' = w1)
    (Post : World → Prop) (hwk : Calls Yba.prog 6 #[.pointer (some ⟨p, 190, none⟩), .bool false] w1 fun e w' => (∃ b, e = .returned (.bool b)) ∧ Post w') :
    Calls Yba.prog 4 #[.pointer (some ⟨p, 0, none⟩)] w fun e w' => e = .returned (.tuple #[.int .i64 x, .bool true]) ∧ Post w' := by
  have Hq : Hid (Calls Yba.prog 5 #[.pointer (some ⟨q, 0, none⟩)] w fun e w' => e = .returned (.tuple #[.int .i64 x, .bool true]) ∧ w' = w1) := hqt
  have Hw : Hid (Calls Yba.prog 6 #[.pointer (some ⟨p, 190, none⟩), .bool false] w1 fun e w' => (∃ b, e = .returned (.bool b)) ∧ Post w') := hwk
  clear hqt hwk
  go_enter Yba.func4, Yba.ntmps4
  go_wp2_with fail
  refine Calls.mono Hq ?_
  rintro e w' ⟨rfl, rfl⟩
  go_wp2_with fail
  refine Calls.mono Hw ?_
  rintro e w2 ⟨⟨b, rfl⟩, hP⟩
  have HP : Hid (Post w2) := hP
  clear hP
  go_wp2_with fail
  go_ret2
  exact ⟨rfl, HP⟩

set_option maxRecDepth 100000 in
set_option maxHeartbeats 1000000 in
/-- pool.take, no item there. -/
theorem ptake_miss (p q : Nat) (w : World) (hp : w.cell? ⟨p, 195, none⟩ = some (.pointer (some ⟨q, 0, none⟩)))
    (hqt : Calls Yba.prog 5 #[.pointer (some ⟨q, 0, none⟩)] w fun e w' => e = .returned (.tuple #[.int .i64 0, .bool false]) ∧ w' = w) :
    Calls Yba.prog 4 #[.pointer (some ⟨p, 0, none⟩)] w fun e w' => e = .returned (.tuple #[.int .i64 0, .bool false]) ∧ w' = w := by
  have Hq : Hid (Calls Yba.prog 5 #[.pointer (some ⟨q, 0, none⟩)] w fun e w' => e = .returned (.tuple #[.int .i64 0, .bool false]) ∧ w' = w) := hqt
  clear hqt
  go_enter Yba.func4, Yba.ntmps4
  go_wp2_with fail
  refine Calls.mono Hq ?_
  rintro e w' ⟨rfl, rfl⟩
  go_wp2_with fail
  go_ret2
  exact ⟨rfl, rfl⟩
end Go.Proofs.Ybulkckze
