import Derived.Test.YbulkckzeBoxes
namespace Go.Proofs.Ybulkckze
open Go Go.RowKit

/-- The queue's slots while they are filled. -/
def Filling (B n h k : Nat) (z : Nat → Int) (j : Nat) (w : World) : Prop :=
  w.rowIs B 24 n (fun i => .int .u64 (if jOf n h i < j then seqv n h k 0 (jOf n h i) else 0)) ∧ w.rowIs (B + 1) 3 n (fun i => .int .i64 (if jOf n h i < j then itemv k z 0 (jOf n h i) else 0))
theorem Filling.zero (n h k : Nat) (z : Nat → Int) (w : World) : Filling w.heap.size n h k z 0 ((w.alloc (.cells (madeCells #[.int .u64 0] n) 24)).alloc (.cells (madeCells #[.int .i64 0] n) 3)) := by
  refine ⟨?_, ?_⟩
  · exact ((World.rowIs_made w (.int .u64 0) n 24).alloc _).congr (fun i _ => by simp)
  · have := World.rowIs_made (w.alloc (.cells (madeCells #[.int .u64 0] n) 24)) (.int .i64 0) n 3
    rw [World.size_alloc] at this
    exact this.congr (fun i _ => by simp)
theorem Filling.low {B n h k j : Nat} {z : Nat → Int} {w : World} (F : Filling B n h k z j w) (hn : 1 ≤ n) (hj : j < n) (hjk : j < k) :
    Filling B n h k z (j + 1) ((w.setCell ⟨B, (h + j) % n, none⟩ (.int .u64 (2 * ((h : Int) + j) + 1))).setCell ⟨B + 1, (h + j) % n, none⟩ (.int .i64 (z j))) := by
  refine ⟨((F.1.set ((h + j) % n) _).setOther (by simp) _).congr (fun i hi => ?_), ((F.2.setOther (a := ⟨B, (h + j) % n, none⟩) (by simp) _).set ((h + j) % n) _).congr (fun i hi => ?_)⟩
  · by_cases hc : i = (h + j) % n
    · have := (jOf_iff hn h hi hj).1 hc
      simp only [hc, if_true, jOf_at hn h hj, show j < j + 1 by omega, seqv, show ¬ j < 0 by omega, if_false, hjk]
    · have hne : jOf n h i ≠ j := fun e => hc ((jOf_iff hn h hi hj).2 e)
      have : (jOf n h i < j + 1) ↔ (jOf n h i < j) := by omega
      simp only [hc, if_false, this]
  · by_cases hc : i = (h + j) % n
    · have := (jOf_iff hn h hi hj).1 hc
      simp only [hc, if_true, jOf_at hn h hj, show j < j + 1 by omega, itemv, show ¬ j < 0 by omega, if_false, hjk]
    · have hne : jOf n h i ≠ j := fun e => hc ((jOf_iff hn h hi hj).2 e)
      have : (jOf n h i < j + 1) ↔ (jOf n h i < j) := by omega
      simp only [hc, if_false, this]
theorem Filling.high {B n h k j : Nat} {z : Nat → Int} {w : World} (F : Filling B n h k z j w) (hn : 1 ≤ n) (hj : j < n) (hjk : ¬ j < k) :
    Filling B n h k z (j + 1) (w.setCell ⟨B, (h + j) % n, none⟩ (.int .u64 (2 * ((h : Int) + j)))) := by
  refine ⟨(F.1.set ((h + j) % n) _).congr (fun i hi => ?_), (F.2.setOther (a := ⟨B, (h + j) % n, none⟩) (by simp) _).congr (fun i hi => ?_)⟩
  · by_cases hc : i = (h + j) % n
    · simp only [hc, if_true, jOf_at hn h hj, show j < j + 1 by omega, seqv, show ¬ j < 0 by omega, if_false, hjk]
    · have hne : jOf n h i ≠ j := fun e => hc ((jOf_iff hn h hi hj).2 e)
      have : (jOf n h i < j + 1) ↔ (jOf n h i < j) := by omega
      simp only [hc, if_false, this]
  · by_cases hc : i = (h + j) % n
    · simp only [hc, jOf_at hn h hj, show j < j + 1 by omega, show ¬ j < j by omega, if_false, if_true, itemv, show ¬ j < 0 by omega, hjk]
    · have hne : jOf n h i ≠ j := fun e => hc ((jOf_iff hn h hi hj).2 e)
      have : (jOf n h i < j + 1) ↔ (jOf n h i < j) := by omega
      simp only [this]
theorem Filling.full {B n h k : Nat} {z : Nat → Int} {w : World} (F : Filling B n h k z n w) (hn : 1 ≤ n) :
    w.rowIs B 24 n (fun i => .int .u64 (seqv n h k 0 (jOf n h i))) ∧ w.rowIs (B + 1) 3 n (fun i => .int .i64 (itemv k z 0 (jOf n h i))) :=
  ⟨F.1.congr (fun i _ => by simp only [jOf_lt hn h i, if_true]), F.2.congr (fun i _ => by simp only [jOf_lt hn h i, if_true])⟩

theorem ptr_neq_same (w : World) (a : Addr) : (binOp .neq 45 (.pointer (some a)) (.pointer (some a))).run Yba.prog w = .ok (.bool false) w := by
  have h : (Yba.prog.info? 69).isSome = true := by kernel_rfl
  obtain ⟨i, hi⟩ := Option.isSome_iff_exists.1 h
  exact Lib.run_neq_ptr_same w _ Yba.underlying45 hi

theorem run_getObj_at {P : Program} {w : World} {r cap s t : Nat} {buf : Array Value} {cl tm : Bool} (h : w.heap[r]? = some (.chan cap buf cl s t tm)) : (getObj r).run P w = .ok (.chan cap buf cl s t tm) w := by simp [getObj, Sem.run, h]
theorem len_bell {w : World} {c : Nat} {r : Bool} (h : BellIs w c r) : (Builtin.len_ #[63] 3 #[.chan (some c)]).run Yba.prog w = .ok (.int .i64 (if r then 1 else 0)) w := by
  unfold BellIs at h
  have h63 := Yba.runUnderlying63
  cases r <;> simp at h <;> simp [Builtin.len_, h63, run_getObj_at h, go_sem]

/-! ### The waiters while they are made and linked -/
structure Made (B n h k m : Nat) (z : Nat → Int) (sv : Nat → Value) (pr nx : Nat → Option Addr) (c : Nat) (w : World) : Prop where
  queue : QueueIs w (B + 2) (h : Int) ((h : Int) + k) B (B + 1) n
  seqs : w.rowIs B 24 n (fun i => .int .u64 (seqv n h k 0 (jOf n h i)))
  items : w.rowIs (B + 1) 3 n (fun i => .int .i64 (itemv k z 0 (jOf n h i)))
  pool : PoolIs w (B + 3) (B + 2) 0 0 none none
  ws : w.rowIs (B + 4) 45 m sv
  wait : ∀ j, j < c → WaiterIs w (wtr B j) (bell B j) (pr j) (nx j) true
  bells : ∀ j, j < c → BellIs w (bell B j) false

theorem Made.start {B n h k m : Nat} {z : Nat → Int} {w : World} (F1 : w.rowIs B 24 n (fun i => .int .u64 (seqv n h k 0 (jOf n h i)))) (F2 : w.rowIs (B + 1) 3 n (fun i => .int .i64 (itemv k z 0 (jOf n h i)))) (hsz : w.heap.size = B + 2) (pr nx : Nat → Option Addr) :
    Made B n h k m z (fun _ => .pointer none) pr nx 0 (((w.alloc (.cells (qcells (.int .u64 h) (.int .u64 ((h : Int) + k)) (.slice (some ⟨B, 0, none⟩) n n) (.slice (some ⟨B + 1, 0, none⟩) n n)) 29)).alloc (.cells (pcells (.pointer (some ⟨B + 2, 0, none⟩))) 66)).alloc (.cells (madeCells #[.pointer none] m) 45)) := by
  refine ⟨?_, ((F1.alloc _).alloc _).alloc _, ((F2.alloc _).alloc _).alloc _, ?_, ?_, fun j hj => absurd hj (by omega), fun j hj => absurd hj (by omega)⟩
  · refine QueueIs.made ?_
    rw [Below.heap_alloc _ _ _ (by simp; omega), Below.heap_alloc _ _ _ (by simp; omega), ← hsz]
    exact World.alloc_heap_new _ _
  · refine PoolIs.made ?_
    rw [Below.heap_alloc _ _ _ (by simp; omega)]
    have := World.alloc_heap_new (w.alloc (.cells (qcells (.int .u64 h) (.int .u64 ((h : Int) + k)) (.slice (some ⟨B, 0, none⟩) n n) (.slice (some ⟨B + 1, 0, none⟩) n n)) 29)) (.cells (pcells (.pointer (some ⟨B + 2, 0, none⟩))) 66)
    rw [World.size_alloc, hsz] at this
    exact this
  · have := World.rowIs_made ((w.alloc (.cells (qcells (.int .u64 h) (.int .u64 ((h : Int) + k)) (.slice (some ⟨B, 0, none⟩) n n) (.slice (some ⟨B + 1, 0, none⟩) n n)) 29)).alloc (.cells (pcells (.pointer (some ⟨B + 2, 0, none⟩))) 66)) (.pointer none) m 45
    rw [World.size_alloc, World.size_alloc, hsz] at this
    exact this

/-- All else stays where only blocks from B + 4 on that are no waiter's of these turn. -/
theorem Made.only {B n h k m : Nat} {z : Nat → Int} {sv sv' : Nat → Value} {pr nx : Nat → Option Addr} {c : Nat} {w w' : World} (M : Made B n h k m z sv pr nx c w) {S : Nat → Prop} (ho : Only S w w') (h0 : ∀ x, S x → B + 4 ≤ x)
    (hw : w'.rowIs (B + 4) 45 m sv') (h1 : ∀ j, j < c → ¬ S (wtr B j) ∧ ¬ S (bell B j)) : Made B n h k m z sv' pr nx c w' :=
  ⟨M.queue.only ho (fun e => by have := h0 _ e; omega), rowIs_only M.seqs ho (fun e => by have := h0 _ e; omega), rowIs_only M.items ho (fun e => by have := h0 _ e; omega), M.pool.only ho (fun e => by have := h0 _ e; omega), hw,
   fun j hj => (M.wait j hj).only ho (h1 j hj).1, fun j hj => (M.bells j hj).only ho (h1 j hj).2⟩

theorem Made.add {B n h k m : Nat} {z : Nat → Int} {sv : Nat → Value} {pr nx : Nat → Option Addr} {c : Nat} {w : World} (M : Made B n h k m z sv pr nx c w) (hsz : w.heap.size = B + 5 + 2 * c) (hp : pr c = none) (hn : nx c = none) :
    Made B n h k m z (fun i => if i = c then .pointer (some ⟨wtr B c, 0, none⟩) else sv i) pr nx (c + 1)
      (((w.alloc (.chan 1 #[] false 0 0 false)).alloc (.cells #[.chan (some (bell B c)), .pointer none, .pointer none, .bool true] 69)).setCell ⟨B + 4, c, none⟩ (.pointer (some ⟨wtr B c, 0, none⟩))) := by
  have ho : Only (fun x => x = B + 4 ∨ B + 5 + 2 * c ≤ x) w (((w.alloc (.chan 1 #[] false 0 0 false)).alloc (.cells #[.chan (some (bell B c)), .pointer none, .pointer none, .bool true] 69)).setCell ⟨B + 4, c, none⟩ (.pointer (some ⟨wtr B c, 0, none⟩))) :=
    (((Only.refl _ w).alloc _).alloc _).setCell (fun _ => .inl rfl) _
  have M1 := M.only (sv' := fun i => if i = c then .pointer (some ⟨wtr B c, 0, none⟩) else sv i) ho (fun x hx => by omega) (((M.ws.alloc _).alloc _).set c _) (fun j hj => ⟨by unfold wtr; omega, by unfold bell; omega⟩)
  refine ⟨M1.queue, M1.seqs, M1.items, M1.pool, M1.ws, fun j hj => ?_, fun j hj => ?_⟩
  · by_cases hc : j < c
    · exact M1.wait j hc
    · obtain rfl : j = c := by omega
      rw [hp, hn]
      refine heap_set_other ?_ (by unfold wtr; omega) _ _
      have := World.alloc_heap_new (w.alloc (.chan 1 #[] false 0 0 false)) (.cells #[.chan (some (bell B j)), .pointer none, .pointer none, .bool true] 69)
      rw [World.size_alloc, hsz] at this
      have e : wtr B j = B + 5 + 2 * j + 1 := by unfold wtr; omega
      rw [e]
      exact this
  · by_cases hc : j < c
    · exact M1.bells j hc
    · obtain rfl : j = c := by omega
      refine heap_set_other ?_ (by unfold bell; omega) _ _
      rw [Below.heap_alloc _ _ _ (by simp; unfold bell; omega)]
      have := World.alloc_heap_new w (.chan 1 #[] false 0 0 false)
      rw [hsz] at this
      exact this

theorem Made.setPrev {B n h k m : Nat} {z : Nat → Int} {sv : Nat → Value} {pr nx : Nat → Option Addr} {c : Nat} {w : World} (M : Made B n h k m z sv pr nx c w) (i : Nat) (hi : i < c) (p : Option Addr) :
    Made B n h k m z sv (fun x => if x = i then p else pr x) nx c (w.setCell ⟨wtr B i, 1, none⟩ (.pointer p)) := by
  have ho : Only (fun x => x = wtr B i) w (w.setCell ⟨wtr B i, 1, none⟩ (.pointer p)) := (Only.refl (fun x => x = wtr B i) w).setCell (p := ⟨wtr B i, 1, none⟩) (fun _ => rfl) _
  refine ⟨M.queue.only ho (by unfold wtr; omega), rowIs_only M.seqs ho (by unfold wtr; omega), rowIs_only M.items ho (by unfold wtr; omega), M.pool.only ho (by unfold wtr; omega), rowIs_only M.ws ho (by unfold wtr; omega), fun j hj => ?_, fun j hj => (M.bells j hj).only ho (by unfold wtr bell; omega)⟩
  by_cases hc : j = i
  · subst hc
    simp only [if_true]
    exact heap_set (M.wait j hj) 1 (.pointer p)
  · simp only [hc, if_false]
    exact (M.wait j hj).only ho (by unfold wtr; omega)
theorem Made.setNext {B n h k m : Nat} {z : Nat → Int} {sv : Nat → Value} {pr nx : Nat → Option Addr} {c : Nat} {w : World} (M : Made B n h k m z sv pr nx c w) (i : Nat) (hi : i < c) (p : Option Addr) :
    Made B n h k m z sv pr (fun x => if x = i then p else nx x) c (w.setCell ⟨wtr B i, 2, none⟩ (.pointer p)) := by
  have ho : Only (fun x => x = wtr B i) w (w.setCell ⟨wtr B i, 2, none⟩ (.pointer p)) := (Only.refl (fun x => x = wtr B i) w).setCell (p := ⟨wtr B i, 2, none⟩) (fun _ => rfl) _
  refine ⟨M.queue.only ho (by unfold wtr; omega), rowIs_only M.seqs ho (by unfold wtr; omega), rowIs_only M.items ho (by unfold wtr; omega), M.pool.only ho (by unfold wtr; omega), rowIs_only M.ws ho (by unfold wtr; omega), fun j hj => ?_, fun j hj => (M.bells j hj).only ho (by unfold wtr bell; omega)⟩
  by_cases hc : j = i
  · subst hc
    simp only [if_true]
    exact heap_set (M.wait j hj) 2 (.pointer p)
  · simp only [hc, if_false]
    exact (M.wait j hj).only ho (by unfold wtr; omega)
theorem Made.drew {B n h k m : Nat} {z : Nat → Int} {sv : Nat → Value} {pr nx : Nat → Option Addr} {c : Nat} {w : World} (M : Made B n h k m z sv pr nx c w) : Made B n h k m z sv pr nx c w.drew :=
  ⟨⟨M.queue.head, M.queue.tail, M.queue.seqs, M.queue.items, M.queue.fz⟩, M.seqs, M.items, M.pool.drew, M.ws, M.wait, M.bells⟩
theorem Made.congr {B n h k m : Nat} {z : Nat → Int} {sv sv' : Nat → Value} {pr nx pr' nx' : Nat → Option Addr} {c : Nat} {w : World} (M : Made B n h k m z sv pr nx c w) (h0 : ∀ i, i < m → sv i = sv' i) (h1 : ∀ i, i < c → pr i = pr' i) (h2 : ∀ i, i < c → nx i = nx' i) : Made B n h k m z sv' pr' nx' c w :=
  ⟨M.queue, M.seqs, M.items, M.pool, M.ws.congr h0, fun j hj => by rw [← h1 j hj, ← h2 j hj]; exact M.wait j hj, M.bells⟩

/-- The waiters made so far. -/
def svTo (B c i : Nat) : Value := if i < c then .pointer (some ⟨wtr B i, 0, none⟩) else .pointer none
/-- The links laid so far. -/
def prTo (B c i : Nat) : Option Addr := if i < c then prevOf B 0 i else none
def nxTo (B m c i : Nat) : Option Addr := if i < c then nextOf B m 0 i else none

theorem prTo_succ {B d : Nat} (hd : d ≠ 0) (x : Nat) : (if x = d then some ⟨wtr B (d - 1), 0, none⟩ else prTo B d x) = prTo B (d + 1) x := by
  by_cases h : x = d
  · subst h; simp [prTo, prevOf, ptr, hd]
  · have : (x < d + 1) ↔ (x < d) := by omega
    simp only [h, if_false, prTo, this]
theorem prTo_zero (B x : Nat) : prTo B 0 x = prTo B 1 x := by
  by_cases h : x = 0
  · subst h; simp [prTo, prevOf]
  · simp [prTo, h]
theorem nxTo_succ {B m d : Nat} (hd : d + 1 < m) (x : Nat) : (if x = d then some ⟨wtr B (d + 1), 0, none⟩ else nxTo B m d x) = nxTo B m (d + 1) x := by
  by_cases h : x = d
  · subst h; simp [nxTo, nextOf, ptr, hd]
  · have : (x < d + 1) ↔ (x < d) := by omega
    simp only [h, if_false, nxTo, this]
theorem nxTo_last {B m d : Nat} (hd : ¬ d + 1 < m) (x : Nat) : nxTo B m d x = nxTo B m (d + 1) x := by
  by_cases h : x = d
  · subst h; simp [nxTo, nextOf, hd]
  · have : (x < d + 1) ↔ (x < d) := by omega
    simp only [nxTo, this]
theorem Made.both {B n h k m d : Nat} {z : Nat → Int} {sv : Nat → Value} {w : World} (M : Made B n h k m z sv (prTo B d) (nxTo B m d) m w) (hd : d ≠ 0) (hd1 : d + 1 < m) :
    Made B n h k m z sv (prTo B (d + 1)) (nxTo B m (d + 1)) m ((w.setCell ⟨wtr B d, 1, none⟩ (.pointer (some ⟨wtr B (d - 1), 0, none⟩))).setCell ⟨wtr B d, 2, none⟩ (.pointer (some ⟨wtr B (d + 1), 0, none⟩))) :=
  ((M.setPrev d (by omega) _).setNext d (by omega) _).congr (fun _ _ => rfl) (fun x _ => prTo_succ hd x) (fun x _ => nxTo_succ hd1 x)
theorem Made.prevOnly {B n h k m d : Nat} {z : Nat → Int} {sv : Nat → Value} {w : World} (M : Made B n h k m z sv (prTo B d) (nxTo B m d) m w) (hd : d ≠ 0) (hdm : d < m) (hd1 : ¬ d + 1 < m) :
    Made B n h k m z sv (prTo B (d + 1)) (nxTo B m (d + 1)) m (w.setCell ⟨wtr B d, 1, none⟩ (.pointer (some ⟨wtr B (d - 1), 0, none⟩))) :=
  (M.setPrev d hdm _).congr (fun _ _ => rfl) (fun x _ => prTo_succ hd x) (fun x _ => nxTo_last hd1 x)
theorem Made.nextOnly {B n h k m : Nat} {z : Nat → Int} {sv : Nat → Value} {w : World} (M : Made B n h k m z sv (prTo B 0) (nxTo B m 0) m w) (hd1 : 0 + 1 < m) :
    Made B n h k m z sv (prTo B 1) (nxTo B m 1) m (w.setCell ⟨wtr B 0, 2, none⟩ (.pointer (some ⟨wtr B 1, 0, none⟩))) :=
  (M.setNext 0 (by omega) _).congr (fun _ _ => rfl) (fun x _ => prTo_zero B x) (fun x _ => nxTo_succ hd1 x)
theorem Made.neither {B n h k m : Nat} {z : Nat → Int} {sv : Nat → Value} {w : World} (M : Made B n h k m z sv (prTo B 0) (nxTo B m 0) m w) (hd1 : ¬ 0 + 1 < m) :
    Made B n h k m z sv (prTo B 1) (nxTo B m 1) m w := M.congr (fun _ _ => rfl) (fun x _ => prTo_zero B x) (fun x _ => nxTo_last hd1 x)

/-- All is laid: the room list stands. -/
theorem Made.inv {B n h k m : Nat} {z : Nat → Int} {w w' : World} (M : Made B n h k m z (svTo B m) (prTo B m) (nxTo B m m) m w) (ho : Only (fun x => x = B + 3) w w')
    (hp : PoolIs w' (B + 3) (B + 2) (m : Int) 0 (if 0 < m then ptr B 0 else none) (if 0 < m then ptr B (m - 1) else none)) : Inv B n h k m z 0 w' := by
  refine ⟨?_, rowIs_only M.seqs ho (by omega), rowIs_only M.items ho (by omega), ?_, ?_, fun j hj => ?_, fun j hj => ?_⟩
  · have e : ((h + k : Nat) : Int) = (h : Int) + k := by omega
    rw [e]
    exact M.queue.only ho (by omega)
  · exact hp
  · exact (rowIs_only M.ws ho (by omega)).congr (fun i hi => by simp only [svTo, hi, if_true]; rfl)
  · have := (M.wait j hj).only ho (by unfold wtr; omega)
    simp only [prTo, nxTo, hj, if_true] at this
    rw [decT (Nat.zero_le _)]
    exact this
  · rw [decF (by omega)]
    exact (M.bells j hj).only ho (by unfold bell; omega)
end Go.Proofs.Ybulkckze
