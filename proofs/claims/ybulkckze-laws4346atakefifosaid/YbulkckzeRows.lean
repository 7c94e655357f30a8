/-
  No cell of these rows narrows 'for every input' (looked for: loops, veiled, ifaces, maps, wideKeys, modest, calm, conditions, laid).
  DERIVED. THE GIVEN ROWS OF THIS SEAT. 1 by the template 'for every input the law returns true; each argument reads behind the call as it read before'; 0 by the template 'total and deterministic' (their statements: YbulkckzeTotals.lean).
  GIVEN WITH THE SEED: the statements are not yours to turn. If you find one false, say at which input.
  Laid BY PROGRAM, IN A SANDBOX (cutbox-rows.mjs): the forced cells as the released guide's own fill.sh prints them over the translation 84d02ffb098269e0… (all of the seat's roots in one cut). By AI agents, Wed Nov 11 2026. No macro, syntax, notation, axiom, sorry.
-/
import Derived.Test.YbulkckzeChecked
import GoSem.Claim
import GoSem.ClaimJoined
import GoSem.ClaimMapViews
import Derived.JoinedTies
import Derived.KernelRfl
namespace Go.Proofs.Ybulkckze
/- THE CELL 'sum', in the pinned program and in every row, IS THE sha256 OF THE DUMP (.gsa) THAT YbulkckzeProg.lean LOADS. Nothing in Lean hashes anything: it is a label: what it is worth is what the hold of that sum in a sandbox is worth. -/
noncomputable def Yba.pinned : Pinned := { name := "ybulkckze", sum := "84d02ffb098269e08b7ad73de83973cd1edb8b7a78f569adb50cb16624cbc0de", checked := Yba.checked }
namespace Rows
def none {H : Type} : Left H := { results := [], args := [] }

/-- 'obrero.LawS4346ATakeFifo': WHATEVER THE INPUT: true; the input reads as it did. -/
def lawS4346ATakeFifoSpec : ChangeSpec := { name := "lawS4346ATakeFifo", fn := fun _ => fun
  | [d1, d2, d3, d4] => { results := [.lit (.bool true)], args := [d1, d2, d3, d4] }
  | _ => none }
def lawS4346ATakeFifoRow : OpenClaim := { program := "ybulkckze", sum := "84d02ffb098269e08b7ad73de83973cd1edb8b7a78f569adb50cb16624cbc0de", func := "example.com/obrero/obrero.LawS4346ATakeFifo", spec := "lawS4346ATakeFifo", inPlace := ["sync/atomic.LoadUint64", "sync/atomic.CompareAndSwapUint64", "sync/atomic.StoreUint64", "sync/atomic.LoadInt64", "(*internal/sync.Mutex).Lock", "internal/race.Disable", "sync/atomic.CompareAndSwapInt32", "internal/race.Enable", "internal/race.Acquire", "(*internal/sync.Mutex).lockSlow", "internal/sync.runtime_canSpin", "internal/sync.runtime_doSpin", "internal/sync.throw", "internal/sync.runtime_nanotime", "internal/sync.runtime_SemacquireMutex", "sync/atomic.AddInt32", "(*internal/sync.Mutex).Unlock", "internal/race.ReleaseMerge", "(*internal/sync.Mutex).unlockSlow", "internal/sync.fatal", "internal/sync.runtime_Semrelease", "sync/atomic.AddInt64"], apart := false }
def LawS4346ATakeFifoSaid : Prop := lawS4346ATakeFifoRow.holds Yba.pinned (OpenSpec.ofChange lawS4346ATakeFifoSpec)

/-- ITS FALSE NEIGHBOUR: 'it returns false'. Refute it at one input. -/
def lawS4346ATakeFifoWrong : ChangeSpec := { name := "lawS4346ATakeFifo", fn := fun _ => fun
  | [d1, d2, d3, d4] => { results := [.lit (.bool false)], args := [d1, d2, d3, d4] }
  | _ => none }
def LawS4346ATakeFifoWrongFalsely : Prop := lawS4346ATakeFifoRow.holds Yba.pinned (OpenSpec.ofChange lawS4346ATakeFifoWrong)

end Rows
end Go.Proofs.Ybulkckze
