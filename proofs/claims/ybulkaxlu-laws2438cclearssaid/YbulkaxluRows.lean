/-
  No cell of these rows narrows 'for every input' (looked for: loops, veiled, ifaces, maps, wideKeys, modest, calm, conditions, laid).
  DERIVED. THE GIVEN ROWS OF THIS SEAT. 3 by the template 'for every input the law returns true; each argument reads behind the call as it read before'; 0 by the template 'total and deterministic' (their statements: YbulkaxluTotals.lean).
  GIVEN WITH THE SEED: the statements are not yours to turn. If you find one false, say at which input.
  Laid BY PROGRAM, IN A SANDBOX (cutbox-rows.mjs): the forced cells as the released guide's own fill.sh prints them over the translation 86017741edc178b1… (all of the seat's roots in one cut). By AI agents, Wed Nov 11 2026. No macro, syntax, notation, axiom, sorry.
-/
import Derived.Test.YbulkaxluChecked
import GoSem.Claim
import GoSem.ClaimJoined
import GoSem.ClaimMapViews
import Derived.JoinedTies
import Derived.KernelRfl
namespace Go.Proofs.Ybulkaxlu
/- THE CELL 'sum', in the pinned program and in every row, IS THE sha256 OF THE DUMP (.gsa) THAT YbulkaxluProg.lean LOADS. Nothing in Lean hashes anything: it is a label: what it is worth is what the hold of that sum in a sandbox is worth. -/
noncomputable def Yba.pinned : Pinned := { name := "ybulkaxlu", sum := "86017741edc178b1e88a4b0ccebd5377f683d128aa7ceafa02f7f47f3c7cddcc", checked := Yba.checked }
namespace Rows
def none {H : Type} : Left H := { results := [], args := [] }

/-- 'session.LawS2438AEmptyReleases': WHATEVER THE INPUT: true; the input reads as it did. -/
def lawS2438AEmptyReleasesSpec : ChangeSpec := { name := "lawS2438AEmptyReleases", fn := fun _ => fun
  | [d1, d2] => { results := [.lit (.bool true)], args := [d1, d2] }
  | _ => none }
def lawS2438AEmptyReleasesRow : OpenClaim := { program := "ybulkaxlu", sum := "86017741edc178b1e88a4b0ccebd5377f683d128aa7ceafa02f7f47f3c7cddcc", func := "example.com/picket-fence/picket-fence/pkg/session.LawS2438AEmptyReleases", spec := "lawS2438AEmptyReleases", inPlace := ["(*internal/sync.Mutex).Lock", "internal/race.Disable", "sync/atomic.CompareAndSwapInt32", "internal/race.Enable", "internal/race.Acquire", "(*internal/sync.Mutex).lockSlow", "internal/sync.runtime_canSpin", "internal/sync.runtime_doSpin", "internal/sync.throw", "internal/sync.runtime_nanotime", "internal/sync.runtime_SemacquireMutex", "sync/atomic.AddInt32", "(*internal/sync.Mutex).Unlock", "internal/race.ReleaseMerge", "(*internal/sync.Mutex).unlockSlow", "internal/sync.fatal", "internal/sync.runtime_Semrelease", "(*internal/sync.Mutex).TryLock"], unfollowed := true, recurses := true, apart := false }
def LawS2438AEmptyReleasesSaid : Prop := lawS2438AEmptyReleasesRow.holds Yba.pinned (OpenSpec.ofChange lawS2438AEmptyReleasesSpec)

/-- ITS FALSE NEIGHBOUR: 'it returns false'. Refute it at one input. -/
def lawS2438AEmptyReleasesWrong : ChangeSpec := { name := "lawS2438AEmptyReleases", fn := fun _ => fun
  | [d1, d2] => { results := [.lit (.bool false)], args := [d1, d2] }
  | _ => none }
def LawS2438AEmptyReleasesWrongFalsely : Prop := lawS2438AEmptyReleasesRow.holds Yba.pinned (OpenSpec.ofChange lawS2438AEmptyReleasesWrong)

/-- 'policy.LawS2438CClears': WHATEVER THE INPUT: true; the input reads as it did. -/
def lawS2438CClearsSpec : ChangeSpec := { name := "lawS2438CClears", fn := fun _ => fun
  | [d1, d2, d3] => { results := [.lit (.bool true)], args := [d1, d2, d3] }
  | _ => none }
def lawS2438CClearsRow : OpenClaim := { program := "ybulkaxlu", sum := "86017741edc178b1e88a4b0ccebd5377f683d128aa7ceafa02f7f47f3c7cddcc", func := "example.com/picket-fence/picket-fence/pkg/policy.LawS2438CClears", spec := "lawS2438CClears", inPlace := ["(*internal/sync.Mutex).Lock", "internal/race.Disable", "sync/atomic.CompareAndSwapInt32", "internal/race.Enable", "internal/race.Acquire", "(*internal/sync.Mutex).lockSlow", "internal/sync.runtime_canSpin", "internal/sync.runtime_doSpin", "internal/sync.throw", "internal/sync.runtime_nanotime", "internal/sync.runtime_SemacquireMutex", "sync/atomic.AddInt32", "(*internal/sync.Mutex).Unlock", "internal/race.ReleaseMerge", "(*internal/sync.Mutex).unlockSlow", "internal/sync.fatal", "internal/sync.runtime_Semrelease", "(*internal/sync.Mutex).TryLock"], apart := false }
def LawS2438CClearsSaid : Prop := lawS2438CClearsRow.holds Yba.pinned (OpenSpec.ofChange lawS2438CClearsSpec)

/-- ITS FALSE NEIGHBOUR: 'it returns false'. Refute it at one input. -/
def lawS2438CClearsWrong : ChangeSpec := { name := "lawS2438CClears", fn := fun _ => fun
  | [d1, d2, d3] => { results := [.lit (.bool false)], args := [d1, d2, d3] }
  | _ => none }
def LawS2438CClearsWrongFalsely : Prop := lawS2438CClearsRow.holds Yba.pinned (OpenSpec.ofChange lawS2438CClearsWrong)

/-- 'policy.LawS2438CNilReceiver': WHATEVER THE INPUT: true; the input reads as it did. -/
def lawS2438CNilReceiverSpec : ChangeSpec := { name := "lawS2438CNilReceiver", fn := fun _ => fun
  | [d] => { results := [.lit (.bool true)], args := [d] }
  | _ => none }
def lawS2438CNilReceiverRow : OpenClaim := { program := "ybulkaxlu", sum := "86017741edc178b1e88a4b0ccebd5377f683d128aa7ceafa02f7f47f3c7cddcc", func := "example.com/picket-fence/picket-fence/pkg/policy.LawS2438CNilReceiver", spec := "lawS2438CNilReceiver", inPlace := ["(*internal/sync.Mutex).Lock", "internal/race.Disable", "sync/atomic.CompareAndSwapInt32", "internal/race.Enable", "internal/race.Acquire", "(*internal/sync.Mutex).lockSlow", "internal/sync.runtime_canSpin", "internal/sync.runtime_doSpin", "internal/sync.throw", "internal/sync.runtime_nanotime", "internal/sync.runtime_SemacquireMutex", "sync/atomic.AddInt32", "(*internal/sync.Mutex).Unlock", "internal/race.ReleaseMerge", "(*internal/sync.Mutex).unlockSlow", "internal/sync.fatal", "internal/sync.runtime_Semrelease"], apart := false }
def LawS2438CNilReceiverSaid : Prop := lawS2438CNilReceiverRow.holds Yba.pinned (OpenSpec.ofChange lawS2438CNilReceiverSpec)

/-- ITS FALSE NEIGHBOUR: 'it returns false'. Refute it at one input. -/
def lawS2438CNilReceiverWrong : ChangeSpec := { name := "lawS2438CNilReceiver", fn := fun _ => fun
  | [d] => { results := [.lit (.bool false)], args := [d] }
  | _ => none }
def LawS2438CNilReceiverWrongFalsely : Prop := lawS2438CNilReceiverRow.holds Yba.pinned (OpenSpec.ofChange lawS2438CNilReceiverWrong)

end Rows
end Go.Proofs.Ybulkaxlu
