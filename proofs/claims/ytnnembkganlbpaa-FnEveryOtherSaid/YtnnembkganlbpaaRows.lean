/-
  No cell of these rows narrows 'for every input' (looked for: loops, veiled, ifaces, maps, wideKeys, modest, calm, conditions, laid).
  DERIVED. THE GIVEN ROWS OF THIS SEAT. 17 by the template 'for every input the law returns true; each argument reads behind the call as it read before'; 0 by the template 'total and deterministic' (their statements: YtnnembkganlbpaaTotals.lean).
  GIVEN WITH THE SEED: the statements are not yours to turn. If you find one false, say at which input.
  Laid BY PROGRAM, IN A SANDBOX (cutbox-rows.mjs): the forced cells as the released guide's own fill.sh prints them over the translation 9d635c25f4202d55… (all of the seat's roots in one cut). By AI agents, Wed Nov 11 2026. No macro, syntax, notation, axiom, sorry.
-/
import Derived.Test.YtnnembkganlbpaaChecked
import GoSem.Claim
import GoSem.ClaimJoined
import GoSem.ClaimMapViews
import Derived.JoinedTies
import Derived.KernelRfl
namespace Go.Proofs.Ytnnembkganlbpaa
/- THE CELL 'sum', in the pinned program and in every row, IS THE sha256 OF THE DUMP (.gsa) THAT YtnnembkganlbpaaProg.lean LOADS. Nothing in Lean hashes anything: it is a label: what it is worth is what the hold of that sum in a sandbox is worth. -/
noncomputable def Try.pinned : Pinned := { name := "ytnnembkganlbpaa", sum := "9d635c25f4202d5587ef21031a3375f8901fa93d307ceed11c3f69b53a7af148", checked := Try.checked }
namespace Rows
def none {H : Type} : Left H := { results := [], args := [] }

/-- 'laws.FnAnyOrder': WHATEVER THE INPUT: true; the input reads as it did. -/
def fnAnyOrderSpec : ChangeSpec := { name := "fnAnyOrder", fn := fun _ => fun
  | [d1, d2, d3] => { results := [.lit (.bool true)], args := [d1, d2, d3] }
  | _ => none }
def fnAnyOrderRow : OpenClaim := { program := "ytnnembkganlbpaa", sum := "9d635c25f4202d5587ef21031a3375f8901fa93d307ceed11c3f69b53a7af148", func := "loop.example/pub-g01443/laws.FnAnyOrder", spec := "fnAnyOrder", inPlace := ["(*internal/sync.Mutex).Lock", "internal/race.Disable", "sync/atomic.CompareAndSwapInt32", "internal/race.Enable", "internal/race.Acquire", "(*internal/sync.Mutex).lockSlow", "internal/sync.runtime_canSpin", "internal/sync.runtime_doSpin", "internal/sync.throw", "internal/sync.runtime_nanotime", "internal/sync.runtime_SemacquireMutex", "sync/atomic.AddInt32", "(*internal/sync.Mutex).Unlock", "internal/race.ReleaseMerge", "(*internal/sync.Mutex).unlockSlow", "internal/sync.fatal", "internal/sync.runtime_Semrelease"], unfollowed := true, recurses := true, apart := false }
def FnAnyOrderSaid : Prop := fnAnyOrderRow.holds Try.pinned (OpenSpec.ofChange fnAnyOrderSpec)

/-- ITS FALSE NEIGHBOUR: 'it returns false'. Refute it at one input. -/
def fnAnyOrderWrong : ChangeSpec := { name := "fnAnyOrder", fn := fun _ => fun
  | [d1, d2, d3] => { results := [.lit (.bool false)], args := [d1, d2, d3] }
  | _ => none }
def FnAnyOrderWrongFalsely : Prop := fnAnyOrderRow.holds Try.pinned (OpenSpec.ofChange fnAnyOrderWrong)

/-- 'laws.FnBetween': WHATEVER THE INPUT: true; the input reads as it did. -/
def fnBetweenSpec : ChangeSpec := { name := "fnBetween", fn := fun _ => fun
  | [d1, d2, d3, d4] => { results := [.lit (.bool true)], args := [d1, d2, d3, d4] }
  | _ => none }
def fnBetweenRow : OpenClaim := { program := "ytnnembkganlbpaa", sum := "9d635c25f4202d5587ef21031a3375f8901fa93d307ceed11c3f69b53a7af148", func := "loop.example/pub-g01443/laws.FnBetween", spec := "fnBetween", inPlace := ["(*internal/sync.Mutex).Lock", "internal/race.Disable", "sync/atomic.CompareAndSwapInt32", "internal/race.Enable", "internal/race.Acquire", "(*internal/sync.Mutex).lockSlow", "internal/sync.runtime_canSpin", "internal/sync.runtime_doSpin", "internal/sync.throw", "internal/sync.runtime_nanotime", "internal/sync.runtime_SemacquireMutex", "sync/atomic.AddInt32", "(*internal/sync.Mutex).Unlock", "internal/race.ReleaseMerge", "(*internal/sync.Mutex).unlockSlow", "internal/sync.fatal", "internal/sync.runtime_Semrelease"], unfollowed := true, recurses := true, apart := false }
def FnBetweenSaid : Prop := fnBetweenRow.holds Try.pinned (OpenSpec.ofChange fnBetweenSpec)

/-- ITS FALSE NEIGHBOUR: 'it returns false'. Refute it at one input. -/
def fnBetweenWrong : ChangeSpec := { name := "fnBetween", fn := fun _ => fun
  | [d1, d2, d3, d4] => { results := [.lit (.bool false)], args := [d1, d2, d3, d4] }
  | _ => none }
def FnBetweenWrongFalsely : Prop := fnBetweenRow.holds Try.pinned (OpenSpec.ofChange fnBetweenWrong)

/-- 'laws.FnCounts': WHATEVER THE INPUT: true; the input reads as it did. -/
def fnCountsSpec : ChangeSpec := { name := "fnCounts", fn := fun _ => fun
  | [d1, d2] => { results := [.lit (.bool true)], args := [d1, d2] }
  | _ => none }
def fnCountsRow : OpenClaim := { program := "ytnnembkganlbpaa", sum := "9d635c25f4202d5587ef21031a3375f8901fa93d307ceed11c3f69b53a7af148", func := "loop.example/pub-g01443/laws.FnCounts", spec := "fnCounts", inPlace := ["(*internal/sync.Mutex).Lock", "internal/race.Disable", "sync/atomic.CompareAndSwapInt32", "internal/race.Enable", "internal/race.Acquire", "(*internal/sync.Mutex).lockSlow", "internal/sync.runtime_canSpin", "internal/sync.runtime_doSpin", "internal/sync.throw", "internal/sync.runtime_nanotime", "internal/sync.runtime_SemacquireMutex", "sync/atomic.AddInt32", "(*internal/sync.Mutex).Unlock", "internal/race.ReleaseMerge", "(*internal/sync.Mutex).unlockSlow", "internal/sync.fatal", "internal/sync.runtime_Semrelease"], unfollowed := true, recurses := true, apart := false }
def FnCountsSaid : Prop := fnCountsRow.holds Try.pinned (OpenSpec.ofChange fnCountsSpec)

/-- ITS FALSE NEIGHBOUR: 'it returns false'. Refute it at one input. -/
def fnCountsWrong : ChangeSpec := { name := "fnCounts", fn := fun _ => fun
  | [d1, d2] => { results := [.lit (.bool false)], args := [d1, d2] }
  | _ => none }
def FnCountsWrongFalsely : Prop := fnCountsRow.holds Try.pinned (OpenSpec.ofChange fnCountsWrong)

/-- 'laws.FnCut': WHATEVER THE INPUT: true; the input reads as it did. -/
def fnCutSpec : ChangeSpec := { name := "fnCut", fn := fun _ => fun
  | [d1, d2, d3] => { results := [.lit (.bool true)], args := [d1, d2, d3] }
  | _ => none }
def fnCutRow : OpenClaim := { program := "ytnnembkganlbpaa", sum := "9d635c25f4202d5587ef21031a3375f8901fa93d307ceed11c3f69b53a7af148", func := "loop.example/pub-g01443/laws.FnCut", spec := "fnCut", inPlace := ["(*internal/sync.Mutex).Lock", "internal/race.Disable", "sync/atomic.CompareAndSwapInt32", "internal/race.Enable", "internal/race.Acquire", "(*internal/sync.Mutex).lockSlow", "internal/sync.runtime_canSpin", "internal/sync.runtime_doSpin", "internal/sync.throw", "internal/sync.runtime_nanotime", "internal/sync.runtime_SemacquireMutex", "sync/atomic.AddInt32", "(*internal/sync.Mutex).Unlock", "internal/race.ReleaseMerge", "(*internal/sync.Mutex).unlockSlow", "internal/sync.fatal", "internal/sync.runtime_Semrelease"], unfollowed := true, recurses := true, apart := false }
def FnCutSaid : Prop := fnCutRow.holds Try.pinned (OpenSpec.ofChange fnCutSpec)

/-- ITS FALSE NEIGHBOUR: 'it returns false'. Refute it at one input. -/
def fnCutWrong : ChangeSpec := { name := "fnCut", fn := fun _ => fun
  | [d1, d2, d3] => { results := [.lit (.bool false)], args := [d1, d2, d3] }
  | _ => none }
def FnCutWrongFalsely : Prop := fnCutRow.holds Try.pinned (OpenSpec.ofChange fnCutWrong)

/-- 'laws.FnCutDown': WHATEVER THE INPUT: true; the input reads as it did. -/
def fnCutDownSpec : ChangeSpec := { name := "fnCutDown", fn := fun _ => fun
  | [d1, d2, d3] => { results := [.lit (.bool true)], args := [d1, d2, d3] }
  | _ => none }
def fnCutDownRow : OpenClaim := { program := "ytnnembkganlbpaa", sum := "9d635c25f4202d5587ef21031a3375f8901fa93d307ceed11c3f69b53a7af148", func := "loop.example/pub-g01443/laws.FnCutDown", spec := "fnCutDown", inPlace := ["(*internal/sync.Mutex).Lock", "internal/race.Disable", "sync/atomic.CompareAndSwapInt32", "internal/race.Enable", "internal/race.Acquire", "(*internal/sync.Mutex).lockSlow", "internal/sync.runtime_canSpin", "internal/sync.runtime_doSpin", "internal/sync.throw", "internal/sync.runtime_nanotime", "internal/sync.runtime_SemacquireMutex", "sync/atomic.AddInt32", "(*internal/sync.Mutex).Unlock", "internal/race.ReleaseMerge", "(*internal/sync.Mutex).unlockSlow", "internal/sync.fatal", "internal/sync.runtime_Semrelease"], unfollowed := true, recurses := true, apart := false }
def FnCutDownSaid : Prop := fnCutDownRow.holds Try.pinned (OpenSpec.ofChange fnCutDownSpec)

/-- ITS FALSE NEIGHBOUR: 'it returns false'. Refute it at one input. -/
def fnCutDownWrong : ChangeSpec := { name := "fnCutDown", fn := fun _ => fun
  | [d1, d2, d3] => { results := [.lit (.bool false)], args := [d1, d2, d3] }
  | _ => none }
def FnCutDownWrongFalsely : Prop := fnCutDownRow.holds Try.pinned (OpenSpec.ofChange fnCutDownWrong)

/-- 'laws.FnDeleted': WHATEVER THE INPUT: true; the input reads as it did. -/
def fnDeletedSpec : ChangeSpec := { name := "fnDeleted", fn := fun _ => fun
  | [d1, d2, d3] => { results := [.lit (.bool true)], args := [d1, d2, d3] }
  | _ => none }
def fnDeletedRow : OpenClaim := { program := "ytnnembkganlbpaa", sum := "9d635c25f4202d5587ef21031a3375f8901fa93d307ceed11c3f69b53a7af148", func := "loop.example/pub-g01443/laws.FnDeleted", spec := "fnDeleted", inPlace := ["(*internal/sync.Mutex).Lock", "internal/race.Disable", "sync/atomic.CompareAndSwapInt32", "internal/race.Enable", "internal/race.Acquire", "(*internal/sync.Mutex).lockSlow", "internal/sync.runtime_canSpin", "internal/sync.runtime_doSpin", "internal/sync.throw", "internal/sync.runtime_nanotime", "internal/sync.runtime_SemacquireMutex", "sync/atomic.AddInt32", "(*internal/sync.Mutex).Unlock", "internal/race.ReleaseMerge", "(*internal/sync.Mutex).unlockSlow", "internal/sync.fatal", "internal/sync.runtime_Semrelease"], unfollowed := true, recurses := true, apart := false }
def FnDeletedSaid : Prop := fnDeletedRow.holds Try.pinned (OpenSpec.ofChange fnDeletedSpec)

/-- ITS FALSE NEIGHBOUR: 'it returns false'. Refute it at one input. -/
def fnDeletedWrong : ChangeSpec := { name := "fnDeleted", fn := fun _ => fun
  | [d1, d2, d3] => { results := [.lit (.bool false)], args := [d1, d2, d3] }
  | _ => none }
def FnDeletedWrongFalsely : Prop := fnDeletedRow.holds Try.pinned (OpenSpec.ofChange fnDeletedWrong)

/-- 'laws.FnEnds': WHATEVER THE INPUT: true; the input reads as it did. -/
def fnEndsSpec : ChangeSpec := { name := "fnEnds", fn := fun _ => fun
  | [d1, d2] => { results := [.lit (.bool true)], args := [d1, d2] }
  | _ => none }
def fnEndsRow : OpenClaim := { program := "ytnnembkganlbpaa", sum := "9d635c25f4202d5587ef21031a3375f8901fa93d307ceed11c3f69b53a7af148", func := "loop.example/pub-g01443/laws.FnEnds", spec := "fnEnds", inPlace := ["(*internal/sync.Mutex).Lock", "internal/race.Disable", "sync/atomic.CompareAndSwapInt32", "internal/race.Enable", "internal/race.Acquire", "(*internal/sync.Mutex).lockSlow", "internal/sync.runtime_canSpin", "internal/sync.runtime_doSpin", "internal/sync.throw", "internal/sync.runtime_nanotime", "internal/sync.runtime_SemacquireMutex", "sync/atomic.AddInt32", "(*internal/sync.Mutex).Unlock", "internal/race.ReleaseMerge", "(*internal/sync.Mutex).unlockSlow", "internal/sync.fatal", "internal/sync.runtime_Semrelease"], unfollowed := true, recurses := true, apart := false }
def FnEndsSaid : Prop := fnEndsRow.holds Try.pinned (OpenSpec.ofChange fnEndsSpec)

/-- ITS FALSE NEIGHBOUR: 'it returns false'. Refute it at one input. -/
def fnEndsWrong : ChangeSpec := { name := "fnEnds", fn := fun _ => fun
  | [d1, d2] => { results := [.lit (.bool false)], args := [d1, d2] }
  | _ => none }
def FnEndsWrongFalsely : Prop := fnEndsRow.holds Try.pinned (OpenSpec.ofChange fnEndsWrong)

/-- 'laws.FnEveryOther': WHATEVER THE INPUT: true; the input reads as it did. -/
def fnEveryOtherSpec : ChangeSpec := { name := "fnEveryOther", fn := fun _ => fun
  | [d1, d2, d3] => { results := [.lit (.bool true)], args := [d1, d2, d3] }
  | _ => none }
def fnEveryOtherRow : OpenClaim := { program := "ytnnembkganlbpaa", sum := "9d635c25f4202d5587ef21031a3375f8901fa93d307ceed11c3f69b53a7af148", func := "loop.example/pub-g01443/laws.FnEveryOther", spec := "fnEveryOther", inPlace := ["(*internal/sync.Mutex).Lock", "internal/race.Disable", "sync/atomic.CompareAndSwapInt32", "internal/race.Enable", "internal/race.Acquire", "(*internal/sync.Mutex).lockSlow", "internal/sync.runtime_canSpin", "internal/sync.runtime_doSpin", "internal/sync.throw", "internal/sync.runtime_nanotime", "internal/sync.runtime_SemacquireMutex", "sync/atomic.AddInt32", "(*internal/sync.Mutex).Unlock", "internal/race.ReleaseMerge", "(*internal/sync.Mutex).unlockSlow", "internal/sync.fatal", "internal/sync.runtime_Semrelease"], unfollowed := true, recurses := true, apart := false }
def FnEveryOtherSaid : Prop := fnEveryOtherRow.holds Try.pinned (OpenSpec.ofChange fnEveryOtherSpec)

/-- ITS FALSE NEIGHBOUR: 'it returns false'. Refute it at one input. -/
def fnEveryOtherWrong : ChangeSpec := { name := "fnEveryOther", fn := fun _ => fun
  | [d1, d2, d3] => { results := [.lit (.bool false)], args := [d1, d2, d3] }
  | _ => none }
def FnEveryOtherWrongFalsely : Prop := fnEveryOtherRow.holds Try.pinned (OpenSpec.ofChange fnEveryOtherWrong)

/-- 'laws.FnFound': WHATEVER THE INPUT: true; the input reads as it did. -/
def fnFoundSpec : ChangeSpec := { name := "fnFound", fn := fun _ => fun
  | [d1, d2, d3] => { results := [.lit (.bool true)], args := [d1, d2, d3] }
  | _ => none }
def fnFoundRow : OpenClaim := { program := "ytnnembkganlbpaa", sum := "9d635c25f4202d5587ef21031a3375f8901fa93d307ceed11c3f69b53a7af148", func := "loop.example/pub-g01443/laws.FnFound", spec := "fnFound", inPlace := ["(*internal/sync.Mutex).Lock", "internal/race.Disable", "sync/atomic.CompareAndSwapInt32", "internal/race.Enable", "internal/race.Acquire", "(*internal/sync.Mutex).lockSlow", "internal/sync.runtime_canSpin", "internal/sync.runtime_doSpin", "internal/sync.throw", "internal/sync.runtime_nanotime", "internal/sync.runtime_SemacquireMutex", "sync/atomic.AddInt32", "(*internal/sync.Mutex).Unlock", "internal/race.ReleaseMerge", "(*internal/sync.Mutex).unlockSlow", "internal/sync.fatal", "internal/sync.runtime_Semrelease"], unfollowed := true, recurses := true, apart := false }
def FnFoundSaid : Prop := fnFoundRow.holds Try.pinned (OpenSpec.ofChange fnFoundSpec)

/-- ITS FALSE NEIGHBOUR: 'it returns false'. Refute it at one input. -/
def fnFoundWrong : ChangeSpec := { name := "fnFound", fn := fun _ => fun
  | [d1, d2, d3] => { results := [.lit (.bool false)], args := [d1, d2, d3] }
  | _ => none }
def FnFoundWrongFalsely : Prop := fnFoundRow.holds Try.pinned (OpenSpec.ofChange fnFoundWrong)

/-- 'laws.FnMirrored': WHATEVER THE INPUT: true; the input reads as it did. -/
def fnMirroredSpec : ChangeSpec := { name := "fnMirrored", fn := fun _ => fun
  | [d1, d2] => { results := [.lit (.bool true)], args := [d1, d2] }
  | _ => none }
def fnMirroredRow : OpenClaim := { program := "ytnnembkganlbpaa", sum := "9d635c25f4202d5587ef21031a3375f8901fa93d307ceed11c3f69b53a7af148", func := "loop.example/pub-g01443/laws.FnMirrored", spec := "fnMirrored", inPlace := ["(*internal/sync.Mutex).Lock", "internal/race.Disable", "sync/atomic.CompareAndSwapInt32", "internal/race.Enable", "internal/race.Acquire", "(*internal/sync.Mutex).lockSlow", "internal/sync.runtime_canSpin", "internal/sync.runtime_doSpin", "internal/sync.throw", "internal/sync.runtime_nanotime", "internal/sync.runtime_SemacquireMutex", "sync/atomic.AddInt32", "(*internal/sync.Mutex).Unlock", "internal/race.ReleaseMerge", "(*internal/sync.Mutex).unlockSlow", "internal/sync.fatal", "internal/sync.runtime_Semrelease"], unfollowed := true, recurses := true, apart := false }
def FnMirroredSaid : Prop := fnMirroredRow.holds Try.pinned (OpenSpec.ofChange fnMirroredSpec)

/-- ITS FALSE NEIGHBOUR: 'it returns false'. Refute it at one input. -/
def fnMirroredWrong : ChangeSpec := { name := "fnMirrored", fn := fun _ => fun
  | [d1, d2] => { results := [.lit (.bool false)], args := [d1, d2] }
  | _ => none }
def FnMirroredWrongFalsely : Prop := fnMirroredRow.holds Try.pinned (OpenSpec.ofChange fnMirroredWrong)

/-- 'laws.FnMoved': WHATEVER THE INPUT: true; the input reads as it did. -/
def fnMovedSpec : ChangeSpec := { name := "fnMoved", fn := fun _ => fun
  | [d1, d2, d3] => { results := [.lit (.bool true)], args := [d1, d2, d3] }
  | _ => none }
def fnMovedRow : OpenClaim := { program := "ytnnembkganlbpaa", sum := "9d635c25f4202d5587ef21031a3375f8901fa93d307ceed11c3f69b53a7af148", func := "loop.example/pub-g01443/laws.FnMoved", spec := "fnMoved", inPlace := ["(*internal/sync.Mutex).Lock", "internal/race.Disable", "sync/atomic.CompareAndSwapInt32", "internal/race.Enable", "internal/race.Acquire", "(*internal/sync.Mutex).lockSlow", "internal/sync.runtime_canSpin", "internal/sync.runtime_doSpin", "internal/sync.throw", "internal/sync.runtime_nanotime", "internal/sync.runtime_SemacquireMutex", "sync/atomic.AddInt32", "(*internal/sync.Mutex).Unlock", "internal/race.ReleaseMerge", "(*internal/sync.Mutex).unlockSlow", "internal/sync.fatal", "internal/sync.runtime_Semrelease"], unfollowed := true, recurses := true, apart := false }
def FnMovedSaid : Prop := fnMovedRow.holds Try.pinned (OpenSpec.ofChange fnMovedSpec)

/-- ITS FALSE NEIGHBOUR: 'it returns false'. Refute it at one input. -/
def fnMovedWrong : ChangeSpec := { name := "fnMoved", fn := fun _ => fun
  | [d1, d2, d3] => { results := [.lit (.bool false)], args := [d1, d2, d3] }
  | _ => none }
def FnMovedWrongFalsely : Prop := fnMovedRow.holds Try.pinned (OpenSpec.ofChange fnMovedWrong)

/-- 'laws.FnPutTwice': WHATEVER THE INPUT: true; the input reads as it did. -/
def fnPutTwiceSpec : ChangeSpec := { name := "fnPutTwice", fn := fun _ => fun
  | [d1, d2, d3, d4, d5] => { results := [.lit (.bool true)], args := [d1, d2, d3, d4, d5] }
  | _ => none }
def fnPutTwiceRow : OpenClaim := { program := "ytnnembkganlbpaa", sum := "9d635c25f4202d5587ef21031a3375f8901fa93d307ceed11c3f69b53a7af148", func := "loop.example/pub-g01443/laws.FnPutTwice", spec := "fnPutTwice", inPlace := ["(*internal/sync.Mutex).Lock", "internal/race.Disable", "sync/atomic.CompareAndSwapInt32", "internal/race.Enable", "internal/race.Acquire", "(*internal/sync.Mutex).lockSlow", "internal/sync.runtime_canSpin", "internal/sync.runtime_doSpin", "internal/sync.throw", "internal/sync.runtime_nanotime", "internal/sync.runtime_SemacquireMutex", "sync/atomic.AddInt32", "(*internal/sync.Mutex).Unlock", "internal/race.ReleaseMerge", "(*internal/sync.Mutex).unlockSlow", "internal/sync.fatal", "internal/sync.runtime_Semrelease"], unfollowed := true, recurses := true, apart := false }
def FnPutTwiceSaid : Prop := fnPutTwiceRow.holds Try.pinned (OpenSpec.ofChange fnPutTwiceSpec)

/-- ITS FALSE NEIGHBOUR: 'it returns false'. Refute it at one input. -/
def fnPutTwiceWrong : ChangeSpec := { name := "fnPutTwice", fn := fun _ => fun
  | [d1, d2, d3, d4, d5] => { results := [.lit (.bool false)], args := [d1, d2, d3, d4, d5] }
  | _ => none }
def FnPutTwiceWrongFalsely : Prop := fnPutTwiceRow.holds Try.pinned (OpenSpec.ofChange fnPutTwiceWrong)

/-- 'laws.FnRises': WHATEVER THE INPUT: true; the input reads as it did. -/
def fnRisesSpec : ChangeSpec := { name := "fnRises", fn := fun _ => fun
  | [d1, d2] => { results := [.lit (.bool true)], args := [d1, d2] }
  | _ => none }
def fnRisesRow : OpenClaim := { program := "ytnnembkganlbpaa", sum := "9d635c25f4202d5587ef21031a3375f8901fa93d307ceed11c3f69b53a7af148", func := "loop.example/pub-g01443/laws.FnRises", spec := "fnRises", inPlace := ["(*internal/sync.Mutex).Lock", "internal/race.Disable", "sync/atomic.CompareAndSwapInt32", "internal/race.Enable", "internal/race.Acquire", "(*internal/sync.Mutex).lockSlow", "internal/sync.runtime_canSpin", "internal/sync.runtime_doSpin", "internal/sync.throw", "internal/sync.runtime_nanotime", "internal/sync.runtime_SemacquireMutex", "sync/atomic.AddInt32", "(*internal/sync.Mutex).Unlock", "internal/race.ReleaseMerge", "(*internal/sync.Mutex).unlockSlow", "internal/sync.fatal", "internal/sync.runtime_Semrelease"], unfollowed := true, recurses := true, apart := false }
def FnRisesSaid : Prop := fnRisesRow.holds Try.pinned (OpenSpec.ofChange fnRisesSpec)

/-- ITS FALSE NEIGHBOUR: 'it returns false'. Refute it at one input. -/
def fnRisesWrong : ChangeSpec := { name := "fnRises", fn := fun _ => fun
  | [d1, d2] => { results := [.lit (.bool false)], args := [d1, d2] }
  | _ => none }
def FnRisesWrongFalsely : Prop := fnRisesRow.holds Try.pinned (OpenSpec.ofChange fnRisesWrong)

/-- 'laws.FnSorted': WHATEVER THE INPUT: true; the input reads as it did. -/
def fnSortedSpec : ChangeSpec := { name := "fnSorted", fn := fun _ => fun
  | [d1, d2] => { results := [.lit (.bool true)], args := [d1, d2] }
  | _ => none }
def fnSortedRow : OpenClaim := { program := "ytnnembkganlbpaa", sum := "9d635c25f4202d5587ef21031a3375f8901fa93d307ceed11c3f69b53a7af148", func := "loop.example/pub-g01443/laws.FnSorted", spec := "fnSorted", inPlace := ["(*internal/sync.Mutex).Lock", "internal/race.Disable", "sync/atomic.CompareAndSwapInt32", "internal/race.Enable", "internal/race.Acquire", "(*internal/sync.Mutex).lockSlow", "internal/sync.runtime_canSpin", "internal/sync.runtime_doSpin", "internal/sync.throw", "internal/sync.runtime_nanotime", "internal/sync.runtime_SemacquireMutex", "sync/atomic.AddInt32", "(*internal/sync.Mutex).Unlock", "internal/race.ReleaseMerge", "(*internal/sync.Mutex).unlockSlow", "internal/sync.fatal", "internal/sync.runtime_Semrelease"], unfollowed := true, recurses := true, apart := false }
def FnSortedSaid : Prop := fnSortedRow.holds Try.pinned (OpenSpec.ofChange fnSortedSpec)

/-- ITS FALSE NEIGHBOUR: 'it returns false'. Refute it at one input. -/
def fnSortedWrong : ChangeSpec := { name := "fnSorted", fn := fun _ => fun
  | [d1, d2] => { results := [.lit (.bool false)], args := [d1, d2] }
  | _ => none }
def FnSortedWrongFalsely : Prop := fnSortedRow.holds Try.pinned (OpenSpec.ofChange fnSortedWrong)

/-- 'laws.FnTaken': WHATEVER THE INPUT: true; the input reads as it did. -/
def fnTakenSpec : ChangeSpec := { name := "fnTaken", fn := fun _ => fun
  | [d1, d2, d3] => { results := [.lit (.bool true)], args := [d1, d2, d3] }
  | _ => none }
def fnTakenRow : OpenClaim := { program := "ytnnembkganlbpaa", sum := "9d635c25f4202d5587ef21031a3375f8901fa93d307ceed11c3f69b53a7af148", func := "loop.example/pub-g01443/laws.FnTaken", spec := "fnTaken", inPlace := ["(*internal/sync.Mutex).Lock", "internal/race.Disable", "sync/atomic.CompareAndSwapInt32", "internal/race.Enable", "internal/race.Acquire", "(*internal/sync.Mutex).lockSlow", "internal/sync.runtime_canSpin", "internal/sync.runtime_doSpin", "internal/sync.throw", "internal/sync.runtime_nanotime", "internal/sync.runtime_SemacquireMutex", "sync/atomic.AddInt32", "(*internal/sync.Mutex).Unlock", "internal/race.ReleaseMerge", "(*internal/sync.Mutex).unlockSlow", "internal/sync.fatal", "internal/sync.runtime_Semrelease"], unfollowed := true, recurses := true, apart := false }
def FnTakenSaid : Prop := fnTakenRow.holds Try.pinned (OpenSpec.ofChange fnTakenSpec)

/-- ITS FALSE NEIGHBOUR: 'it returns false'. Refute it at one input. -/
def fnTakenWrong : ChangeSpec := { name := "fnTaken", fn := fun _ => fun
  | [d1, d2, d3] => { results := [.lit (.bool false)], args := [d1, d2, d3] }
  | _ => none }
def FnTakenWrongFalsely : Prop := fnTakenRow.holds Try.pinned (OpenSpec.ofChange fnTakenWrong)

/-- 'laws.FnUndone': WHATEVER THE INPUT: true; the input reads as it did. -/
def fnUndoneSpec : ChangeSpec := { name := "fnUndone", fn := fun _ => fun
  | [d1, d2, d3] => { results := [.lit (.bool true)], args := [d1, d2, d3] }
  | _ => none }
def fnUndoneRow : OpenClaim := { program := "ytnnembkganlbpaa", sum := "9d635c25f4202d5587ef21031a3375f8901fa93d307ceed11c3f69b53a7af148", func := "loop.example/pub-g01443/laws.FnUndone", spec := "fnUndone", inPlace := ["(*internal/sync.Mutex).Lock", "internal/race.Disable", "sync/atomic.CompareAndSwapInt32", "internal/race.Enable", "internal/race.Acquire", "(*internal/sync.Mutex).lockSlow", "internal/sync.runtime_canSpin", "internal/sync.runtime_doSpin", "internal/sync.throw", "internal/sync.runtime_nanotime", "internal/sync.runtime_SemacquireMutex", "sync/atomic.AddInt32", "(*internal/sync.Mutex).Unlock", "internal/race.ReleaseMerge", "(*internal/sync.Mutex).unlockSlow", "internal/sync.fatal", "internal/sync.runtime_Semrelease"], unfollowed := true, recurses := true, apart := false }
def FnUndoneSaid : Prop := fnUndoneRow.holds Try.pinned (OpenSpec.ofChange fnUndoneSpec)

/-- ITS FALSE NEIGHBOUR: 'it returns false'. Refute it at one input. -/
def fnUndoneWrong : ChangeSpec := { name := "fnUndone", fn := fun _ => fun
  | [d1, d2, d3] => { results := [.lit (.bool false)], args := [d1, d2, d3] }
  | _ => none }
def FnUndoneWrongFalsely : Prop := fnUndoneRow.holds Try.pinned (OpenSpec.ofChange fnUndoneWrong)

/-- 'laws.FnCleared': WHATEVER THE INPUT: true; the input reads as it did. -/
def fnClearedSpec : ChangeSpec := { name := "fnCleared", fn := fun _ => fun
  | [d1, d2, d3, d4, d5] => { results := [.lit (.bool true)], args := [d1, d2, d3, d4, d5] }
  | _ => none }
def fnClearedRow : OpenClaim := { program := "ytnnembkganlbpaa", sum := "9d635c25f4202d5587ef21031a3375f8901fa93d307ceed11c3f69b53a7af148", func := "loop.example/pub-g01443/laws.FnCleared", spec := "fnCleared", inPlace := ["(*internal/sync.Mutex).Lock", "internal/race.Disable", "sync/atomic.CompareAndSwapInt32", "internal/race.Enable", "internal/race.Acquire", "(*internal/sync.Mutex).lockSlow", "internal/sync.runtime_canSpin", "internal/sync.runtime_doSpin", "internal/sync.throw", "internal/sync.runtime_nanotime", "internal/sync.runtime_SemacquireMutex", "sync/atomic.AddInt32", "(*internal/sync.Mutex).Unlock", "internal/race.ReleaseMerge", "(*internal/sync.Mutex).unlockSlow", "internal/sync.fatal", "internal/sync.runtime_Semrelease"], unfollowed := true, recurses := true, apart := false }
def FnClearedSaid : Prop := fnClearedRow.holds Try.pinned (OpenSpec.ofChange fnClearedSpec)

/-- ITS FALSE NEIGHBOUR: 'it returns false'. Refute it at one input. -/
def fnClearedWrong : ChangeSpec := { name := "fnCleared", fn := fun _ => fun
  | [d1, d2, d3, d4, d5] => { results := [.lit (.bool false)], args := [d1, d2, d3, d4, d5] }
  | _ => none }
def FnClearedWrongFalsely : Prop := fnClearedRow.holds Try.pinned (OpenSpec.ofChange fnClearedWrong)

/- THE SECOND FORM. 'bulk': how many values and letters a reading holds, each counted each time it is reached (what is shared counts as often as it is met; a slice's spare places count too). A statement '..UptoSaid' is the law's where the arguments, and the package variables that the reading takes, are together of bulk at most 1048576: NARROWER than '..Said'. Prove '..Said' where nothing that the law and all that it calls make is longer than what came in: it says more and counts as full. Else prove '..UptoSaid'. A law counts once. -/
mutual
def uptoBulk {H : Type} : DataW H → Nat
  | .lit (.string bytes) => bytes.length + 1
  | .lit _ => 1
  | .nil => 1
  | .ptr d => uptoBulk d + 1
  | .slice elems spare => uptoBulkAll elems + uptoBulkAll spare + 1
  | .agg parts => uptoBulkAll parts + 1
  | .iface _ d => uptoBulk d + 1
  | .map entries => uptoBulkEntries entries + 1
  | .held _ => 1
def uptoBulkAll {H : Type} : List (DataW H) → Nat
  | [] => 0
  | d :: r => uptoBulk d + uptoBulkAll r
def uptoBulkEntries {H : Type} : List (Lit × DataW H) → Nat
  | [] => 0
  | x :: r => uptoBulkEntry x + uptoBulkEntries r
def uptoBulkEntry {H : Type} : Lit × DataW H → Nat
  | (.string bytes, d) => bytes.length + uptoBulk d + 1
  | (_, d) => uptoBulk d + 1
 end
def uptoSmall : (H : Type) → List (DataW H) → Bool := fun _ ds => decide (uptoBulkAll ds ≤ 1048576)
def OpenSpec.upto (s : _root_.Go.ChangeSpec) : _root_.Go.OpenSpec := { _root_.Go.OpenSpec.ofChange s with cond := some uptoSmall }

/-- 'laws.FnAnyOrder', WHERE WHAT IT READS IS OF BULK AT MOST 1048576: true; the input reads as it did. -/
def fnAnyOrderUptoRow : OpenClaim := { program := "ytnnembkganlbpaa", sum := "9d635c25f4202d5587ef21031a3375f8901fa93d307ceed11c3f69b53a7af148", func := "loop.example/pub-g01443/laws.FnAnyOrder", spec := "fnAnyOrder", inPlace := ["(*internal/sync.Mutex).Lock", "internal/race.Disable", "sync/atomic.CompareAndSwapInt32", "internal/race.Enable", "internal/race.Acquire", "(*internal/sync.Mutex).lockSlow", "internal/sync.runtime_canSpin", "internal/sync.runtime_doSpin", "internal/sync.throw", "internal/sync.runtime_nanotime", "internal/sync.runtime_SemacquireMutex", "sync/atomic.AddInt32", "(*internal/sync.Mutex).Unlock", "internal/race.ReleaseMerge", "(*internal/sync.Mutex).unlockSlow", "internal/sync.fatal", "internal/sync.runtime_Semrelease"], unfollowed := true, recurses := true, apart := false, narrowed := true }
def FnAnyOrderUptoSaid : Prop := fnAnyOrderUptoRow.holds Try.pinned (OpenSpec.upto fnAnyOrderSpec)

/-- 'laws.FnBetween', WHERE WHAT IT READS IS OF BULK AT MOST 1048576: true; the input reads as it did. -/
def fnBetweenUptoRow : OpenClaim := { program := "ytnnembkganlbpaa", sum := "9d635c25f4202d5587ef21031a3375f8901fa93d307ceed11c3f69b53a7af148", func := "loop.example/pub-g01443/laws.FnBetween", spec := "fnBetween", inPlace := ["(*internal/sync.Mutex).Lock", "internal/race.Disable", "sync/atomic.CompareAndSwapInt32", "internal/race.Enable", "internal/race.Acquire", "(*internal/sync.Mutex).lockSlow", "internal/sync.runtime_canSpin", "internal/sync.runtime_doSpin", "internal/sync.throw", "internal/sync.runtime_nanotime", "internal/sync.runtime_SemacquireMutex", "sync/atomic.AddInt32", "(*internal/sync.Mutex).Unlock", "internal/race.ReleaseMerge", "(*internal/sync.Mutex).unlockSlow", "internal/sync.fatal", "internal/sync.runtime_Semrelease"], unfollowed := true, recurses := true, apart := false, narrowed := true }
def FnBetweenUptoSaid : Prop := fnBetweenUptoRow.holds Try.pinned (OpenSpec.upto fnBetweenSpec)

/-- 'laws.FnCounts', WHERE WHAT IT READS IS OF BULK AT MOST 1048576: true; the input reads as it did. -/
def fnCountsUptoRow : OpenClaim := { program := "ytnnembkganlbpaa", sum := "9d635c25f4202d5587ef21031a3375f8901fa93d307ceed11c3f69b53a7af148", func := "loop.example/pub-g01443/laws.FnCounts", spec := "fnCounts", inPlace := ["(*internal/sync.Mutex).Lock", "internal/race.Disable", "sync/atomic.CompareAndSwapInt32", "internal/race.Enable", "internal/race.Acquire", "(*internal/sync.Mutex).lockSlow", "internal/sync.runtime_canSpin", "internal/sync.runtime_doSpin", "internal/sync.throw", "internal/sync.runtime_nanotime", "internal/sync.runtime_SemacquireMutex", "sync/atomic.AddInt32", "(*internal/sync.Mutex).Unlock", "internal/race.ReleaseMerge", "(*internal/sync.Mutex).unlockSlow", "internal/sync.fatal", "internal/sync.runtime_Semrelease"], unfollowed := true, recurses := true, apart := false, narrowed := true }
def FnCountsUptoSaid : Prop := fnCountsUptoRow.holds Try.pinned (OpenSpec.upto fnCountsSpec)

/-- 'laws.FnCut', WHERE WHAT IT READS IS OF BULK AT MOST 1048576: true; the input reads as it did. -/
def fnCutUptoRow : OpenClaim := { program := "ytnnembkganlbpaa", sum := "9d635c25f4202d5587ef21031a3375f8901fa93d307ceed11c3f69b53a7af148", func := "loop.example/pub-g01443/laws.FnCut", spec := "fnCut", inPlace := ["(*internal/sync.Mutex).Lock", "internal/race.Disable", "sync/atomic.CompareAndSwapInt32", "internal/race.Enable", "internal/race.Acquire", "(*internal/sync.Mutex).lockSlow", "internal/sync.runtime_canSpin", "internal/sync.runtime_doSpin", "internal/sync.throw", "internal/sync.runtime_nanotime", "internal/sync.runtime_SemacquireMutex", "sync/atomic.AddInt32", "(*internal/sync.Mutex).Unlock", "internal/race.ReleaseMerge", "(*internal/sync.Mutex).unlockSlow", "internal/sync.fatal", "internal/sync.runtime_Semrelease"], unfollowed := true, recurses := true, apart := false, narrowed := true }
def FnCutUptoSaid : Prop := fnCutUptoRow.holds Try.pinned (OpenSpec.upto fnCutSpec)

/-- 'laws.FnCutDown', WHERE WHAT IT READS IS OF BULK AT MOST 1048576: true; the input reads as it did. -/
def fnCutDownUptoRow : OpenClaim := { program := "ytnnembkganlbpaa", sum := "9d635c25f4202d5587ef21031a3375f8901fa93d307ceed11c3f69b53a7af148", func := "loop.example/pub-g01443/laws.FnCutDown", spec := "fnCutDown", inPlace := ["(*internal/sync.Mutex).Lock", "internal/race.Disable", "sync/atomic.CompareAndSwapInt32", "internal/race.Enable", "internal/race.Acquire", "(*internal/sync.Mutex).lockSlow", "internal/sync.runtime_canSpin", "internal/sync.runtime_doSpin", "internal/sync.throw", "internal/sync.runtime_nanotime", "internal/sync.runtime_SemacquireMutex", "sync/atomic.AddInt32", "(*internal/sync.Mutex).Unlock", "internal/race.ReleaseMerge", "(*internal/sync.Mutex).unlockSlow", "internal/sync.fatal", "internal/sync.runtime_Semrelease"], unfollowed := true, recurses := true, apart := false, narrowed := true }
def FnCutDownUptoSaid : Prop := fnCutDownUptoRow.holds Try.pinned (OpenSpec.upto fnCutDownSpec)

/-- 'laws.FnDeleted', WHERE WHAT IT READS IS OF BULK AT MOST 1048576: true; the input reads as it did. -/
def fnDeletedUptoRow : OpenClaim := { program := "ytnnembkganlbpaa", sum := "9d635c25f4202d5587ef21031a3375f8901fa93d307ceed11c3f69b53a7af148", func := "loop.example/pub-g01443/laws.FnDeleted", spec := "fnDeleted", inPlace := ["(*internal/sync.Mutex).Lock", "internal/race.Disable", "sync/atomic.CompareAndSwapInt32", "internal/race.Enable", "internal/race.Acquire", "(*internal/sync.Mutex).lockSlow", "internal/sync.runtime_canSpin", "internal/sync.runtime_doSpin", "internal/sync.throw", "internal/sync.runtime_nanotime", "internal/sync.runtime_SemacquireMutex", "sync/atomic.AddInt32", "(*internal/sync.Mutex).Unlock", "internal/race.ReleaseMerge", "(*internal/sync.Mutex).unlockSlow", "internal/sync.fatal", "internal/sync.runtime_Semrelease"], unfollowed := true, recurses := true, apart := false, narrowed := true }
def FnDeletedUptoSaid : Prop := fnDeletedUptoRow.holds Try.pinned (OpenSpec.upto fnDeletedSpec)

/-- 'laws.FnEnds', WHERE WHAT IT READS IS OF BULK AT MOST 1048576: true; the input reads as it did. -/
def fnEndsUptoRow : OpenClaim := { program := "ytnnembkganlbpaa", sum := "9d635c25f4202d5587ef21031a3375f8901fa93d307ceed11c3f69b53a7af148", func := "loop.example/pub-g01443/laws.FnEnds", spec := "fnEnds", inPlace := ["(*internal/sync.Mutex).Lock", "internal/race.Disable", "sync/atomic.CompareAndSwapInt32", "internal/race.Enable", "internal/race.Acquire", "(*internal/sync.Mutex).lockSlow", "internal/sync.runtime_canSpin", "internal/sync.runtime_doSpin", "internal/sync.throw", "internal/sync.runtime_nanotime", "internal/sync.runtime_SemacquireMutex", "sync/atomic.AddInt32", "(*internal/sync.Mutex).Unlock", "internal/race.ReleaseMerge", "(*internal/sync.Mutex).unlockSlow", "internal/sync.fatal", "internal/sync.runtime_Semrelease"], unfollowed := true, recurses := true, apart := false, narrowed := true }
def FnEndsUptoSaid : Prop := fnEndsUptoRow.holds Try.pinned (OpenSpec.upto fnEndsSpec)

/-- 'laws.FnEveryOther', WHERE WHAT IT READS IS OF BULK AT MOST 1048576: true; the input reads as it did. -/
def fnEveryOtherUptoRow : OpenClaim := { program := "ytnnembkganlbpaa", sum := "9d635c25f4202d5587ef21031a3375f8901fa93d307ceed11c3f69b53a7af148", func := "loop.example/pub-g01443/laws.FnEveryOther", spec := "fnEveryOther", inPlace := ["(*internal/sync.Mutex).Lock", "internal/race.Disable", "sync/atomic.CompareAndSwapInt32", "internal/race.Enable", "internal/race.Acquire", "(*internal/sync.Mutex).lockSlow", "internal/sync.runtime_canSpin", "internal/sync.runtime_doSpin", "internal/sync.throw", "internal/sync.runtime_nanotime", "internal/sync.runtime_SemacquireMutex", "sync/atomic.AddInt32", "(*internal/sync.Mutex).Unlock", "internal/race.ReleaseMerge", "(*internal/sync.Mutex).unlockSlow", "internal/sync.fatal", "internal/sync.runtime_Semrelease"], unfollowed := true, recurses := true, apart := false, narrowed := true }
def FnEveryOtherUptoSaid : Prop := fnEveryOtherUptoRow.holds Try.pinned (OpenSpec.upto fnEveryOtherSpec)

/-- 'laws.FnFound', WHERE WHAT IT READS IS OF BULK AT MOST 1048576: true; the input reads as it did. -/
def fnFoundUptoRow : OpenClaim := { program := "ytnnembkganlbpaa", sum := "9d635c25f4202d5587ef21031a3375f8901fa93d307ceed11c3f69b53a7af148", func := "loop.example/pub-g01443/laws.FnFound", spec := "fnFound", inPlace := ["(*internal/sync.Mutex).Lock", "internal/race.Disable", "sync/atomic.CompareAndSwapInt32", "internal/race.Enable", "internal/race.Acquire", "(*internal/sync.Mutex).lockSlow", "internal/sync.runtime_canSpin", "internal/sync.runtime_doSpin", "internal/sync.throw", "internal/sync.runtime_nanotime", "internal/sync.runtime_SemacquireMutex", "sync/atomic.AddInt32", "(*internal/sync.Mutex).Unlock", "internal/race.ReleaseMerge", "(*internal/sync.Mutex).unlockSlow", "internal/sync.fatal", "internal/sync.runtime_Semrelease"], unfollowed := true, recurses := true, apart := false, narrowed := true }
def FnFoundUptoSaid : Prop := fnFoundUptoRow.holds Try.pinned (OpenSpec.upto fnFoundSpec)

/-- 'laws.FnMirrored', WHERE WHAT IT READS IS OF BULK AT MOST 1048576: true; the input reads as it did. -/
def fnMirroredUptoRow : OpenClaim := { program := "ytnnembkganlbpaa", sum := "9d635c25f4202d5587ef21031a3375f8901fa93d307ceed11c3f69b53a7af148", func := "loop.example/pub-g01443/laws.FnMirrored", spec := "fnMirrored", inPlace := ["(*internal/sync.Mutex).Lock", "internal/race.Disable", "sync/atomic.CompareAndSwapInt32", "internal/race.Enable", "internal/race.Acquire", "(*internal/sync.Mutex).lockSlow", "internal/sync.runtime_canSpin", "internal/sync.runtime_doSpin", "internal/sync.throw", "internal/sync.runtime_nanotime", "internal/sync.runtime_SemacquireMutex", "sync/atomic.AddInt32", "(*internal/sync.Mutex).Unlock", "internal/race.ReleaseMerge", "(*internal/sync.Mutex).unlockSlow", "internal/sync.fatal", "internal/sync.runtime_Semrelease"], unfollowed := true, recurses := true, apart := false, narrowed := true }
def FnMirroredUptoSaid : Prop := fnMirroredUptoRow.holds Try.pinned (OpenSpec.upto fnMirroredSpec)

/-- 'laws.FnMoved', WHERE WHAT IT READS IS OF BULK AT MOST 1048576: true; the input reads as it did. -/
def fnMovedUptoRow : OpenClaim := { program := "ytnnembkganlbpaa", sum := "9d635c25f4202d5587ef21031a3375f8901fa93d307ceed11c3f69b53a7af148", func := "loop.example/pub-g01443/laws.FnMoved", spec := "fnMoved", inPlace := ["(*internal/sync.Mutex).Lock", "internal/race.Disable", "sync/atomic.CompareAndSwapInt32", "internal/race.Enable", "internal/race.Acquire", "(*internal/sync.Mutex).lockSlow", "internal/sync.runtime_canSpin", "internal/sync.runtime_doSpin", "internal/sync.throw", "internal/sync.runtime_nanotime", "internal/sync.runtime_SemacquireMutex", "sync/atomic.AddInt32", "(*internal/sync.Mutex).Unlock", "internal/race.ReleaseMerge", "(*internal/sync.Mutex).unlockSlow", "internal/sync.fatal", "internal/sync.runtime_Semrelease"], unfollowed := true, recurses := true, apart := false, narrowed := true }
def FnMovedUptoSaid : Prop := fnMovedUptoRow.holds Try.pinned (OpenSpec.upto fnMovedSpec)

/-- 'laws.FnPutTwice', WHERE WHAT IT READS IS OF BULK AT MOST 1048576: true; the input reads as it did. -/
def fnPutTwiceUptoRow : OpenClaim := { program := "ytnnembkganlbpaa", sum := "9d635c25f4202d5587ef21031a3375f8901fa93d307ceed11c3f69b53a7af148", func := "loop.example/pub-g01443/laws.FnPutTwice", spec := "fnPutTwice", inPlace := ["(*internal/sync.Mutex).Lock", "internal/race.Disable", "sync/atomic.CompareAndSwapInt32", "internal/race.Enable", "internal/race.Acquire", "(*internal/sync.Mutex).lockSlow", "internal/sync.runtime_canSpin", "internal/sync.runtime_doSpin", "internal/sync.throw", "internal/sync.runtime_nanotime", "internal/sync.runtime_SemacquireMutex", "sync/atomic.AddInt32", "(*internal/sync.Mutex).Unlock", "internal/race.ReleaseMerge", "(*internal/sync.Mutex).unlockSlow", "internal/sync.fatal", "internal/sync.runtime_Semrelease"], unfollowed := true, recurses := true, apart := false, narrowed := true }
def FnPutTwiceUptoSaid : Prop := fnPutTwiceUptoRow.holds Try.pinned (OpenSpec.upto fnPutTwiceSpec)

/-- 'laws.FnRises', WHERE WHAT IT READS IS OF BULK AT MOST 1048576: true; the input reads as it did. -/
def fnRisesUptoRow : OpenClaim := { program := "ytnnembkganlbpaa", sum := "9d635c25f4202d5587ef21031a3375f8901fa93d307ceed11c3f69b53a7af148", func := "loop.example/pub-g01443/laws.FnRises", spec := "fnRises", inPlace := ["(*internal/sync.Mutex).Lock", "internal/race.Disable", "sync/atomic.CompareAndSwapInt32", "internal/race.Enable", "internal/race.Acquire", "(*internal/sync.Mutex).lockSlow", "internal/sync.runtime_canSpin", "internal/sync.runtime_doSpin", "internal/sync.throw", "internal/sync.runtime_nanotime", "internal/sync.runtime_SemacquireMutex", "sync/atomic.AddInt32", "(*internal/sync.Mutex).Unlock", "internal/race.ReleaseMerge", "(*internal/sync.Mutex).unlockSlow", "internal/sync.fatal", "internal/sync.runtime_Semrelease"], unfollowed := true, recurses := true, apart := false, narrowed := true }
def FnRisesUptoSaid : Prop := fnRisesUptoRow.holds Try.pinned (OpenSpec.upto fnRisesSpec)

/-- 'laws.FnSorted', WHERE WHAT IT READS IS OF BULK AT MOST 1048576: true; the input reads as it did. -/
def fnSortedUptoRow : OpenClaim := { program := "ytnnembkganlbpaa", sum := "9d635c25f4202d5587ef21031a3375f8901fa93d307ceed11c3f69b53a7af148", func := "loop.example/pub-g01443/laws.FnSorted", spec := "fnSorted", inPlace := ["(*internal/sync.Mutex).Lock", "internal/race.Disable", "sync/atomic.CompareAndSwapInt32", "internal/race.Enable", "internal/race.Acquire", "(*internal/sync.Mutex).lockSlow", "internal/sync.runtime_canSpin", "internal/sync.runtime_doSpin", "internal/sync.throw", "internal/sync.runtime_nanotime", "internal/sync.runtime_SemacquireMutex", "sync/atomic.AddInt32", "(*internal/sync.Mutex).Unlock", "internal/race.ReleaseMerge", "(*internal/sync.Mutex).unlockSlow", "internal/sync.fatal", "internal/sync.runtime_Semrelease"], unfollowed := true, recurses := true, apart := false, narrowed := true }
def FnSortedUptoSaid : Prop := fnSortedUptoRow.holds Try.pinned (OpenSpec.upto fnSortedSpec)

/-- 'laws.FnTaken', WHERE WHAT IT READS IS OF BULK AT MOST 1048576: true; the input reads as it did. -/
def fnTakenUptoRow : OpenClaim := { program := "ytnnembkganlbpaa", sum := "9d635c25f4202d5587ef21031a3375f8901fa93d307ceed11c3f69b53a7af148", func := "loop.example/pub-g01443/laws.FnTaken", spec := "fnTaken", inPlace := ["(*internal/sync.Mutex).Lock", "internal/race.Disable", "sync/atomic.CompareAndSwapInt32", "internal/race.Enable", "internal/race.Acquire", "(*internal/sync.Mutex).lockSlow", "internal/sync.runtime_canSpin", "internal/sync.runtime_doSpin", "internal/sync.throw", "internal/sync.runtime_nanotime", "internal/sync.runtime_SemacquireMutex", "sync/atomic.AddInt32", "(*internal/sync.Mutex).Unlock", "internal/race.ReleaseMerge", "(*internal/sync.Mutex).unlockSlow", "internal/sync.fatal", "internal/sync.runtime_Semrelease"], unfollowed := true, recurses := true, apart := false, narrowed := true }
def FnTakenUptoSaid : Prop := fnTakenUptoRow.holds Try.pinned (OpenSpec.upto fnTakenSpec)

/-- 'laws.FnUndone', WHERE WHAT IT READS IS OF BULK AT MOST 1048576: true; the input reads as it did. -/
def fnUndoneUptoRow : OpenClaim := { program := "ytnnembkganlbpaa", sum := "9d635c25f4202d5587ef21031a3375f8901fa93d307ceed11c3f69b53a7af148", func := "loop.example/pub-g01443/laws.FnUndone", spec := "fnUndone", inPlace := ["(*internal/sync.Mutex).Lock", "internal/race.Disable", "sync/atomic.CompareAndSwapInt32", "internal/race.Enable", "internal/race.Acquire", "(*internal/sync.Mutex).lockSlow", "internal/sync.runtime_canSpin", "internal/sync.runtime_doSpin", "internal/sync.throw", "internal/sync.runtime_nanotime", "internal/sync.runtime_SemacquireMutex", "sync/atomic.AddInt32", "(*internal/sync.Mutex).Unlock", "internal/race.ReleaseMerge", "(*internal/sync.Mutex).unlockSlow", "internal/sync.fatal", "internal/sync.runtime_Semrelease"], unfollowed := true, recurses := true, apart := false, narrowed := true }
def FnUndoneUptoSaid : Prop := fnUndoneUptoRow.holds Try.pinned (OpenSpec.upto fnUndoneSpec)

/-- 'laws.FnCleared', WHERE WHAT IT READS IS OF BULK AT MOST 1048576: true; the input reads as it did. -/
def fnClearedUptoRow : OpenClaim := { program := "ytnnembkganlbpaa", sum := "9d635c25f4202d5587ef21031a3375f8901fa93d307ceed11c3f69b53a7af148", func := "loop.example/pub-g01443/laws.FnCleared", spec := "fnCleared", inPlace := ["(*internal/sync.Mutex).Lock", "internal/race.Disable", "sync/atomic.CompareAndSwapInt32", "internal/race.Enable", "internal/race.Acquire", "(*internal/sync.Mutex).lockSlow", "internal/sync.runtime_canSpin", "internal/sync.runtime_doSpin", "internal/sync.throw", "internal/sync.runtime_nanotime", "internal/sync.runtime_SemacquireMutex", "sync/atomic.AddInt32", "(*internal/sync.Mutex).Unlock", "internal/race.ReleaseMerge", "(*internal/sync.Mutex).unlockSlow", "internal/sync.fatal", "internal/sync.runtime_Semrelease"], unfollowed := true, recurses := true, apart := false, narrowed := true }
def FnClearedUptoSaid : Prop := fnClearedUptoRow.holds Try.pinned (OpenSpec.upto fnClearedSpec)

end Rows
end Go.Proofs.Ytnnembkganlbpaa
