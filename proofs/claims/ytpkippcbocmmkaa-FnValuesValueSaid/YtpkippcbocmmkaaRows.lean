/-
  No cell of these rows narrows 'for every input' (looked for: loops, veiled, ifaces, maps, wideKeys, modest, calm, conditions, laid).
  DERIVED. THE GIVEN ROWS OF THIS SEAT. 15 by the template 'for every input the law returns true; each argument reads behind the call as it read before'; 0 by the template 'total and deterministic' (their statements: YtpkippcbocmmkaaTotals.lean).
  GIVEN WITH THE SEED: the statements are not yours to turn. If you find one false, say at which input.
  Laid BY PROGRAM, IN A SANDBOX (cutbox-rows.mjs): the forced cells as the released guide's own fill.sh prints them over the translation a8ff382556caf739… (all of the seat's roots in one cut). By AI agents, Wed Nov 11 2026. No macro, syntax, notation, axiom, sorry.
-/
import Derived.Test.YtpkippcbocmmkaaChecked
import GoSem.Claim
import GoSem.ClaimJoined
import GoSem.ClaimMapViews
import Derived.JoinedTies
import Derived.KernelRfl
namespace Go.Proofs.Ytpkippcbocmmkaa
/- THE CELL 'sum', in the pinned program and in every row, IS THE sha256 OF THE DUMP (.gsa) THAT YtpkippcbocmmkaaProg.lean LOADS. Nothing in Lean hashes anything: it is a label: what it is worth is what the hold of that sum in a sandbox is worth. -/
noncomputable def Try.pinned : Pinned := { name := "ytpkippcbocmmkaa", sum := "a8ff382556caf73976f81ade79f0771b4b96afb19aab8972a058356f87c8c049", checked := Try.checked }
namespace Rows
def none {H : Type} : Left H := { results := [], args := [] }

/-- 'laws.FnDoAgain': WHATEVER THE INPUT: true; the input reads as it did. -/
def fnDoAgainSpec : ChangeSpec := { name := "fnDoAgain", fn := fun _ => fun
  | [d] => { results := [.lit (.bool true)], args := [d] }
  | _ => none }
def fnDoAgainRow : OpenClaim := { program := "ytpkippcbocmmkaa", sum := "a8ff382556caf73976f81ade79f0771b4b96afb19aab8972a058356f87c8c049", func := "loop.example/lib-g03019/laws.FnDoAgain", spec := "fnDoAgain", inPlace := ["sync/atomic.LoadUint32", "(*internal/sync.Mutex).Lock", "internal/race.Disable", "sync/atomic.CompareAndSwapInt32", "internal/race.Enable", "internal/race.Acquire", "(*internal/sync.Mutex).lockSlow", "internal/sync.runtime_canSpin", "internal/sync.runtime_doSpin", "internal/sync.throw", "internal/sync.runtime_nanotime", "internal/sync.runtime_SemacquireMutex", "sync/atomic.AddInt32", "(*internal/sync.Mutex).Unlock", "internal/race.ReleaseMerge", "(*internal/sync.Mutex).unlockSlow", "internal/sync.fatal", "internal/sync.runtime_Semrelease", "sync/atomic.StoreUint32"], unfollowed := true, recurses := true, apart := false }
def FnDoAgainSaid : Prop := fnDoAgainRow.holds Try.pinned (OpenSpec.ofChange fnDoAgainSpec)

/-- ITS FALSE NEIGHBOUR: 'it returns false'. Refute it at one input. -/
def fnDoAgainWrong : ChangeSpec := { name := "fnDoAgain", fn := fun _ => fun
  | [d] => { results := [.lit (.bool false)], args := [d] }
  | _ => none }
def FnDoAgainWrongFalsely : Prop := fnDoAgainRow.holds Try.pinned (OpenSpec.ofChange fnDoAgainWrong)

/-- 'laws.FnDoApart': WHATEVER THE INPUT: true; the input reads as it did. -/
def fnDoApartSpec : ChangeSpec := { name := "fnDoApart", fn := fun _ => fun
  | [d1, d2] => { results := [.lit (.bool true)], args := [d1, d2] }
  | _ => none }
def fnDoApartRow : OpenClaim := { program := "ytpkippcbocmmkaa", sum := "a8ff382556caf73976f81ade79f0771b4b96afb19aab8972a058356f87c8c049", func := "loop.example/lib-g03019/laws.FnDoApart", spec := "fnDoApart", inPlace := ["sync/atomic.LoadUint32", "(*internal/sync.Mutex).Lock", "internal/race.Disable", "sync/atomic.CompareAndSwapInt32", "internal/race.Enable", "internal/race.Acquire", "(*internal/sync.Mutex).lockSlow", "internal/sync.runtime_canSpin", "internal/sync.runtime_doSpin", "internal/sync.throw", "internal/sync.runtime_nanotime", "internal/sync.runtime_SemacquireMutex", "sync/atomic.AddInt32", "(*internal/sync.Mutex).Unlock", "internal/race.ReleaseMerge", "(*internal/sync.Mutex).unlockSlow", "internal/sync.fatal", "internal/sync.runtime_Semrelease", "sync/atomic.StoreUint32"], unfollowed := true, recurses := true, apart := false }
def FnDoApartSaid : Prop := fnDoApartRow.holds Try.pinned (OpenSpec.ofChange fnDoApartSpec)

/-- ITS FALSE NEIGHBOUR: 'it returns false'. Refute it at one input. -/
def fnDoApartWrong : ChangeSpec := { name := "fnDoApart", fn := fun _ => fun
  | [d1, d2] => { results := [.lit (.bool false)], args := [d1, d2] }
  | _ => none }
def FnDoApartWrongFalsely : Prop := fnDoApartRow.holds Try.pinned (OpenSpec.ofChange fnDoApartWrong)

/-- 'laws.FnDoFront': WHATEVER THE INPUT: true; the input reads as it did. -/
def fnDoFrontSpec : ChangeSpec := { name := "fnDoFront", fn := fun _ => fun
  | [d1, d2] => { results := [.lit (.bool true)], args := [d1, d2] }
  | _ => none }
def fnDoFrontRow : OpenClaim := { program := "ytpkippcbocmmkaa", sum := "a8ff382556caf73976f81ade79f0771b4b96afb19aab8972a058356f87c8c049", func := "loop.example/lib-g03019/laws.FnDoFront", spec := "fnDoFront", inPlace := ["sync/atomic.LoadUint32", "(*internal/sync.Mutex).Lock", "internal/race.Disable", "sync/atomic.CompareAndSwapInt32", "internal/race.Enable", "internal/race.Acquire", "(*internal/sync.Mutex).lockSlow", "internal/sync.runtime_canSpin", "internal/sync.runtime_doSpin", "internal/sync.throw", "internal/sync.runtime_nanotime", "internal/sync.runtime_SemacquireMutex", "sync/atomic.AddInt32", "(*internal/sync.Mutex).Unlock", "internal/race.ReleaseMerge", "(*internal/sync.Mutex).unlockSlow", "internal/sync.fatal", "internal/sync.runtime_Semrelease", "sync/atomic.StoreUint32"], unfollowed := true, recurses := true, apart := false }
def FnDoFrontSaid : Prop := fnDoFrontRow.holds Try.pinned (OpenSpec.ofChange fnDoFrontSpec)

/-- ITS FALSE NEIGHBOUR: 'it returns false'. Refute it at one input. -/
def fnDoFrontWrong : ChangeSpec := { name := "fnDoFront", fn := fun _ => fun
  | [d1, d2] => { results := [.lit (.bool false)], args := [d1, d2] }
  | _ => none }
def FnDoFrontWrongFalsely : Prop := fnDoFrontRow.holds Try.pinned (OpenSpec.ofChange fnDoFrontWrong)

/-- 'laws.FnDoInner': WHATEVER THE INPUT: true; the input reads as it did. -/
def fnDoInnerSpec : ChangeSpec := { name := "fnDoInner", fn := fun _ => fun
  | [d1, d2] => { results := [.lit (.bool true)], args := [d1, d2] }
  | _ => none }
def fnDoInnerRow : OpenClaim := { program := "ytpkippcbocmmkaa", sum := "a8ff382556caf73976f81ade79f0771b4b96afb19aab8972a058356f87c8c049", func := "loop.example/lib-g03019/laws.FnDoInner", spec := "fnDoInner", inPlace := ["sync/atomic.LoadUint32", "(*internal/sync.Mutex).Lock", "internal/race.Disable", "sync/atomic.CompareAndSwapInt32", "internal/race.Enable", "internal/race.Acquire", "(*internal/sync.Mutex).lockSlow", "internal/sync.runtime_canSpin", "internal/sync.runtime_doSpin", "internal/sync.throw", "internal/sync.runtime_nanotime", "internal/sync.runtime_SemacquireMutex", "sync/atomic.AddInt32", "(*internal/sync.Mutex).Unlock", "internal/race.ReleaseMerge", "(*internal/sync.Mutex).unlockSlow", "internal/sync.fatal", "internal/sync.runtime_Semrelease", "sync/atomic.StoreUint32"], unfollowed := true, recurses := true, apart := false }
def FnDoInnerSaid : Prop := fnDoInnerRow.holds Try.pinned (OpenSpec.ofChange fnDoInnerSpec)

/-- ITS FALSE NEIGHBOUR: 'it returns false'. Refute it at one input. -/
def fnDoInnerWrong : ChangeSpec := { name := "fnDoInner", fn := fun _ => fun
  | [d1, d2] => { results := [.lit (.bool false)], args := [d1, d2] }
  | _ => none }
def FnDoInnerWrongFalsely : Prop := fnDoInnerRow.holds Try.pinned (OpenSpec.ofChange fnDoInnerWrong)

/-- 'laws.FnDoOnce': WHATEVER THE INPUT: true; the input reads as it did. -/
def fnDoOnceSpec : ChangeSpec := { name := "fnDoOnce", fn := fun _ => fun
  | [d] => { results := [.lit (.bool true)], args := [d] }
  | _ => none }
def fnDoOnceRow : OpenClaim := { program := "ytpkippcbocmmkaa", sum := "a8ff382556caf73976f81ade79f0771b4b96afb19aab8972a058356f87c8c049", func := "loop.example/lib-g03019/laws.FnDoOnce", spec := "fnDoOnce", inPlace := ["sync/atomic.LoadUint32", "(*internal/sync.Mutex).Lock", "internal/race.Disable", "sync/atomic.CompareAndSwapInt32", "internal/race.Enable", "internal/race.Acquire", "(*internal/sync.Mutex).lockSlow", "internal/sync.runtime_canSpin", "internal/sync.runtime_doSpin", "internal/sync.throw", "internal/sync.runtime_nanotime", "internal/sync.runtime_SemacquireMutex", "sync/atomic.AddInt32", "(*internal/sync.Mutex).Unlock", "internal/race.ReleaseMerge", "(*internal/sync.Mutex).unlockSlow", "internal/sync.fatal", "internal/sync.runtime_Semrelease", "sync/atomic.StoreUint32"], unfollowed := true, recurses := true, apart := false }
def FnDoOnceSaid : Prop := fnDoOnceRow.holds Try.pinned (OpenSpec.ofChange fnDoOnceSpec)

/-- ITS FALSE NEIGHBOUR: 'it returns false'. Refute it at one input. -/
def fnDoOnceWrong : ChangeSpec := { name := "fnDoOnce", fn := fun _ => fun
  | [d] => { results := [.lit (.bool false)], args := [d] }
  | _ => none }
def FnDoOnceWrongFalsely : Prop := fnDoOnceRow.holds Try.pinned (OpenSpec.ofChange fnDoOnceWrong)

/-- 'laws.FnDoPanics': WHATEVER THE INPUT: true; the input reads as it did. -/
def fnDoPanicsSpec : ChangeSpec := { name := "fnDoPanics", fn := fun _ => fun
  | [d] => { results := [.lit (.bool true)], args := [d] }
  | _ => none }
def fnDoPanicsRow : OpenClaim := { program := "ytpkippcbocmmkaa", sum := "a8ff382556caf73976f81ade79f0771b4b96afb19aab8972a058356f87c8c049", func := "loop.example/lib-g03019/laws.FnDoPanics", spec := "fnDoPanics", inPlace := ["sync/atomic.LoadUint32", "(*internal/sync.Mutex).Lock", "internal/race.Disable", "sync/atomic.CompareAndSwapInt32", "internal/race.Enable", "internal/race.Acquire", "(*internal/sync.Mutex).lockSlow", "internal/sync.runtime_canSpin", "internal/sync.runtime_doSpin", "internal/sync.throw", "internal/sync.runtime_nanotime", "internal/sync.runtime_SemacquireMutex", "sync/atomic.AddInt32", "(*internal/sync.Mutex).Unlock", "internal/race.ReleaseMerge", "(*internal/sync.Mutex).unlockSlow", "internal/sync.fatal", "internal/sync.runtime_Semrelease", "sync/atomic.StoreUint32"], unfollowed := true, recurses := true, apart := false }
def FnDoPanicsSaid : Prop := fnDoPanicsRow.holds Try.pinned (OpenSpec.ofChange fnDoPanicsSpec)

/-- ITS FALSE NEIGHBOUR: 'it returns false'. Refute it at one input. -/
def fnDoPanicsWrong : ChangeSpec := { name := "fnDoPanics", fn := fun _ => fun
  | [d] => { results := [.lit (.bool false)], args := [d] }
  | _ => none }
def FnDoPanicsWrongFalsely : Prop := fnDoPanicsRow.holds Try.pinned (OpenSpec.ofChange fnDoPanicsWrong)

/-- 'laws.FnExactDo': WHATEVER THE INPUT: true; the input reads as it did. -/
def fnExactDoSpec : ChangeSpec := { name := "fnExactDo", fn := fun _ => fun
  | [d] => { results := [.lit (.bool true)], args := [d] }
  | _ => none }
def fnExactDoRow : OpenClaim := { program := "ytpkippcbocmmkaa", sum := "a8ff382556caf73976f81ade79f0771b4b96afb19aab8972a058356f87c8c049", func := "loop.example/lib-g03019/laws.FnExactDo", spec := "fnExactDo", inPlace := ["sync/atomic.LoadUint32", "(*internal/sync.Mutex).Lock", "internal/race.Disable", "sync/atomic.CompareAndSwapInt32", "internal/race.Enable", "internal/race.Acquire", "(*internal/sync.Mutex).lockSlow", "internal/sync.runtime_canSpin", "internal/sync.runtime_doSpin", "internal/sync.throw", "internal/sync.runtime_nanotime", "internal/sync.runtime_SemacquireMutex", "sync/atomic.AddInt32", "(*internal/sync.Mutex).Unlock", "internal/race.ReleaseMerge", "(*internal/sync.Mutex).unlockSlow", "internal/sync.fatal", "internal/sync.runtime_Semrelease", "sync/atomic.StoreUint32"], unfollowed := true, recurses := true, apart := false }
def FnExactDoSaid : Prop := fnExactDoRow.holds Try.pinned (OpenSpec.ofChange fnExactDoSpec)

/-- ITS FALSE NEIGHBOUR: 'it returns false'. Refute it at one input. -/
def fnExactDoWrong : ChangeSpec := { name := "fnExactDo", fn := fun _ => fun
  | [d] => { results := [.lit (.bool false)], args := [d] }
  | _ => none }
def FnExactDoWrongFalsely : Prop := fnExactDoRow.holds Try.pinned (OpenSpec.ofChange fnExactDoWrong)

/-- 'laws.FnFuncIs': WHATEVER THE INPUT: true; the input reads as it did. -/
def fnFuncIsSpec : ChangeSpec := { name := "fnFuncIs", fn := fun _ => fun
  | [d1, d2] => { results := [.lit (.bool true)], args := [d1, d2] }
  | _ => none }
def fnFuncIsRow : OpenClaim := { program := "ytpkippcbocmmkaa", sum := "a8ff382556caf73976f81ade79f0771b4b96afb19aab8972a058356f87c8c049", func := "loop.example/lib-g03019/laws.FnFuncIs", spec := "fnFuncIs", inPlace := ["sync/atomic.LoadUint32", "(*internal/sync.Mutex).Lock", "internal/race.Disable", "sync/atomic.CompareAndSwapInt32", "internal/race.Enable", "internal/race.Acquire", "(*internal/sync.Mutex).lockSlow", "internal/sync.runtime_canSpin", "internal/sync.runtime_doSpin", "internal/sync.throw", "internal/sync.runtime_nanotime", "internal/sync.runtime_SemacquireMutex", "sync/atomic.AddInt32", "(*internal/sync.Mutex).Unlock", "internal/race.ReleaseMerge", "(*internal/sync.Mutex).unlockSlow", "internal/sync.fatal", "internal/sync.runtime_Semrelease", "sync/atomic.StoreUint32"], unfollowed := true, recurses := true, apart := false }
def FnFuncIsSaid : Prop := fnFuncIsRow.holds Try.pinned (OpenSpec.ofChange fnFuncIsSpec)

/-- ITS FALSE NEIGHBOUR: 'it returns false'. Refute it at one input. -/
def fnFuncIsWrong : ChangeSpec := { name := "fnFuncIs", fn := fun _ => fun
  | [d1, d2] => { results := [.lit (.bool false)], args := [d1, d2] }
  | _ => none }
def FnFuncIsWrongFalsely : Prop := fnFuncIsRow.holds Try.pinned (OpenSpec.ofChange fnFuncIsWrong)

/-- 'laws.FnFuncSame': WHATEVER THE INPUT: true; the input reads as it did. -/
def fnFuncSameSpec : ChangeSpec := { name := "fnFuncSame", fn := fun _ => fun
  | [d1, d2] => { results := [.lit (.bool true)], args := [d1, d2] }
  | _ => none }
def fnFuncSameRow : OpenClaim := { program := "ytpkippcbocmmkaa", sum := "a8ff382556caf73976f81ade79f0771b4b96afb19aab8972a058356f87c8c049", func := "loop.example/lib-g03019/laws.FnFuncSame", spec := "fnFuncSame", inPlace := ["sync/atomic.LoadUint32", "(*internal/sync.Mutex).Lock", "internal/race.Disable", "sync/atomic.CompareAndSwapInt32", "internal/race.Enable", "internal/race.Acquire", "(*internal/sync.Mutex).lockSlow", "internal/sync.runtime_canSpin", "internal/sync.runtime_doSpin", "internal/sync.throw", "internal/sync.runtime_nanotime", "internal/sync.runtime_SemacquireMutex", "sync/atomic.AddInt32", "(*internal/sync.Mutex).Unlock", "internal/race.ReleaseMerge", "(*internal/sync.Mutex).unlockSlow", "internal/sync.fatal", "internal/sync.runtime_Semrelease", "sync/atomic.StoreUint32"], unfollowed := true, recurses := true, apart := false }
def FnFuncSameSaid : Prop := fnFuncSameRow.holds Try.pinned (OpenSpec.ofChange fnFuncSameSpec)

/-- ITS FALSE NEIGHBOUR: 'it returns false'. Refute it at one input. -/
def fnFuncSameWrong : ChangeSpec := { name := "fnFuncSame", fn := fun _ => fun
  | [d1, d2] => { results := [.lit (.bool false)], args := [d1, d2] }
  | _ => none }
def FnFuncSameWrongFalsely : Prop := fnFuncSameRow.holds Try.pinned (OpenSpec.ofChange fnFuncSameWrong)

/-- 'laws.FnValueIs': WHATEVER THE INPUT: true; the input reads as it did. -/
def fnValueIsSpec : ChangeSpec := { name := "fnValueIs", fn := fun _ => fun
  | [d1, d2] => { results := [.lit (.bool true)], args := [d1, d2] }
  | _ => none }
def fnValueIsRow : OpenClaim := { program := "ytpkippcbocmmkaa", sum := "a8ff382556caf73976f81ade79f0771b4b96afb19aab8972a058356f87c8c049", func := "loop.example/lib-g03019/laws.FnValueIs", spec := "fnValueIs", inPlace := ["sync/atomic.LoadUint32", "(*internal/sync.Mutex).Lock", "internal/race.Disable", "sync/atomic.CompareAndSwapInt32", "internal/race.Enable", "internal/race.Acquire", "(*internal/sync.Mutex).lockSlow", "internal/sync.runtime_canSpin", "internal/sync.runtime_doSpin", "internal/sync.throw", "internal/sync.runtime_nanotime", "internal/sync.runtime_SemacquireMutex", "sync/atomic.AddInt32", "(*internal/sync.Mutex).Unlock", "internal/race.ReleaseMerge", "(*internal/sync.Mutex).unlockSlow", "internal/sync.fatal", "internal/sync.runtime_Semrelease", "sync/atomic.StoreUint32"], unfollowed := true, recurses := true, apart := false }
def FnValueIsSaid : Prop := fnValueIsRow.holds Try.pinned (OpenSpec.ofChange fnValueIsSpec)

/-- ITS FALSE NEIGHBOUR: 'it returns false'. Refute it at one input. -/
def fnValueIsWrong : ChangeSpec := { name := "fnValueIs", fn := fun _ => fun
  | [d1, d2] => { results := [.lit (.bool false)], args := [d1, d2] }
  | _ => none }
def FnValueIsWrongFalsely : Prop := fnValueIsRow.holds Try.pinned (OpenSpec.ofChange fnValueIsWrong)

/-- 'laws.FnValuesIs': WHATEVER THE INPUT: true; the input reads as it did. -/
def fnValuesIsSpec : ChangeSpec := { name := "fnValuesIs", fn := fun _ => fun
  | [d1, d2, d3] => { results := [.lit (.bool true)], args := [d1, d2, d3] }
  | _ => none }
def fnValuesIsRow : OpenClaim := { program := "ytpkippcbocmmkaa", sum := "a8ff382556caf73976f81ade79f0771b4b96afb19aab8972a058356f87c8c049", func := "loop.example/lib-g03019/laws.FnValuesIs", spec := "fnValuesIs", inPlace := ["sync/atomic.LoadUint32", "(*internal/sync.Mutex).Lock", "internal/race.Disable", "sync/atomic.CompareAndSwapInt32", "internal/race.Enable", "internal/race.Acquire", "(*internal/sync.Mutex).lockSlow", "internal/sync.runtime_canSpin", "internal/sync.runtime_doSpin", "internal/sync.throw", "internal/sync.runtime_nanotime", "internal/sync.runtime_SemacquireMutex", "sync/atomic.AddInt32", "(*internal/sync.Mutex).Unlock", "internal/race.ReleaseMerge", "(*internal/sync.Mutex).unlockSlow", "internal/sync.fatal", "internal/sync.runtime_Semrelease", "sync/atomic.StoreUint32"], unfollowed := true, recurses := true, apart := false }
def FnValuesIsSaid : Prop := fnValuesIsRow.holds Try.pinned (OpenSpec.ofChange fnValuesIsSpec)

/-- ITS FALSE NEIGHBOUR: 'it returns false'. Refute it at one input. -/
def fnValuesIsWrong : ChangeSpec := { name := "fnValuesIs", fn := fun _ => fun
  | [d1, d2, d3] => { results := [.lit (.bool false)], args := [d1, d2, d3] }
  | _ => none }
def FnValuesIsWrongFalsely : Prop := fnValuesIsRow.holds Try.pinned (OpenSpec.ofChange fnValuesIsWrong)

/-- 'laws.FnFuncDo': WHATEVER THE INPUT: true; the input reads as it did. -/
def fnFuncDoSpec : ChangeSpec := { name := "fnFuncDo", fn := fun _ => fun
  | [d1, d2] => { results := [.lit (.bool true)], args := [d1, d2] }
  | _ => none }
def fnFuncDoRow : OpenClaim := { program := "ytpkippcbocmmkaa", sum := "a8ff382556caf73976f81ade79f0771b4b96afb19aab8972a058356f87c8c049", func := "loop.example/lib-g03019/laws.FnFuncDo", spec := "fnFuncDo", inPlace := ["sync/atomic.LoadUint32", "(*internal/sync.Mutex).Lock", "internal/race.Disable", "sync/atomic.CompareAndSwapInt32", "internal/race.Enable", "internal/race.Acquire", "(*internal/sync.Mutex).lockSlow", "internal/sync.runtime_canSpin", "internal/sync.runtime_doSpin", "internal/sync.throw", "internal/sync.runtime_nanotime", "internal/sync.runtime_SemacquireMutex", "sync/atomic.AddInt32", "(*internal/sync.Mutex).Unlock", "internal/race.ReleaseMerge", "(*internal/sync.Mutex).unlockSlow", "internal/sync.fatal", "internal/sync.runtime_Semrelease", "sync/atomic.StoreUint32"], unfollowed := true, recurses := true, apart := false }
def FnFuncDoSaid : Prop := fnFuncDoRow.holds Try.pinned (OpenSpec.ofChange fnFuncDoSpec)

/-- ITS FALSE NEIGHBOUR: 'it returns false'. Refute it at one input. -/
def fnFuncDoWrong : ChangeSpec := { name := "fnFuncDo", fn := fun _ => fun
  | [d1, d2] => { results := [.lit (.bool false)], args := [d1, d2] }
  | _ => none }
def FnFuncDoWrongFalsely : Prop := fnFuncDoRow.holds Try.pinned (OpenSpec.ofChange fnFuncDoWrong)

/-- 'laws.FnFuncFront': WHATEVER THE INPUT: true; the input reads as it did. -/
def fnFuncFrontSpec : ChangeSpec := { name := "fnFuncFront", fn := fun _ => fun
  | [d1, d2, d3] => { results := [.lit (.bool true)], args := [d1, d2, d3] }
  | _ => none }
def fnFuncFrontRow : OpenClaim := { program := "ytpkippcbocmmkaa", sum := "a8ff382556caf73976f81ade79f0771b4b96afb19aab8972a058356f87c8c049", func := "loop.example/lib-g03019/laws.FnFuncFront", spec := "fnFuncFront", inPlace := ["sync/atomic.LoadUint32", "(*internal/sync.Mutex).Lock", "internal/race.Disable", "sync/atomic.CompareAndSwapInt32", "internal/race.Enable", "internal/race.Acquire", "(*internal/sync.Mutex).lockSlow", "internal/sync.runtime_canSpin", "internal/sync.runtime_doSpin", "internal/sync.throw", "internal/sync.runtime_nanotime", "internal/sync.runtime_SemacquireMutex", "sync/atomic.AddInt32", "(*internal/sync.Mutex).Unlock", "internal/race.ReleaseMerge", "(*internal/sync.Mutex).unlockSlow", "internal/sync.fatal", "internal/sync.runtime_Semrelease", "sync/atomic.StoreUint32"], unfollowed := true, recurses := true, apart := false }
def FnFuncFrontSaid : Prop := fnFuncFrontRow.holds Try.pinned (OpenSpec.ofChange fnFuncFrontSpec)

/-- ITS FALSE NEIGHBOUR: 'it returns false'. Refute it at one input. -/
def fnFuncFrontWrong : ChangeSpec := { name := "fnFuncFront", fn := fun _ => fun
  | [d1, d2, d3] => { results := [.lit (.bool false)], args := [d1, d2, d3] }
  | _ => none }
def FnFuncFrontWrongFalsely : Prop := fnFuncFrontRow.holds Try.pinned (OpenSpec.ofChange fnFuncFrontWrong)

/-- 'laws.FnValueFunc': WHATEVER THE INPUT: true; the input reads as it did. -/
def fnValueFuncSpec : ChangeSpec := { name := "fnValueFunc", fn := fun _ => fun
  | [d1, d2] => { results := [.lit (.bool true)], args := [d1, d2] }
  | _ => none }
def fnValueFuncRow : OpenClaim := { program := "ytpkippcbocmmkaa", sum := "a8ff382556caf73976f81ade79f0771b4b96afb19aab8972a058356f87c8c049", func := "loop.example/lib-g03019/laws.FnValueFunc", spec := "fnValueFunc", inPlace := ["sync/atomic.LoadUint32", "(*internal/sync.Mutex).Lock", "internal/race.Disable", "sync/atomic.CompareAndSwapInt32", "internal/race.Enable", "internal/race.Acquire", "(*internal/sync.Mutex).lockSlow", "internal/sync.runtime_canSpin", "internal/sync.runtime_doSpin", "internal/sync.throw", "internal/sync.runtime_nanotime", "internal/sync.runtime_SemacquireMutex", "sync/atomic.AddInt32", "(*internal/sync.Mutex).Unlock", "internal/race.ReleaseMerge", "(*internal/sync.Mutex).unlockSlow", "internal/sync.fatal", "internal/sync.runtime_Semrelease", "sync/atomic.StoreUint32"], unfollowed := true, recurses := true, apart := false }
def FnValueFuncSaid : Prop := fnValueFuncRow.holds Try.pinned (OpenSpec.ofChange fnValueFuncSpec)

/-- ITS FALSE NEIGHBOUR: 'it returns false'. Refute it at one input. -/
def fnValueFuncWrong : ChangeSpec := { name := "fnValueFunc", fn := fun _ => fun
  | [d1, d2] => { results := [.lit (.bool false)], args := [d1, d2] }
  | _ => none }
def FnValueFuncWrongFalsely : Prop := fnValueFuncRow.holds Try.pinned (OpenSpec.ofChange fnValueFuncWrong)

/-- 'laws.FnValuesValue': WHATEVER THE INPUT: true; the input reads as it did. -/
def fnValuesValueSpec : ChangeSpec := { name := "fnValuesValue", fn := fun _ => fun
  | [d1, d2, d3] => { results := [.lit (.bool true)], args := [d1, d2, d3] }
  | _ => none }
def fnValuesValueRow : OpenClaim := { program := "ytpkippcbocmmkaa", sum := "a8ff382556caf73976f81ade79f0771b4b96afb19aab8972a058356f87c8c049", func := "loop.example/lib-g03019/laws.FnValuesValue", spec := "fnValuesValue", inPlace := ["sync/atomic.LoadUint32", "(*internal/sync.Mutex).Lock", "internal/race.Disable", "sync/atomic.CompareAndSwapInt32", "internal/race.Enable", "internal/race.Acquire", "(*internal/sync.Mutex).lockSlow", "internal/sync.runtime_canSpin", "internal/sync.runtime_doSpin", "internal/sync.throw", "internal/sync.runtime_nanotime", "internal/sync.runtime_SemacquireMutex", "sync/atomic.AddInt32", "(*internal/sync.Mutex).Unlock", "internal/race.ReleaseMerge", "(*internal/sync.Mutex).unlockSlow", "internal/sync.fatal", "internal/sync.runtime_Semrelease", "sync/atomic.StoreUint32"], unfollowed := true, recurses := true, apart := false }
def FnValuesValueSaid : Prop := fnValuesValueRow.holds Try.pinned (OpenSpec.ofChange fnValuesValueSpec)

/-- ITS FALSE NEIGHBOUR: 'it returns false'. Refute it at one input. -/
def fnValuesValueWrong : ChangeSpec := { name := "fnValuesValue", fn := fun _ => fun
  | [d1, d2, d3] => { results := [.lit (.bool false)], args := [d1, d2, d3] }
  | _ => none }
def FnValuesValueWrongFalsely : Prop := fnValuesValueRow.holds Try.pinned (OpenSpec.ofChange fnValuesValueWrong)

/- THE SECOND FORM. 'bulk': how many values and letters a reading holds, each counted each time it is reached (what is shared counts as often as it is met; a slice's spare places count too). A statement '..UptoSaid' is the law's where the arguments, and the package variables that the reading takes, are together of bulk at most 1048576: NARROWER than '..Said'. Prove '..Said' where nothing that the law and all that it calls make is longer than what came in: it says more and counts as full. Else prove '..UptoSaid'. A law counts once. -/
mutual
def uptoBulk {H : Type} : DataW H → Nat
  | .lit (.string bytes) => bytes.length + 1
  | .lit _ => 1
  | .nil => 1
  | .ptr d => uptoBulk d + 1
  | .slice elems spare => uptoBulkAll elems + uptoBulkAll spare + 1
  | .agg parts => uptoBulkAll parts + 1
  | .iface _ d => uptoBulk d + 1
  | .map entries => uptoBulkEntries entries + 1
  | .held _ => 1
def uptoBulkAll {H : Type} : List (DataW H) → Nat
  | [] => 0
  | d :: r => uptoBulk d + uptoBulkAll r
def uptoBulkEntries {H : Type} : List (Lit × DataW H) → Nat
  | [] => 0
  | x :: r => uptoBulkEntry x + uptoBulkEntries r
def uptoBulkEntry {H : Type} : Lit × DataW H → Nat
  | (.string bytes, d) => bytes.length + uptoBulk d + 1
  | (_, d) => uptoBulk d + 1
 end
def uptoSmall : (H : Type) → List (DataW H) → Bool := fun _ ds => decide (uptoBulkAll ds ≤ 1048576)
def OpenSpec.upto (s : _root_.Go.ChangeSpec) : _root_.Go.OpenSpec := { _root_.Go.OpenSpec.ofChange s with cond := some uptoSmall }

/-- 'laws.FnDoAgain', WHERE WHAT IT READS IS OF BULK AT MOST 1048576: true; the input reads as it did. -/
def fnDoAgainUptoRow : OpenClaim := { program := "ytpkippcbocmmkaa", sum := "a8ff382556caf73976f81ade79f0771b4b96afb19aab8972a058356f87c8c049", func := "loop.example/lib-g03019/laws.FnDoAgain", spec := "fnDoAgain", inPlace := ["sync/atomic.LoadUint32", "(*internal/sync.Mutex).Lock", "internal/race.Disable", "sync/atomic.CompareAndSwapInt32", "internal/race.Enable", "internal/race.Acquire", "(*internal/sync.Mutex).lockSlow", "internal/sync.runtime_canSpin", "internal/sync.runtime_doSpin", "internal/sync.throw", "internal/sync.runtime_nanotime", "internal/sync.runtime_SemacquireMutex", "sync/atomic.AddInt32", "(*internal/sync.Mutex).Unlock", "internal/race.ReleaseMerge", "(*internal/sync.Mutex).unlockSlow", "internal/sync.fatal", "internal/sync.runtime_Semrelease", "sync/atomic.StoreUint32"], unfollowed := true, recurses := true, apart := false, narrowed := true }
def FnDoAgainUptoSaid : Prop := fnDoAgainUptoRow.holds Try.pinned (OpenSpec.upto fnDoAgainSpec)

/-- 'laws.FnDoApart', WHERE WHAT IT READS IS OF BULK AT MOST 1048576: true; the input reads as it did. -/
def fnDoApartUptoRow : OpenClaim := { program := "ytpkippcbocmmkaa", sum := "a8ff382556caf73976f81ade79f0771b4b96afb19aab8972a058356f87c8c049", func := "loop.example/lib-g03019/laws.FnDoApart", spec := "fnDoApart", inPlace := ["sync/atomic.LoadUint32", "(*internal/sync.Mutex).Lock", "internal/race.Disable", "sync/atomic.CompareAndSwapInt32", "internal/race.Enable", "internal/race.Acquire", "(*internal/sync.Mutex).lockSlow", "internal/sync.runtime_canSpin", "internal/sync.runtime_doSpin", "internal/sync.throw", "internal/sync.runtime_nanotime", "internal/sync.runtime_SemacquireMutex", "sync/atomic.AddInt32", "(*internal/sync.Mutex).Unlock", "internal/race.ReleaseMerge", "(*internal/sync.Mutex).unlockSlow", "internal/sync.fatal", "internal/sync.runtime_Semrelease", "sync/atomic.StoreUint32"], unfollowed := true, recurses := true, apart := false, narrowed := true }
def FnDoApartUptoSaid : Prop := fnDoApartUptoRow.holds Try.pinned (OpenSpec.upto fnDoApartSpec)

/-- 'laws.FnDoFront', WHERE WHAT IT READS IS OF BULK AT MOST 1048576: true; the input reads as it did. -/
def fnDoFrontUptoRow : OpenClaim := { program := "ytpkippcbocmmkaa", sum := "a8ff382556caf73976f81ade79f0771b4b96afb19aab8972a058356f87c8c049", func := "loop.example/lib-g03019/laws.FnDoFront", spec := "fnDoFront", inPlace := ["sync/atomic.LoadUint32", "(*internal/sync.Mutex).Lock", "internal/race.Disable", "sync/atomic.CompareAndSwapInt32", "internal/race.Enable", "internal/race.Acquire", "(*internal/sync.Mutex).lockSlow", "internal/sync.runtime_canSpin", "internal/sync.runtime_doSpin", "internal/sync.throw", "internal/sync.runtime_nanotime", "internal/sync.runtime_SemacquireMutex", "sync/atomic.AddInt32", "(*internal/sync.Mutex).Unlock", "internal/race.ReleaseMerge", "(*internal/sync.Mutex).unlockSlow", "internal/sync.fatal", "internal/sync.runtime_Semrelease", "sync/atomic.StoreUint32"], unfollowed := true, recurses := true, apart := false, narrowed := true }
def FnDoFrontUptoSaid : Prop := fnDoFrontUptoRow.holds Try.pinned (OpenSpec.upto fnDoFrontSpec)

/-- 'laws.FnDoInner', WHERE WHAT IT READS IS OF BULK AT MOST 1048576: true; the input reads as it did. -/
def fnDoInnerUptoRow : OpenClaim := { program := "ytpkippcbocmmkaa", sum := "a8ff382556caf73976f81ade79f0771b4b96afb19aab8972a058356f87c8c049", func := "loop.example/lib-g03019/laws.FnDoInner", spec := "fnDoInner", inPlace := ["sync/atomic.LoadUint32", "(*internal/sync.Mutex).Lock", "internal/race.Disable", "sync/atomic.CompareAndSwapInt32", "internal/race.Enable", "internal/race.Acquire", "(*internal/sync.Mutex).lockSlow", "internal/sync.runtime_canSpin", "internal/sync.runtime_doSpin", "internal/sync.throw", "internal/sync.runtime_nanotime", "internal/sync.runtime_SemacquireMutex", "sync/atomic.AddInt32", "(*internal/sync.Mutex).Unlock", "internal/race.ReleaseMerge", "(*internal/sync.Mutex).unlockSlow", "internal/sync.fatal", "internal/sync.runtime_Semrelease", "sync/atomic.StoreUint32"], unfollowed := true, recurses := true, apart := false, narrowed := true }
def FnDoInnerUptoSaid : Prop := fnDoInnerUptoRow.holds Try.pinned (OpenSpec.upto fnDoInnerSpec)

/-- 'laws.FnDoOnce', WHERE WHAT IT READS IS OF BULK AT MOST 1048576: true; the input reads as it did. -/
def fnDoOnceUptoRow : OpenClaim := { program := "ytpkippcbocmmkaa", sum := "a8ff382556caf73976f81ade79f0771b4b96afb19aab8972a058356f87c8c049", func := "loop.example/lib-g03019/laws.FnDoOnce", spec := "fnDoOnce", inPlace := ["sync/atomic.LoadUint32", "(*internal/sync.Mutex).Lock", "internal/race.Disable", "sync/atomic.CompareAndSwapInt32", "internal/race.Enable", "internal/race.Acquire", "(*internal/sync.Mutex).lockSlow", "internal/sync.runtime_canSpin", "internal/sync.runtime_doSpin", "internal/sync.throw", "internal/sync.runtime_nanotime", "internal/sync.runtime_SemacquireMutex", "sync/atomic.AddInt32", "(*internal/sync.Mutex).Unlock", "internal/race.ReleaseMerge", "(*internal/sync.Mutex).unlockSlow", "internal/sync.fatal", "internal/sync.runtime_Semrelease", "sync/atomic.StoreUint32"], unfollowed := true, recurses := true, apart := false, narrowed := true }
def FnDoOnceUptoSaid : Prop := fnDoOnceUptoRow.holds Try.pinned (OpenSpec.upto fnDoOnceSpec)

/-- 'laws.FnDoPanics', WHERE WHAT IT READS IS OF BULK AT MOST 1048576: true; the input reads as it did. -/
def fnDoPanicsUptoRow : OpenClaim := { program := "ytpkippcbocmmkaa", sum := "a8ff382556caf73976f81ade79f0771b4b96afb19aab8972a058356f87c8c049", func := "loop.example/lib-g03019/laws.FnDoPanics", spec := "fnDoPanics", inPlace := ["sync/atomic.LoadUint32", "(*internal/sync.Mutex).Lock", "internal/race.Disable", "sync/atomic.CompareAndSwapInt32", "internal/race.Enable", "internal/race.Acquire", "(*internal/sync.Mutex).lockSlow", "internal/sync.runtime_canSpin", "internal/sync.runtime_doSpin", "internal/sync.throw", "internal/sync.runtime_nanotime", "internal/sync.runtime_SemacquireMutex", "sync/atomic.AddInt32", "(*internal/sync.Mutex).Unlock", "internal/race.ReleaseMerge", "(*internal/sync.Mutex).unlockSlow", "internal/sync.fatal", "internal/sync.runtime_Semrelease", "sync/atomic.StoreUint32"], unfollowed := true, recurses := true, apart := false, narrowed := true }
def FnDoPanicsUptoSaid : Prop := fnDoPanicsUptoRow.holds Try.pinned (OpenSpec.upto fnDoPanicsSpec)

/-- 'laws.FnExactDo', WHERE WHAT IT READS IS OF BULK AT MOST 1048576: true; the input reads as it did. -/
def fnExactDoUptoRow : OpenClaim := { program := "ytpkippcbocmmkaa", sum := "a8ff382556caf73976f81ade79f0771b4b96afb19aab8972a058356f87c8c049", func := "loop.example/lib-g03019/laws.FnExactDo", spec := "fnExactDo", inPlace := ["sync/atomic.LoadUint32", "(*internal/sync.Mutex).Lock", "internal/race.Disable", "sync/atomic.CompareAndSwapInt32", "internal/race.Enable", "internal/race.Acquire", "(*internal/sync.Mutex).lockSlow", "internal/sync.runtime_canSpin", "internal/sync.runtime_doSpin", "internal/sync.throw", "internal/sync.runtime_nanotime", "internal/sync.runtime_SemacquireMutex", "sync/atomic.AddInt32", "(*internal/sync.Mutex).Unlock", "internal/race.ReleaseMerge", "(*internal/sync.Mutex).unlockSlow", "internal/sync.fatal", "internal/sync.runtime_Semrelease", "sync/atomic.StoreUint32"], unfollowed := true, recurses := true, apart := false, narrowed := true }
def FnExactDoUptoSaid : Prop := fnExactDoUptoRow.holds Try.pinned (OpenSpec.upto fnExactDoSpec)

/-- 'laws.FnFuncIs', WHERE WHAT IT READS IS OF BULK AT MOST 1048576: true; the input reads as it did. -/
def fnFuncIsUptoRow : OpenClaim := { program := "ytpkippcbocmmkaa", sum := "a8ff382556caf73976f81ade79f0771b4b96afb19aab8972a058356f87c8c049", func := "loop.example/lib-g03019/laws.FnFuncIs", spec := "fnFuncIs", inPlace := ["sync/atomic.LoadUint32", "(*internal/sync.Mutex).Lock", "internal/race.Disable", "sync/atomic.CompareAndSwapInt32", "internal/race.Enable", "internal/race.Acquire", "(*internal/sync.Mutex).lockSlow", "internal/sync.runtime_canSpin", "internal/sync.runtime_doSpin", "internal/sync.throw", "internal/sync.runtime_nanotime", "internal/sync.runtime_SemacquireMutex", "sync/atomic.AddInt32", "(*internal/sync.Mutex).Unlock", "internal/race.ReleaseMerge", "(*internal/sync.Mutex).unlockSlow", "internal/sync.fatal", "internal/sync.runtime_Semrelease", "sync/atomic.StoreUint32"], unfollowed := true, recurses := true, apart := false, narrowed := true }
def FnFuncIsUptoSaid : Prop := fnFuncIsUptoRow.holds Try.pinned (OpenSpec.upto fnFuncIsSpec)

/-- 'laws.FnFuncSame', WHERE WHAT IT READS IS OF BULK AT MOST 1048576: true; the input reads as it did. -/
def fnFuncSameUptoRow : OpenClaim := { program := "ytpkippcbocmmkaa", sum := "a8ff382556caf73976f81ade79f0771b4b96afb19aab8972a058356f87c8c049", func := "loop.example/lib-g03019/laws.FnFuncSame", spec := "fnFuncSame", inPlace := ["sync/atomic.LoadUint32", "(*internal/sync.Mutex).Lock", "internal/race.Disable", "sync/atomic.CompareAndSwapInt32", "internal/race.Enable", "internal/race.Acquire", "(*internal/sync.Mutex).lockSlow", "internal/sync.runtime_canSpin", "internal/sync.runtime_doSpin", "internal/sync.throw", "internal/sync.runtime_nanotime", "internal/sync.runtime_SemacquireMutex", "sync/atomic.AddInt32", "(*internal/sync.Mutex).Unlock", "internal/race.ReleaseMerge", "(*internal/sync.Mutex).unlockSlow", "internal/sync.fatal", "internal/sync.runtime_Semrelease", "sync/atomic.StoreUint32"], unfollowed := true, recurses := true, apart := false, narrowed := true }
def FnFuncSameUptoSaid : Prop := fnFuncSameUptoRow.holds Try.pinned (OpenSpec.upto fnFuncSameSpec)

/-- 'laws.FnValueIs', WHERE WHAT IT READS IS OF BULK AT MOST 1048576: true; the input reads as it did. -/
def fnValueIsUptoRow : OpenClaim := { program := "ytpkippcbocmmkaa", sum := "a8ff382556caf73976f81ade79f0771b4b96afb19aab8972a058356f87c8c049", func := "loop.example/lib-g03019/laws.FnValueIs", spec := "fnValueIs", inPlace := ["sync/atomic.LoadUint32", "(*internal/sync.Mutex).Lock", "internal/race.Disable", "sync/atomic.CompareAndSwapInt32", "internal/race.Enable", "internal/race.Acquire", "(*internal/sync.Mutex).lockSlow", "internal/sync.runtime_canSpin", "internal/sync.runtime_doSpin", "internal/sync.throw", "internal/sync.runtime_nanotime", "internal/sync.runtime_SemacquireMutex", "sync/atomic.AddInt32", "(*internal/sync.Mutex).Unlock", "internal/race.ReleaseMerge", "(*internal/sync.Mutex).unlockSlow", "internal/sync.fatal", "internal/sync.runtime_Semrelease", "sync/atomic.StoreUint32"], unfollowed := true, recurses := true, apart := false, narrowed := true }
def FnValueIsUptoSaid : Prop := fnValueIsUptoRow.holds Try.pinned (OpenSpec.upto fnValueIsSpec)

/-- 'laws.FnValuesIs', WHERE WHAT IT READS IS OF BULK AT MOST 1048576: true; the input reads as it did. -/
def fnValuesIsUptoRow : OpenClaim := { program := "ytpkippcbocmmkaa", sum := "a8ff382556caf73976f81ade79f0771b4b96afb19aab8972a058356f87c8c049", func := "loop.example/lib-g03019/laws.FnValuesIs", spec := "fnValuesIs", inPlace := ["sync/atomic.LoadUint32", "(*internal/sync.Mutex).Lock", "internal/race.Disable", "sync/atomic.CompareAndSwapInt32", "internal/race.Enable", "internal/race.Acquire", "(*internal/sync.Mutex).lockSlow", "internal/sync.runtime_canSpin", "internal/sync.runtime_doSpin", "internal/sync.throw", "internal/sync.runtime_nanotime", "internal/sync.runtime_SemacquireMutex", "sync/atomic.AddInt32", "(*internal/sync.Mutex).Unlock", "internal/race.ReleaseMerge", "(*internal/sync.Mutex).unlockSlow", "internal/sync.fatal", "internal/sync.runtime_Semrelease", "sync/atomic.StoreUint32"], unfollowed := true, recurses := true, apart := false, narrowed := true }
def FnValuesIsUptoSaid : Prop := fnValuesIsUptoRow.holds Try.pinned (OpenSpec.upto fnValuesIsSpec)

/-- 'laws.FnFuncDo', WHERE WHAT IT READS IS OF BULK AT MOST 1048576: true; the input reads as it did. -/
def fnFuncDoUptoRow : OpenClaim := { program := "ytpkippcbocmmkaa", sum := "a8ff382556caf73976f81ade79f0771b4b96afb19aab8972a058356f87c8c049", func := "loop.example/lib-g03019/laws.FnFuncDo", spec := "fnFuncDo", inPlace := ["sync/atomic.LoadUint32", "(*internal/sync.Mutex).Lock", "internal/race.Disable", "sync/atomic.CompareAndSwapInt32", "internal/race.Enable", "internal/race.Acquire", "(*internal/sync.Mutex).lockSlow", "internal/sync.runtime_canSpin", "internal/sync.runtime_doSpin", "internal/sync.throw", "internal/sync.runtime_nanotime", "internal/sync.runtime_SemacquireMutex", "sync/atomic.AddInt32", "(*internal/sync.Mutex).Unlock", "internal/race.ReleaseMerge", "(*internal/sync.Mutex).unlockSlow", "internal/sync.fatal", "internal/sync.runtime_Semrelease", "sync/atomic.StoreUint32"], unfollowed := true, recurses := true, apart := false, narrowed := true }
def FnFuncDoUptoSaid : Prop := fnFuncDoUptoRow.holds Try.pinned (OpenSpec.upto fnFuncDoSpec)

/-- 'laws.FnFuncFront', WHERE WHAT IT READS IS OF BULK AT MOST 1048576: true; the input reads as it did. -/
def fnFuncFrontUptoRow : OpenClaim := { program := "ytpkippcbocmmkaa", sum := "a8ff382556caf73976f81ade79f0771b4b96afb19aab8972a058356f87c8c049", func := "loop.example/lib-g03019/laws.FnFuncFront", spec := "fnFuncFront", inPlace := ["sync/atomic.LoadUint32", "(*internal/sync.Mutex).Lock", "internal/race.Disable", "sync/atomic.CompareAndSwapInt32", "internal/race.Enable", "internal/race.Acquire", "(*internal/sync.Mutex).lockSlow", "internal/sync.runtime_canSpin", "internal/sync.runtime_doSpin", "internal/sync.throw", "internal/sync.runtime_nanotime", "internal/sync.runtime_SemacquireMutex", "sync/atomic.AddInt32", "(*internal/sync.Mutex).Unlock", "internal/race.ReleaseMerge", "(*internal/sync.Mutex).unlockSlow", "internal/sync.fatal", "internal/sync.runtime_Semrelease", "sync/atomic.StoreUint32"], unfollowed := true, recurses := true, apart := false, narrowed := true }
def FnFuncFrontUptoSaid : Prop := fnFuncFrontUptoRow.holds Try.pinned (OpenSpec.upto fnFuncFrontSpec)

/-- 'laws.FnValueFunc', WHERE WHAT IT READS IS OF BULK AT MOST 1048576: true; the input reads as it did. -/
def fnValueFuncUptoRow : OpenClaim := { program := "ytpkippcbocmmkaa", sum := "a8ff382556caf73976f81ade79f0771b4b96afb19aab8972a058356f87c8c049", func := "loop.example/lib-g03019/laws.FnValueFunc", spec := "fnValueFunc", inPlace := ["sync/atomic.LoadUint32", "(*internal/sync.Mutex).Lock", "internal/race.Disable", "sync/atomic.CompareAndSwapInt32", "internal/race.Enable", "internal/race.Acquire", "(*internal/sync.Mutex).lockSlow", "internal/sync.runtime_canSpin", "internal/sync.runtime_doSpin", "internal/sync.throw", "internal/sync.runtime_nanotime", "internal/sync.runtime_SemacquireMutex", "sync/atomic.AddInt32", "(*internal/sync.Mutex).Unlock", "internal/race.ReleaseMerge", "(*internal/sync.Mutex).unlockSlow", "internal/sync.fatal", "internal/sync.runtime_Semrelease", "sync/atomic.StoreUint32"], unfollowed := true, recurses := true, apart := false, narrowed := true }
def FnValueFuncUptoSaid : Prop := fnValueFuncUptoRow.holds Try.pinned (OpenSpec.upto fnValueFuncSpec)

/-- 'laws.FnValuesValue', WHERE WHAT IT READS IS OF BULK AT MOST 1048576: true; the input reads as it did. -/
def fnValuesValueUptoRow : OpenClaim := { program := "ytpkippcbocmmkaa", sum := "a8ff382556caf73976f81ade79f0771b4b96afb19aab8972a058356f87c8c049", func := "loop.example/lib-g03019/laws.FnValuesValue", spec := "fnValuesValue", inPlace := ["sync/atomic.LoadUint32", "(*internal/sync.Mutex).Lock", "internal/race.Disable", "sync/atomic.CompareAndSwapInt32", "internal/race.Enable", "internal/race.Acquire", "(*internal/sync.Mutex).lockSlow", "internal/sync.runtime_canSpin", "internal/sync.runtime_doSpin", "internal/sync.throw", "internal/sync.runtime_nanotime", "internal/sync.runtime_SemacquireMutex", "sync/atomic.AddInt32", "(*internal/sync.Mutex).Unlock", "internal/race.ReleaseMerge", "(*internal/sync.Mutex).unlockSlow", "internal/sync.fatal", "internal/sync.runtime_Semrelease", "sync/atomic.StoreUint32"], unfollowed := true, recurses := true, apart := false, narrowed := true }
def FnValuesValueUptoSaid : Prop := fnValuesValueUptoRow.holds Try.pinned (OpenSpec.upto fnValuesValueSpec)

end Rows
end Go.Proofs.Ytpkippcbocmmkaa
