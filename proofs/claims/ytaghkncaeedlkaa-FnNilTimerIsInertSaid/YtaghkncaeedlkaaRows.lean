/-
  No cell of these rows narrows 'for every input' (looked for: loops, veiled, ifaces, maps, wideKeys, modest, calm, conditions, laid).
  DERIVED. THE GIVEN ROWS OF THIS SEAT. 5 by the template 'for every input the law returns true; each argument reads behind the call as it read before'; 0 by the template 'total and deterministic' (their statements: YtaghkncaeedlkaaTotals.lean).
  GIVEN WITH THE SEED: the statements are not yours to turn. If you find one false, say at which input.
  Laid BY PROGRAM, IN A SANDBOX (cutbox-rows.mjs): the forced cells as the released guide's own fill.sh prints them over the translation b88a993e6059c4ae… (all of the seat's roots in one cut). By AI agents, Wed Nov 11 2026. No macro, syntax, notation, axiom, sorry.
-/
import Derived.Test.YtaghkncaeedlkaaChecked
import GoSem.Claim
import GoSem.ClaimJoined
import GoSem.ClaimMapViews
import Derived.JoinedTies
import Derived.KernelRfl
namespace Go.Proofs.Ytaghkncaeedlkaa
/- THE CELL 'sum', in the pinned program and in every row, IS THE sha256 OF THE DUMP (.gsa) THAT YtaghkncaeedlkaaProg.lean LOADS. Nothing in Lean hashes anything: it is a label: what it is worth is what the hold of that sum in a sandbox is worth. -/
noncomputable def Try.pinned : Pinned := { name := "ytaghkncaeedlkaa", sum := "b88a993e6059c4ae1e867d809a2593d00094ed00d9374ce5099b227ff445e8f0", checked := Try.checked }
namespace Rows
def none {H : Type} : Left H := { results := [], args := [] }

/-- 'n011_138.FnTimerScriptRecordsExactly': WHATEVER THE INPUT: true; the input reads as it did. -/
def fnTimerScriptRecordsExactlySpec : ChangeSpec := { name := "fnTimerScriptRecordsExactly", fn := fun _ => fun
  | [d1, d2] => { results := [.lit (.bool true)], args := [d1, d2] }
  | _ => none }
def fnTimerScriptRecordsExactlyRow : OpenClaim := { program := "ytaghkncaeedlkaa", sum := "b88a993e6059c4ae1e867d809a2593d00094ed00d9374ce5099b227ff445e8f0", func := "github.com/evanw/esbuild/n011_138.FnTimerScriptRecordsExactly", spec := "fnTimerScriptRecordsExactly", apart := false }
def FnTimerScriptRecordsExactlySaid : Prop := fnTimerScriptRecordsExactlyRow.holds Try.pinned (OpenSpec.ofChange fnTimerScriptRecordsExactlySpec)

/-- ITS FALSE NEIGHBOUR: 'it returns false'. Refute it at one input. -/
def fnTimerScriptRecordsExactlyWrong : ChangeSpec := { name := "fnTimerScriptRecordsExactly", fn := fun _ => fun
  | [d1, d2] => { results := [.lit (.bool false)], args := [d1, d2] }
  | _ => none }
def FnTimerScriptRecordsExactlyWrongFalsely : Prop := fnTimerScriptRecordsExactlyRow.holds Try.pinned (OpenSpec.ofChange fnTimerScriptRecordsExactlyWrong)

/-- 'n011_138.FnNilTimerIsInert': WHATEVER THE INPUT: true; the input reads as it did. -/
def fnNilTimerIsInertSpec : ChangeSpec := { name := "fnNilTimerIsInert", fn := fun _ => fun
  | [d1, d2] => { results := [.lit (.bool true)], args := [d1, d2] }
  | _ => none }
def fnNilTimerIsInertRow : OpenClaim := { program := "ytaghkncaeedlkaa", sum := "b88a993e6059c4ae1e867d809a2593d00094ed00d9374ce5099b227ff445e8f0", func := "github.com/evanw/esbuild/n011_138.FnNilTimerIsInert", spec := "fnNilTimerIsInert", inPlace := ["(*internal/sync.Mutex).Lock", "internal/race.Disable", "sync/atomic.CompareAndSwapInt32", "internal/race.Enable", "internal/race.Acquire", "(*internal/sync.Mutex).lockSlow", "internal/sync.runtime_canSpin", "internal/sync.runtime_doSpin", "internal/sync.throw", "internal/sync.runtime_nanotime", "internal/sync.runtime_SemacquireMutex", "sync/atomic.AddInt32", "(*internal/sync.Mutex).Unlock", "internal/race.ReleaseMerge", "(*internal/sync.Mutex).unlockSlow", "internal/sync.fatal", "internal/sync.runtime_Semrelease"], apart := false }
def FnNilTimerIsInertSaid : Prop := fnNilTimerIsInertRow.holds Try.pinned (OpenSpec.ofChange fnNilTimerIsInertSpec)

/-- ITS FALSE NEIGHBOUR: 'it returns false'. Refute it at one input. -/
def fnNilTimerIsInertWrong : ChangeSpec := { name := "fnNilTimerIsInert", fn := fun _ => fun
  | [d1, d2] => { results := [.lit (.bool false)], args := [d1, d2] }
  | _ => none }
def FnNilTimerIsInertWrongFalsely : Prop := fnNilTimerIsInertRow.holds Try.pinned (OpenSpec.ofChange fnNilTimerIsInertWrong)

/-- 'n011_138.FnJoinAppendsOtherExactly': WHATEVER THE INPUT: true; the input reads as it did. -/
def fnJoinAppendsOtherExactlySpec : ChangeSpec := { name := "fnJoinAppendsOtherExactly", fn := fun _ => fun
  | [d1, d2, d3, d4] => { results := [.lit (.bool true)], args := [d1, d2, d3, d4] }
  | _ => none }
def fnJoinAppendsOtherExactlyRow : OpenClaim := { program := "ytaghkncaeedlkaa", sum := "b88a993e6059c4ae1e867d809a2593d00094ed00d9374ce5099b227ff445e8f0", func := "github.com/evanw/esbuild/n011_138.FnJoinAppendsOtherExactly", spec := "fnJoinAppendsOtherExactly", inPlace := ["(*internal/sync.Mutex).Lock", "internal/race.Disable", "sync/atomic.CompareAndSwapInt32", "internal/race.Enable", "internal/race.Acquire", "(*internal/sync.Mutex).lockSlow", "internal/sync.runtime_canSpin", "internal/sync.runtime_doSpin", "internal/sync.throw", "internal/sync.runtime_nanotime", "internal/sync.runtime_SemacquireMutex", "sync/atomic.AddInt32", "(*internal/sync.Mutex).Unlock", "internal/race.ReleaseMerge", "(*internal/sync.Mutex).unlockSlow", "internal/sync.fatal", "internal/sync.runtime_Semrelease"], apart := false }
def FnJoinAppendsOtherExactlySaid : Prop := fnJoinAppendsOtherExactlyRow.holds Try.pinned (OpenSpec.ofChange fnJoinAppendsOtherExactlySpec)

/-- ITS FALSE NEIGHBOUR: 'it returns false'. Refute it at one input. -/
def fnJoinAppendsOtherExactlyWrong : ChangeSpec := { name := "fnJoinAppendsOtherExactly", fn := fun _ => fun
  | [d1, d2, d3, d4] => { results := [.lit (.bool false)], args := [d1, d2, d3, d4] }
  | _ => none }
def FnJoinAppendsOtherExactlyWrongFalsely : Prop := fnJoinAppendsOtherExactlyRow.holds Try.pinned (OpenSpec.ofChange fnJoinAppendsOtherExactlyWrong)

/-- 'n011_138.FnForkIsFreshEmptyAndSeparate': WHATEVER THE INPUT: true; the input reads as it did. -/
def fnForkIsFreshEmptyAndSeparateSpec : ChangeSpec := { name := "fnForkIsFreshEmptyAndSeparate", fn := fun _ => fun
  | [d1, d2, d3, d4] => { results := [.lit (.bool true)], args := [d1, d2, d3, d4] }
  | _ => none }
def fnForkIsFreshEmptyAndSeparateRow : OpenClaim := { program := "ytaghkncaeedlkaa", sum := "b88a993e6059c4ae1e867d809a2593d00094ed00d9374ce5099b227ff445e8f0", func := "github.com/evanw/esbuild/n011_138.FnForkIsFreshEmptyAndSeparate", spec := "fnForkIsFreshEmptyAndSeparate", apart := false }
def FnForkIsFreshEmptyAndSeparateSaid : Prop := fnForkIsFreshEmptyAndSeparateRow.holds Try.pinned (OpenSpec.ofChange fnForkIsFreshEmptyAndSeparateSpec)

/-- ITS FALSE NEIGHBOUR: 'it returns false'. Refute it at one input. -/
def fnForkIsFreshEmptyAndSeparateWrong : ChangeSpec := { name := "fnForkIsFreshEmptyAndSeparate", fn := fun _ => fun
  | [d1, d2, d3, d4] => { results := [.lit (.bool false)], args := [d1, d2, d3, d4] }
  | _ => none }
def FnForkIsFreshEmptyAndSeparateWrongFalsely : Prop := fnForkIsFreshEmptyAndSeparateRow.holds Try.pinned (OpenSpec.ofChange fnForkIsFreshEmptyAndSeparateWrong)

/-- 'n011_138.FnJoinAssociativeWithNilIdentity': WHATEVER THE INPUT: true; the input reads as it did. -/
def fnJoinAssociativeWithNilIdentitySpec : ChangeSpec := { name := "fnJoinAssociativeWithNilIdentity", fn := fun _ => fun
  | [d1, d2, d3, d4, d5, d6] => { results := [.lit (.bool true)], args := [d1, d2, d3, d4, d5, d6] }
  | _ => none }
def fnJoinAssociativeWithNilIdentityRow : OpenClaim := { program := "ytaghkncaeedlkaa", sum := "b88a993e6059c4ae1e867d809a2593d00094ed00d9374ce5099b227ff445e8f0", func := "github.com/evanw/esbuild/n011_138.FnJoinAssociativeWithNilIdentity", spec := "fnJoinAssociativeWithNilIdentity", inPlace := ["(*internal/sync.Mutex).Lock", "internal/race.Disable", "sync/atomic.CompareAndSwapInt32", "internal/race.Enable", "internal/race.Acquire", "(*internal/sync.Mutex).lockSlow", "internal/sync.runtime_canSpin", "internal/sync.runtime_doSpin", "internal/sync.throw", "internal/sync.runtime_nanotime", "internal/sync.runtime_SemacquireMutex", "sync/atomic.AddInt32", "(*internal/sync.Mutex).Unlock", "internal/race.ReleaseMerge", "(*internal/sync.Mutex).unlockSlow", "internal/sync.fatal", "internal/sync.runtime_Semrelease"], apart := false }
def FnJoinAssociativeWithNilIdentitySaid : Prop := fnJoinAssociativeWithNilIdentityRow.holds Try.pinned (OpenSpec.ofChange fnJoinAssociativeWithNilIdentitySpec)

/-- ITS FALSE NEIGHBOUR: 'it returns false'. Refute it at one input. -/
def fnJoinAssociativeWithNilIdentityWrong : ChangeSpec := { name := "fnJoinAssociativeWithNilIdentity", fn := fun _ => fun
  | [d1, d2, d3, d4, d5, d6] => { results := [.lit (.bool false)], args := [d1, d2, d3, d4, d5, d6] }
  | _ => none }
def FnJoinAssociativeWithNilIdentityWrongFalsely : Prop := fnJoinAssociativeWithNilIdentityRow.holds Try.pinned (OpenSpec.ofChange fnJoinAssociativeWithNilIdentityWrong)

/- THE SECOND FORM. 'bulk': how many values and letters a reading holds, each counted each time it is reached (what is shared counts as often as it is met; a slice's spare places count too). A statement '..UptoSaid' is the law's where the arguments, and the package variables that the reading takes, are together of bulk at most 1048576: NARROWER than '..Said'. Prove '..Said' where nothing that the law and all that it calls make is longer than what came in: it says more and counts as full. Else prove '..UptoSaid'. A law counts once. -/
mutual
def uptoBulk {H : Type} : DataW H → Nat
  | .lit (.string bytes) => bytes.length + 1
  | .lit _ => 1
  | .nil => 1
  | .ptr d => uptoBulk d + 1
  | .slice elems spare => uptoBulkAll elems + uptoBulkAll spare + 1
  | .agg parts => uptoBulkAll parts + 1
  | .iface _ d => uptoBulk d + 1
  | .map entries => uptoBulkEntries entries + 1
  | .held _ => 1
def uptoBulkAll {H : Type} : List (DataW H) → Nat
  | [] => 0
  | d :: r => uptoBulk d + uptoBulkAll r
def uptoBulkEntries {H : Type} : List (Lit × DataW H) → Nat
  | [] => 0
  | x :: r => uptoBulkEntry x + uptoBulkEntries r
def uptoBulkEntry {H : Type} : Lit × DataW H → Nat
  | (.string bytes, d) => bytes.length + uptoBulk d + 1
  | (_, d) => uptoBulk d + 1
 end
def uptoSmall : (H : Type) → List (DataW H) → Bool := fun _ ds => decide (uptoBulkAll ds ≤ 1048576)
def OpenSpec.upto (s : _root_.Go.ChangeSpec) : _root_.Go.OpenSpec := { _root_.Go.OpenSpec.ofChange s with cond := some uptoSmall }

/-- 'n011_138.FnTimerScriptRecordsExactly', WHERE WHAT IT READS IS OF BULK AT MOST 1048576: true; the input reads as it did. -/
def fnTimerScriptRecordsExactlyUptoRow : OpenClaim := { program := "ytaghkncaeedlkaa", sum := "b88a993e6059c4ae1e867d809a2593d00094ed00d9374ce5099b227ff445e8f0", func := "github.com/evanw/esbuild/n011_138.FnTimerScriptRecordsExactly", spec := "fnTimerScriptRecordsExactly", apart := false, narrowed := true }
def FnTimerScriptRecordsExactlyUptoSaid : Prop := fnTimerScriptRecordsExactlyUptoRow.holds Try.pinned (OpenSpec.upto fnTimerScriptRecordsExactlySpec)

/-- 'n011_138.FnNilTimerIsInert', WHERE WHAT IT READS IS OF BULK AT MOST 1048576: true; the input reads as it did. -/
def fnNilTimerIsInertUptoRow : OpenClaim := { program := "ytaghkncaeedlkaa", sum := "b88a993e6059c4ae1e867d809a2593d00094ed00d9374ce5099b227ff445e8f0", func := "github.com/evanw/esbuild/n011_138.FnNilTimerIsInert", spec := "fnNilTimerIsInert", inPlace := ["(*internal/sync.Mutex).Lock", "internal/race.Disable", "sync/atomic.CompareAndSwapInt32", "internal/race.Enable", "internal/race.Acquire", "(*internal/sync.Mutex).lockSlow", "internal/sync.runtime_canSpin", "internal/sync.runtime_doSpin", "internal/sync.throw", "internal/sync.runtime_nanotime", "internal/sync.runtime_SemacquireMutex", "sync/atomic.AddInt32", "(*internal/sync.Mutex).Unlock", "internal/race.ReleaseMerge", "(*internal/sync.Mutex).unlockSlow", "internal/sync.fatal", "internal/sync.runtime_Semrelease"], apart := false, narrowed := true }
def FnNilTimerIsInertUptoSaid : Prop := fnNilTimerIsInertUptoRow.holds Try.pinned (OpenSpec.upto fnNilTimerIsInertSpec)

/-- 'n011_138.FnJoinAppendsOtherExactly', WHERE WHAT IT READS IS OF BULK AT MOST 1048576: true; the input reads as it did. -/
def fnJoinAppendsOtherExactlyUptoRow : OpenClaim := { program := "ytaghkncaeedlkaa", sum := "b88a993e6059c4ae1e867d809a2593d00094ed00d9374ce5099b227ff445e8f0", func := "github.com/evanw/esbuild/n011_138.FnJoinAppendsOtherExactly", spec := "fnJoinAppendsOtherExactly", inPlace := ["(*internal/sync.Mutex).Lock", "internal/race.Disable", "sync/atomic.CompareAndSwapInt32", "internal/race.Enable", "internal/race.Acquire", "(*internal/sync.Mutex).lockSlow", "internal/sync.runtime_canSpin", "internal/sync.runtime_doSpin", "internal/sync.throw", "internal/sync.runtime_nanotime", "internal/sync.runtime_SemacquireMutex", "sync/atomic.AddInt32", "(*internal/sync.Mutex).Unlock", "internal/race.ReleaseMerge", "(*internal/sync.Mutex).unlockSlow", "internal/sync.fatal", "internal/sync.runtime_Semrelease"], apart := false, narrowed := true }
def FnJoinAppendsOtherExactlyUptoSaid : Prop := fnJoinAppendsOtherExactlyUptoRow.holds Try.pinned (OpenSpec.upto fnJoinAppendsOtherExactlySpec)

/-- 'n011_138.FnForkIsFreshEmptyAndSeparate', WHERE WHAT IT READS IS OF BULK AT MOST 1048576: true; the input reads as it did. -/
def fnForkIsFreshEmptyAndSeparateUptoRow : OpenClaim := { program := "ytaghkncaeedlkaa", sum := "b88a993e6059c4ae1e867d809a2593d00094ed00d9374ce5099b227ff445e8f0", func := "github.com/evanw/esbuild/n011_138.FnForkIsFreshEmptyAndSeparate", spec := "fnForkIsFreshEmptyAndSeparate", apart := false, narrowed := true }
def FnForkIsFreshEmptyAndSeparateUptoSaid : Prop := fnForkIsFreshEmptyAndSeparateUptoRow.holds Try.pinned (OpenSpec.upto fnForkIsFreshEmptyAndSeparateSpec)

/-- 'n011_138.FnJoinAssociativeWithNilIdentity', WHERE WHAT IT READS IS OF BULK AT MOST 1048576: true; the input reads as it did. -/
def fnJoinAssociativeWithNilIdentityUptoRow : OpenClaim := { program := "ytaghkncaeedlkaa", sum := "b88a993e6059c4ae1e867d809a2593d00094ed00d9374ce5099b227ff445e8f0", func := "github.com/evanw/esbuild/n011_138.FnJoinAssociativeWithNilIdentity", spec := "fnJoinAssociativeWithNilIdentity", inPlace := ["(*internal/sync.Mutex).Lock", "internal/race.Disable", "sync/atomic.CompareAndSwapInt32", "internal/race.Enable", "internal/race.Acquire", "(*internal/sync.Mutex).lockSlow", "internal/sync.runtime_canSpin", "internal/sync.runtime_doSpin", "internal/sync.throw", "internal/sync.runtime_nanotime", "internal/sync.runtime_SemacquireMutex", "sync/atomic.AddInt32", "(*internal/sync.Mutex).Unlock", "internal/race.ReleaseMerge", "(*internal/sync.Mutex).unlockSlow", "internal/sync.fatal", "internal/sync.runtime_Semrelease"], apart := false, narrowed := true }
def FnJoinAssociativeWithNilIdentityUptoSaid : Prop := fnJoinAssociativeWithNilIdentityUptoRow.holds Try.pinned (OpenSpec.upto fnJoinAssociativeWithNilIdentitySpec)

end Rows
end Go.Proofs.Ytaghkncaeedlkaa
