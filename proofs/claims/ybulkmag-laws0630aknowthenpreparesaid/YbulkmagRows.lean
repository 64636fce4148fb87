/-
  No cell of these rows narrows 'for every input' (looked for: loops, veiled, ifaces, maps, wideKeys, modest, calm, conditions, laid).
  DERIVED. THE GIVEN ROWS OF THIS SEAT. 6 by the template 'for every input the law returns true; each argument reads behind the call as it read before'; 0 by the template 'total and deterministic' (their statements: YbulkmagTotals.lean).
  GIVEN WITH THE SEED: the statements are not yours to turn. If you find one false, say at which input.
  Laid BY PROGRAM, IN A SANDBOX (cutbox-rows.mjs): the forced cells as the released guide's own fill.sh prints them over the translation f1d522b44b101a73… (all of the seat's roots in one cut). By AI agents, Wed Nov 11 2026. No macro, syntax, notation, axiom, sorry.
-/
import Derived.Test.YbulkmagChecked
import GoSem.Claim
import GoSem.ClaimJoined
import GoSem.ClaimMapViews
import Derived.JoinedTies
import Derived.KernelRfl
namespace Go.Proofs.Ybulkmag
/- THE CELL 'sum', in the pinned program and in every row, IS THE sha256 OF THE DUMP (.gsa) THAT YbulkmagProg.lean LOADS. Nothing in Lean hashes anything: it is a label: what it is worth is what the hold of that sum in a sandbox is worth. -/
noncomputable def Yba.pinned : Pinned := { name := "ybulkmag", sum := "f1d522b44b101a735324d7074fd8d6f6da1136fefc6f50de20f36f7aeffebe35", checked := Yba.checked }
namespace Rows
def none {H : Type} : Left H := { results := [], args := [] }

/-- 'commit.LawS0630AKnow': WHATEVER THE INPUT: true; the input reads as it did. -/
def lawS0630AKnowSpec : ChangeSpec := { name := "lawS0630AKnow", fn := fun _ => fun
  | [d1, d2, d3, d4] => { results := [.lit (.bool true)], args := [d1, d2, d3, d4] }
  | _ => none }
def lawS0630AKnowRow : OpenClaim := { program := "ybulkmag", sum := "f1d522b44b101a735324d7074fd8d6f6da1136fefc6f50de20f36f7aeffebe35", func := "example.com/chronoshard/chronoshard/internal/commit.LawS0630AKnow", spec := "lawS0630AKnow", inPlace := ["(*internal/sync.Mutex).Lock", "internal/race.Disable", "sync/atomic.CompareAndSwapInt32", "internal/race.Enable", "internal/race.Acquire", "(*internal/sync.Mutex).lockSlow", "internal/sync.runtime_canSpin", "internal/sync.runtime_doSpin", "internal/sync.throw", "internal/sync.runtime_nanotime", "internal/sync.runtime_SemacquireMutex", "sync/atomic.AddInt32", "(*internal/sync.Mutex).Unlock", "internal/race.ReleaseMerge", "(*internal/sync.Mutex).unlockSlow", "internal/sync.fatal", "internal/sync.runtime_Semrelease"], plainKeys := false, apart := false }
def LawS0630AKnowSaid : Prop := lawS0630AKnowRow.holds Yba.pinned (OpenSpec.ofChange lawS0630AKnowSpec)

/-- ITS FALSE NEIGHBOUR: 'it returns false'. Refute it at one input. -/
def lawS0630AKnowWrong : ChangeSpec := { name := "lawS0630AKnow", fn := fun _ => fun
  | [d1, d2, d3, d4] => { results := [.lit (.bool false)], args := [d1, d2, d3, d4] }
  | _ => none }
def LawS0630AKnowWrongFalsely : Prop := lawS0630AKnowRow.holds Yba.pinned (OpenSpec.ofChange lawS0630AKnowWrong)

/-- 'commit.LawS0630AKnowThenPrepare': WHATEVER THE INPUT: true; the input reads as it did. -/
def lawS0630AKnowThenPrepareSpec : ChangeSpec := { name := "lawS0630AKnowThenPrepare", fn := fun _ => fun
  | [d1, d2, d3, d4] => { results := [.lit (.bool true)], args := [d1, d2, d3, d4] }
  | _ => none }
def lawS0630AKnowThenPrepareRow : OpenClaim := { program := "ybulkmag", sum := "f1d522b44b101a735324d7074fd8d6f6da1136fefc6f50de20f36f7aeffebe35", func := "example.com/chronoshard/chronoshard/internal/commit.LawS0630AKnowThenPrepare", spec := "lawS0630AKnowThenPrepare", inPlace := ["(*internal/sync.Mutex).Lock", "internal/race.Disable", "sync/atomic.CompareAndSwapInt32", "internal/race.Enable", "internal/race.Acquire", "(*internal/sync.Mutex).lockSlow", "internal/sync.runtime_canSpin", "internal/sync.runtime_doSpin", "internal/sync.throw", "internal/sync.runtime_nanotime", "internal/sync.runtime_SemacquireMutex", "sync/atomic.AddInt32", "(*internal/sync.Mutex).Unlock", "internal/race.ReleaseMerge", "(*internal/sync.Mutex).unlockSlow", "internal/sync.fatal", "internal/sync.runtime_Semrelease"], unfollowed := true, recurses := true, plainKeys := false, apart := false }
def LawS0630AKnowThenPrepareSaid : Prop := lawS0630AKnowThenPrepareRow.holds Yba.pinned (OpenSpec.ofChange lawS0630AKnowThenPrepareSpec)

/-- ITS FALSE NEIGHBOUR: 'it returns false'. Refute it at one input. -/
def lawS0630AKnowThenPrepareWrong : ChangeSpec := { name := "lawS0630AKnowThenPrepare", fn := fun _ => fun
  | [d1, d2, d3, d4] => { results := [.lit (.bool false)], args := [d1, d2, d3, d4] }
  | _ => none }
def LawS0630AKnowThenPrepareWrongFalsely : Prop := lawS0630AKnowThenPrepareRow.holds Yba.pinned (OpenSpec.ofChange lawS0630AKnowThenPrepareWrong)

/-- 'history.LawS0630BExact': WHATEVER THE INPUT: true; the input reads as it did. -/
def lawS0630BExactSpec : ChangeSpec := { name := "lawS0630BExact", fn := fun _ => fun
  | [d1, d2, d3, d4] => { results := [.lit (.bool true)], args := [d1, d2, d3, d4] }
  | _ => none }
def lawS0630BExactRow : OpenClaim := { program := "ybulkmag", sum := "f1d522b44b101a735324d7074fd8d6f6da1136fefc6f50de20f36f7aeffebe35", func := "example.com/chronoshard/chronoshard/internal/history.LawS0630BExact", spec := "lawS0630BExact", plainKeys := false, apart := false }
def LawS0630BExactSaid : Prop := lawS0630BExactRow.holds Yba.pinned (OpenSpec.ofChange lawS0630BExactSpec)

/-- ITS FALSE NEIGHBOUR: 'it returns false'. Refute it at one input. -/
def lawS0630BExactWrong : ChangeSpec := { name := "lawS0630BExact", fn := fun _ => fun
  | [d1, d2, d3, d4] => { results := [.lit (.bool false)], args := [d1, d2, d3, d4] }
  | _ => none }
def LawS0630BExactWrongFalsely : Prop := lawS0630BExactRow.holds Yba.pinned (OpenSpec.ofChange lawS0630BExactWrong)

/-- 'history.LawS0630BAddKey': WHATEVER THE INPUT: true; the input reads as it did. -/
def lawS0630BAddKeySpec : ChangeSpec := { name := "lawS0630BAddKey", fn := fun _ => fun
  | [d1, d2, d3] => { results := [.lit (.bool true)], args := [d1, d2, d3] }
  | _ => none }
def lawS0630BAddKeyRow : OpenClaim := { program := "ybulkmag", sum := "f1d522b44b101a735324d7074fd8d6f6da1136fefc6f50de20f36f7aeffebe35", func := "example.com/chronoshard/chronoshard/internal/history.LawS0630BAddKey", spec := "lawS0630BAddKey", plainKeys := false, apart := false }
def LawS0630BAddKeySaid : Prop := lawS0630BAddKeyRow.holds Yba.pinned (OpenSpec.ofChange lawS0630BAddKeySpec)

/-- ITS FALSE NEIGHBOUR: 'it returns false'. Refute it at one input. -/
def lawS0630BAddKeyWrong : ChangeSpec := { name := "lawS0630BAddKey", fn := fun _ => fun
  | [d1, d2, d3] => { results := [.lit (.bool false)], args := [d1, d2, d3] }
  | _ => none }
def LawS0630BAddKeyWrongFalsely : Prop := lawS0630BAddKeyRow.holds Yba.pinned (OpenSpec.ofChange lawS0630BAddKeyWrong)

/-- 'wire.LawS0630CFailed': WHATEVER THE INPUT: true; the input reads as it did. -/
def lawS0630CFailedSpec : ChangeSpec := { name := "lawS0630CFailed", fn := fun _ => fun
  | [d1, d2] => { results := [.lit (.bool true)], args := [d1, d2] }
  | _ => none }
def lawS0630CFailedRow : OpenClaim := { program := "ybulkmag", sum := "f1d522b44b101a735324d7074fd8d6f6da1136fefc6f50de20f36f7aeffebe35", func := "example.com/chronoshard/chronoshard/internal/wire.LawS0630CFailed", spec := "lawS0630CFailed", inPlace := ["(*internal/sync.Mutex).Lock", "internal/race.Disable", "sync/atomic.CompareAndSwapInt32", "internal/race.Enable", "internal/race.Acquire", "(*internal/sync.Mutex).lockSlow", "internal/sync.runtime_canSpin", "internal/sync.runtime_doSpin", "internal/sync.throw", "internal/sync.runtime_nanotime", "internal/sync.runtime_SemacquireMutex", "sync/atomic.AddInt32", "(*internal/sync.Mutex).Unlock", "internal/race.ReleaseMerge", "(*internal/sync.Mutex).unlockSlow", "internal/sync.fatal", "internal/sync.runtime_Semrelease"], unfollowed := true, recurses := true, plainKeys := false, apart := false }
def LawS0630CFailedSaid : Prop := lawS0630CFailedRow.holds Yba.pinned (OpenSpec.ofChange lawS0630CFailedSpec)

/-- ITS FALSE NEIGHBOUR: 'it returns false'. Refute it at one input. -/
def lawS0630CFailedWrong : ChangeSpec := { name := "lawS0630CFailed", fn := fun _ => fun
  | [d1, d2] => { results := [.lit (.bool false)], args := [d1, d2] }
  | _ => none }
def LawS0630CFailedWrongFalsely : Prop := lawS0630CFailedRow.holds Yba.pinned (OpenSpec.ofChange lawS0630CFailedWrong)

/-- 'wire.LawS0630CCtxEnds': WHATEVER THE INPUT: true; the input reads as it did. -/
def lawS0630CCtxEndsSpec : ChangeSpec := { name := "lawS0630CCtxEnds", fn := fun _ => fun
  | [d1, d2, d3, d4, d5] => { results := [.lit (.bool true)], args := [d1, d2, d3, d4, d5] }
  | _ => none }
def lawS0630CCtxEndsRow : OpenClaim := { program := "ybulkmag", sum := "f1d522b44b101a735324d7074fd8d6f6da1136fefc6f50de20f36f7aeffebe35", func := "example.com/chronoshard/chronoshard/internal/wire.LawS0630CCtxEnds", spec := "lawS0630CCtxEnds", inPlace := ["(*internal/sync.Mutex).Lock", "internal/race.Disable", "sync/atomic.CompareAndSwapInt32", "internal/race.Enable", "internal/race.Acquire", "(*internal/sync.Mutex).lockSlow", "internal/sync.runtime_canSpin", "internal/sync.runtime_doSpin", "internal/sync.throw", "internal/sync.runtime_nanotime", "internal/sync.runtime_SemacquireMutex", "sync/atomic.AddInt32", "(*internal/sync.Mutex).Unlock", "internal/race.ReleaseMerge", "(*internal/sync.Mutex).unlockSlow", "internal/sync.fatal", "internal/sync.runtime_Semrelease"], unfollowed := true, recurses := true, plainKeys := false, apart := false }
def LawS0630CCtxEndsSaid : Prop := lawS0630CCtxEndsRow.holds Yba.pinned (OpenSpec.ofChange lawS0630CCtxEndsSpec)

/-- ITS FALSE NEIGHBOUR: 'it returns false'. Refute it at one input. -/
def lawS0630CCtxEndsWrong : ChangeSpec := { name := "lawS0630CCtxEnds", fn := fun _ => fun
  | [d1, d2, d3, d4, d5] => { results := [.lit (.bool false)], args := [d1, d2, d3, d4, d5] }
  | _ => none }
def LawS0630CCtxEndsWrongFalsely : Prop := lawS0630CCtxEndsRow.holds Yba.pinned (OpenSpec.ofChange lawS0630CCtxEndsWrong)

end Rows
end Go.Proofs.Ybulkmag
