/-
  No cell of these rows narrows 'for every input' (looked for: loops, veiled, ifaces, maps, wideKeys, modest, calm, conditions, laid).
  DERIVED. THE GIVEN ROWS OF THIS SEAT. 4 by the template 'for every input the law returns true; each argument reads behind the call as it read before'; 0 by the template 'total and deterministic' (their statements: YbulksmuTotals.lean).
  GIVEN WITH THE SEED: the statements are not yours to turn. If you find one false, say at which input.
  Laid BY PROGRAM, IN A SANDBOX (cutbox-rows.mjs): the forced cells as the released guide's own fill.sh prints them over the translation 74926cccffa10a61… (all of the seat's roots in one cut). By AI agents, Wed Nov 11 2026. No macro, syntax, notation, axiom, sorry.
-/
import Derived.Test.YbulksmuChecked
import GoSem.Claim
import GoSem.ClaimJoined
import GoSem.ClaimMapViews
import Derived.JoinedTies
import Derived.KernelRfl
namespace Go.Proofs.Ybulksmu
/- THE CELL 'sum', in the pinned program and in every row, IS THE sha256 OF THE DUMP (.gsa) THAT YbulksmuProg.lean LOADS. Nothing in Lean hashes anything: it is a label: what it is worth is what the hold of that sum in a sandbox is worth. -/
noncomputable def Yba.pinned : Pinned := { name := "ybulksmu", sum := "74926cccffa10a6137d18ab22f2233d39f8ad98b6cb0ffe3c5cb1136d371c8d5", checked := Yba.checked }
namespace Rows
def none {H : Type} : Left H := { results := [], args := [] }

/-- 'broker.LawS0943ACollects': WHATEVER THE INPUT: true; the input reads as it did. -/
def lawS0943ACollectsSpec : ChangeSpec := { name := "lawS0943ACollects", fn := fun _ => fun
  | [d1, d2, d3, d4] => { results := [.lit (.bool true)], args := [d1, d2, d3, d4] }
  | _ => none }
def lawS0943ACollectsRow : OpenClaim := { program := "ybulksmu", sum := "74926cccffa10a6137d18ab22f2233d39f8ad98b6cb0ffe3c5cb1136d371c8d5", func := "example.com/larkpost/larkpost/broker.LawS0943ACollects", spec := "lawS0943ACollects", inPlace := ["internal/bytealg.abigen_runtime_cmpstring"], unfollowed := true, recurses := true, apart := false }
def LawS0943ACollectsSaid : Prop := lawS0943ACollectsRow.holds Yba.pinned (OpenSpec.ofChange lawS0943ACollectsSpec)

/-- ITS FALSE NEIGHBOUR: 'it returns false'. Refute it at one input. -/
def lawS0943ACollectsWrong : ChangeSpec := { name := "lawS0943ACollects", fn := fun _ => fun
  | [d1, d2, d3, d4] => { results := [.lit (.bool false)], args := [d1, d2, d3, d4] }
  | _ => none }
def LawS0943ACollectsWrongFalsely : Prop := lawS0943ACollectsRow.holds Yba.pinned (OpenSpec.ofChange lawS0943ACollectsWrong)

/-- 'broker.LawS0943ABatches': WHATEVER THE INPUT: true; the input reads as it did. -/
def lawS0943ABatchesSpec : ChangeSpec := { name := "lawS0943ABatches", fn := fun _ => fun
  | [d1, d2] => { results := [.lit (.bool true)], args := [d1, d2] }
  | _ => none }
def lawS0943ABatchesRow : OpenClaim := { program := "ybulksmu", sum := "74926cccffa10a6137d18ab22f2233d39f8ad98b6cb0ffe3c5cb1136d371c8d5", func := "example.com/larkpost/larkpost/broker.LawS0943ABatches", spec := "lawS0943ABatches", unfollowed := true, recurses := true, apart := false }
def LawS0943ABatchesSaid : Prop := lawS0943ABatchesRow.holds Yba.pinned (OpenSpec.ofChange lawS0943ABatchesSpec)

/-- ITS FALSE NEIGHBOUR: 'it returns false'. Refute it at one input. -/
def lawS0943ABatchesWrong : ChangeSpec := { name := "lawS0943ABatches", fn := fun _ => fun
  | [d1, d2] => { results := [.lit (.bool false)], args := [d1, d2] }
  | _ => none }
def LawS0943ABatchesWrongFalsely : Prop := lawS0943ABatchesRow.holds Yba.pinned (OpenSpec.ofChange lawS0943ABatchesWrong)

/-- 'broker.LawS0943BPlain': WHATEVER THE INPUT: true; the input reads as it did. -/
def lawS0943BPlainSpec : ChangeSpec := { name := "lawS0943BPlain", fn := fun _ => fun
  | [d1, d2, d3, d4, d5, d6] => { results := [.lit (.bool true)], args := [d1, d2, d3, d4, d5, d6] }
  | _ => none }
def lawS0943BPlainRow : OpenClaim := { program := "ybulksmu", sum := "74926cccffa10a6137d18ab22f2233d39f8ad98b6cb0ffe3c5cb1136d371c8d5", func := "example.com/larkpost/larkpost/broker.LawS0943BPlain", spec := "lawS0943BPlain", inPlace := ["internal/bytealg.IndexByteString", "internal/bytealg.IndexString", "(*sync.RWMutex).Lock", "internal/race.Read", "internal/race.Disable", "(*internal/sync.Mutex).Lock", "sync/atomic.CompareAndSwapInt32", "internal/race.Enable", "internal/race.Acquire", "(*internal/sync.Mutex).lockSlow", "internal/sync.runtime_canSpin", "internal/sync.runtime_doSpin", "internal/sync.throw", "internal/sync.runtime_nanotime", "internal/sync.runtime_SemacquireMutex", "sync/atomic.AddInt32", "sync.runtime_SemacquireRWMutex", "(*sync.RWMutex).Unlock", "internal/race.Release", "internal/race.ReleaseMerge", "sync.fatal", "sync.runtime_Semrelease", "(*internal/sync.Mutex).Unlock", "(*internal/sync.Mutex).unlockSlow", "internal/sync.fatal", "internal/sync.runtime_Semrelease"], unfollowed := true, recurses := true, named := ["internal/bytealg.MaxLen"], apart := false }
def LawS0943BPlainSaid : Prop := lawS0943BPlainRow.holds Yba.pinned (OpenSpec.ofChange lawS0943BPlainSpec)

/-- ITS FALSE NEIGHBOUR: 'it returns false'. Refute it at one input. -/
def lawS0943BPlainWrong : ChangeSpec := { name := "lawS0943BPlain", fn := fun _ => fun
  | [d1, d2, d3, d4, d5, d6] => { results := [.lit (.bool false)], args := [d1, d2, d3, d4, d5, d6] }
  | _ => none }
def LawS0943BPlainWrongFalsely : Prop := lawS0943BPlainRow.holds Yba.pinned (OpenSpec.ofChange lawS0943BPlainWrong)

/-- 'broker.LawS0943BShared': WHATEVER THE INPUT: true; the input reads as it did. -/
def lawS0943BSharedSpec : ChangeSpec := { name := "lawS0943BShared", fn := fun _ => fun
  | [d1, d2, d3, d4, d5] => { results := [.lit (.bool true)], args := [d1, d2, d3, d4, d5] }
  | _ => none }
def lawS0943BSharedRow : OpenClaim := { program := "ybulksmu", sum := "74926cccffa10a6137d18ab22f2233d39f8ad98b6cb0ffe3c5cb1136d371c8d5", func := "example.com/larkpost/larkpost/broker.LawS0943BShared", spec := "lawS0943BShared", inPlace := ["internal/bytealg.IndexByteString", "internal/bytealg.IndexString", "(*sync.RWMutex).Lock", "internal/race.Read", "internal/race.Disable", "(*internal/sync.Mutex).Lock", "sync/atomic.CompareAndSwapInt32", "internal/race.Enable", "internal/race.Acquire", "(*internal/sync.Mutex).lockSlow", "internal/sync.runtime_canSpin", "internal/sync.runtime_doSpin", "internal/sync.throw", "internal/sync.runtime_nanotime", "internal/sync.runtime_SemacquireMutex", "sync/atomic.AddInt32", "sync.runtime_SemacquireRWMutex", "(*sync.RWMutex).Unlock", "internal/race.Release", "internal/race.ReleaseMerge", "sync.fatal", "sync.runtime_Semrelease", "(*internal/sync.Mutex).Unlock", "(*internal/sync.Mutex).unlockSlow", "internal/sync.fatal", "internal/sync.runtime_Semrelease"], unfollowed := true, recurses := true, named := ["internal/bytealg.MaxLen"], apart := false }
def LawS0943BSharedSaid : Prop := lawS0943BSharedRow.holds Yba.pinned (OpenSpec.ofChange lawS0943BSharedSpec)

/-- ITS FALSE NEIGHBOUR: 'it returns false'. Refute it at one input. -/
def lawS0943BSharedWrong : ChangeSpec := { name := "lawS0943BShared", fn := fun _ => fun
  | [d1, d2, d3, d4, d5] => { results := [.lit (.bool false)], args := [d1, d2, d3, d4, d5] }
  | _ => none }
def LawS0943BSharedWrongFalsely : Prop := lawS0943BSharedRow.holds Yba.pinned (OpenSpec.ofChange lawS0943BSharedWrong)

end Rows
end Go.Proofs.Ybulksmu
