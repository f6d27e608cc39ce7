/-
  No cell of these rows narrows 'for every input' (looked for: loops, veiled, ifaces, maps, wideKeys, modest, calm, conditions, laid).
  DERIVED. THE GIVEN ROWS OF THIS SEAT. 2 by the template 'for every input the law returns true; each argument reads behind the call as it read before'; 0 by the template 'total and deterministic' (their statements: YbulkcjhoTotals.lean).
  GIVEN WITH THE SEED: the statements are not yours to turn. If you find one false, say at which input.
  Laid BY PROGRAM, IN A SANDBOX (cutbox-rows.mjs): the forced cells as the released guide's own fill.sh prints them over the translation ebc17b057302c1c4… (all of the seat's roots in one cut). By AI agents, Wed Nov 11 2026. No macro, syntax, notation, axiom, sorry.
-/
import Derived.Test.YbulkcjhoChecked
import GoSem.Claim
import GoSem.ClaimJoined
import GoSem.ClaimMapViews
import Derived.JoinedTies
import Derived.KernelRfl
namespace Go.Proofs.Ybulkcjho
/- THE CELL 'sum', in the pinned program and in every row, IS THE sha256 OF THE DUMP (.gsa) THAT YbulkcjhoProg.lean LOADS. Nothing in Lean hashes anything: it is a label: what it is worth is what the hold of that sum in a sandbox is worth. -/
noncomputable def Yba.pinned : Pinned := { name := "ybulkcjho", sum := "ebc17b057302c1c421c8e7b51f271fe38afc6127fa66bd9f54f6a8c0cecb5b7f", checked := Yba.checked }
namespace Rows
def none {H : Type} : Left H := { results := [], args := [] }

/-- 'store.LawS4265ALeadOfSession': WHATEVER THE INPUT: true; the input reads as it did. -/
def lawS4265ALeadOfSessionSpec : ChangeSpec := { name := "lawS4265ALeadOfSession", fn := fun _ => fun
  | [d1, d2, d3, d4] => { results := [.lit (.bool true)], args := [d1, d2, d3, d4] }
  | _ => none }
def lawS4265ALeadOfSessionRow : OpenClaim := { program := "ybulkcjho", sum := "ebc17b057302c1c421c8e7b51f271fe38afc6127fa66bd9f54f6a8c0cecb5b7f", func := "example.com/corelith/corelith/store.LawS4265ALeadOfSession", spec := "lawS4265ALeadOfSession", inPlace := ["(*sync.RWMutex).RLock", "internal/race.Read", "internal/race.Disable", "sync/atomic.AddInt32", "sync.runtime_SemacquireRWMutexR", "internal/race.Enable", "internal/race.Acquire", "(*sync.RWMutex).RUnlock", "internal/race.ReleaseMerge", "(*sync.RWMutex).rUnlockSlow", "sync.fatal", "sync.runtime_Semrelease"], apart := false }
def LawS4265ALeadOfSessionSaid : Prop := lawS4265ALeadOfSessionRow.holds Yba.pinned (OpenSpec.ofChange lawS4265ALeadOfSessionSpec)

/-- ITS FALSE NEIGHBOUR: 'it returns false'. Refute it at one input. -/
def lawS4265ALeadOfSessionWrong : ChangeSpec := { name := "lawS4265ALeadOfSession", fn := fun _ => fun
  | [d1, d2, d3, d4] => { results := [.lit (.bool false)], args := [d1, d2, d3, d4] }
  | _ => none }
def LawS4265ALeadOfSessionWrongFalsely : Prop := lawS4265ALeadOfSessionRow.holds Yba.pinned (OpenSpec.ofChange lawS4265ALeadOfSessionWrong)

/-- 'store.LawS4265AFreesLock': WHATEVER THE INPUT: true; the input reads as it did. -/
def lawS4265AFreesLockSpec : ChangeSpec := { name := "lawS4265AFreesLock", fn := fun _ => fun
  | [d1, d2] => { results := [.lit (.bool true)], args := [d1, d2] }
  | _ => none }
def lawS4265AFreesLockRow : OpenClaim := { program := "ybulkcjho", sum := "ebc17b057302c1c421c8e7b51f271fe38afc6127fa66bd9f54f6a8c0cecb5b7f", func := "example.com/corelith/corelith/store.LawS4265AFreesLock", spec := "lawS4265AFreesLock", inPlace := ["(*sync.RWMutex).RLock", "internal/race.Read", "internal/race.Disable", "sync/atomic.AddInt32", "sync.runtime_SemacquireRWMutexR", "internal/race.Enable", "internal/race.Acquire", "(*sync.RWMutex).RUnlock", "internal/race.ReleaseMerge", "(*sync.RWMutex).rUnlockSlow", "sync.fatal", "sync.runtime_Semrelease", "(*sync.RWMutex).TryLock", "(*internal/sync.Mutex).TryLock", "sync/atomic.CompareAndSwapInt32", "(*internal/sync.Mutex).Unlock", "(*internal/sync.Mutex).unlockSlow", "internal/sync.fatal", "internal/sync.runtime_Semrelease", "(*sync.RWMutex).Unlock", "internal/race.Release"], apart := false }
def LawS4265AFreesLockSaid : Prop := lawS4265AFreesLockRow.holds Yba.pinned (OpenSpec.ofChange lawS4265AFreesLockSpec)

/-- ITS FALSE NEIGHBOUR: 'it returns false'. Refute it at one input. -/
def lawS4265AFreesLockWrong : ChangeSpec := { name := "lawS4265AFreesLock", fn := fun _ => fun
  | [d1, d2] => { results := [.lit (.bool false)], args := [d1, d2] }
  | _ => none }
def LawS4265AFreesLockWrongFalsely : Prop := lawS4265AFreesLockRow.holds Yba.pinned (OpenSpec.ofChange lawS4265AFreesLockWrong)

end Rows
end Go.Proofs.Ybulkcjho
