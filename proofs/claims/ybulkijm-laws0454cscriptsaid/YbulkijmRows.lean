/-
  No cell of these rows narrows 'for every input' (looked for: loops, veiled, ifaces, maps, wideKeys, modest, calm, conditions, laid).
  DERIVED. THE GIVEN ROWS OF THIS SEAT. 4 by the template 'for every input the law returns true; each argument reads behind the call as it read before'; 0 by the template 'total and deterministic' (their statements: YbulkijmTotals.lean).
  GIVEN WITH THE SEED: the statements are not yours to turn. If you find one false, say at which input.
  Laid BY PROGRAM, IN A SANDBOX (cutbox-rows.mjs): the forced cells as the released guide's own fill.sh prints them over the translation e1cb294ce728f716… (all of the seat's roots in one cut). By AI agents, Wed Nov 11 2026. No macro, syntax, notation, axiom, sorry.
-/
import Derived.Test.YbulkijmChecked
import GoSem.Claim
import GoSem.ClaimJoined
import GoSem.ClaimMapViews
import Derived.JoinedTies
import Derived.KernelRfl
namespace Go.Proofs.Ybulkijm
/- THE CELL 'sum', in the pinned program and in every row, IS THE sha256 OF THE DUMP (.gsa) THAT YbulkijmProg.lean LOADS. Nothing in Lean hashes anything: it is a label: what it is worth is what the hold of that sum in a sandbox is worth. -/
noncomputable def Yba.pinned : Pinned := { name := "ybulkijm", sum := "e1cb294ce728f716ac63b5811e24b9201f20719e75edf4f332d6cc69b974597d", checked := Yba.checked }
namespace Rows
def none {H : Type} : Left H := { results := [], args := [] }

/-- 'rookery.LawS0454AApply': WHATEVER THE INPUT: true; the input reads as it did. -/
def lawS0454AApplySpec : ChangeSpec := { name := "lawS0454AApply", fn := fun _ => fun
  | [d1, d2, d3, d4, d5] => { results := [.lit (.bool true)], args := [d1, d2, d3, d4, d5] }
  | _ => none }
def lawS0454AApplyRow : OpenClaim := { program := "ybulkijm", sum := "e1cb294ce728f716ac63b5811e24b9201f20719e75edf4f332d6cc69b974597d", func := "example.com/rookery/rookery.LawS0454AApply", spec := "lawS0454AApply", unfollowed := true, recurses := true, apart := false }
def LawS0454AApplySaid : Prop := lawS0454AApplyRow.holds Yba.pinned (OpenSpec.ofChange lawS0454AApplySpec)

/-- ITS FALSE NEIGHBOUR: 'it returns false'. Refute it at one input. -/
def lawS0454AApplyWrong : ChangeSpec := { name := "lawS0454AApply", fn := fun _ => fun
  | [d1, d2, d3, d4, d5] => { results := [.lit (.bool false)], args := [d1, d2, d3, d4, d5] }
  | _ => none }
def LawS0454AApplyWrongFalsely : Prop := lawS0454AApplyRow.holds Yba.pinned (OpenSpec.ofChange lawS0454AApplyWrong)

/-- 'rookery.LawS0454ALastWins': WHATEVER THE INPUT: true; the input reads as it did. -/
def lawS0454ALastWinsSpec : ChangeSpec := { name := "lawS0454ALastWins", fn := fun _ => fun
  | [d1, d2, d3] => { results := [.lit (.bool true)], args := [d1, d2, d3] }
  | _ => none }
def lawS0454ALastWinsRow : OpenClaim := { program := "ybulkijm", sum := "e1cb294ce728f716ac63b5811e24b9201f20719e75edf4f332d6cc69b974597d", func := "example.com/rookery/rookery.LawS0454ALastWins", spec := "lawS0454ALastWins", unfollowed := true, recurses := true, apart := false }
def LawS0454ALastWinsSaid : Prop := lawS0454ALastWinsRow.holds Yba.pinned (OpenSpec.ofChange lawS0454ALastWinsSpec)

/-- ITS FALSE NEIGHBOUR: 'it returns false'. Refute it at one input. -/
def lawS0454ALastWinsWrong : ChangeSpec := { name := "lawS0454ALastWins", fn := fun _ => fun
  | [d1, d2, d3] => { results := [.lit (.bool false)], args := [d1, d2, d3] }
  | _ => none }
def LawS0454ALastWinsWrongFalsely : Prop := lawS0454ALastWinsRow.holds Yba.pinned (OpenSpec.ofChange lawS0454ALastWinsWrong)

/-- 'rookery.LawS0454CCount': WHATEVER THE INPUT: true; the input reads as it did. -/
def lawS0454CCountSpec : ChangeSpec := { name := "lawS0454CCount", fn := fun _ => fun
  | [d1, d2] => { results := [.lit (.bool true)], args := [d1, d2] }
  | _ => none }
def lawS0454CCountRow : OpenClaim := { program := "ybulkijm", sum := "e1cb294ce728f716ac63b5811e24b9201f20719e75edf4f332d6cc69b974597d", func := "example.com/rookery/rookery.LawS0454CCount", spec := "lawS0454CCount", inPlace := ["(*internal/sync.Mutex).Lock", "internal/race.Disable", "sync/atomic.CompareAndSwapInt32", "internal/race.Enable", "internal/race.Acquire", "(*internal/sync.Mutex).lockSlow", "internal/sync.runtime_canSpin", "internal/sync.runtime_doSpin", "internal/sync.throw", "internal/sync.runtime_nanotime", "internal/sync.runtime_SemacquireMutex", "sync/atomic.AddInt32", "(*internal/sync.Mutex).Unlock", "internal/race.ReleaseMerge", "(*internal/sync.Mutex).unlockSlow", "internal/sync.fatal", "internal/sync.runtime_Semrelease", "(*internal/sync.Mutex).TryLock"], apart := false }
def LawS0454CCountSaid : Prop := lawS0454CCountRow.holds Yba.pinned (OpenSpec.ofChange lawS0454CCountSpec)

/-- ITS FALSE NEIGHBOUR: 'it returns false'. Refute it at one input. -/
def lawS0454CCountWrong : ChangeSpec := { name := "lawS0454CCount", fn := fun _ => fun
  | [d1, d2] => { results := [.lit (.bool false)], args := [d1, d2] }
  | _ => none }
def LawS0454CCountWrongFalsely : Prop := lawS0454CCountRow.holds Yba.pinned (OpenSpec.ofChange lawS0454CCountWrong)

/-- 'rookery.LawS0454CScript': WHATEVER THE INPUT: true; the input reads as it did. -/
def lawS0454CScriptSpec : ChangeSpec := { name := "lawS0454CScript", fn := fun _ => fun
  | [d] => { results := [.lit (.bool true)], args := [d] }
  | _ => none }
def lawS0454CScriptRow : OpenClaim := { program := "ybulkijm", sum := "e1cb294ce728f716ac63b5811e24b9201f20719e75edf4f332d6cc69b974597d", func := "example.com/rookery/rookery.LawS0454CScript", spec := "lawS0454CScript", inPlace := ["(*internal/sync.Mutex).Lock", "internal/race.Disable", "sync/atomic.CompareAndSwapInt32", "internal/race.Enable", "internal/race.Acquire", "(*internal/sync.Mutex).lockSlow", "internal/sync.runtime_canSpin", "internal/sync.runtime_doSpin", "internal/sync.throw", "internal/sync.runtime_nanotime", "internal/sync.runtime_SemacquireMutex", "sync/atomic.AddInt32", "(*internal/sync.Mutex).Unlock", "internal/race.ReleaseMerge", "(*internal/sync.Mutex).unlockSlow", "internal/sync.fatal", "internal/sync.runtime_Semrelease"], apart := false }
def LawS0454CScriptSaid : Prop := lawS0454CScriptRow.holds Yba.pinned (OpenSpec.ofChange lawS0454CScriptSpec)

/-- ITS FALSE NEIGHBOUR: 'it returns false'. Refute it at one input. -/
def lawS0454CScriptWrong : ChangeSpec := { name := "lawS0454CScript", fn := fun _ => fun
  | [d] => { results := [.lit (.bool false)], args := [d] }
  | _ => none }
def LawS0454CScriptWrongFalsely : Prop := lawS0454CScriptRow.holds Yba.pinned (OpenSpec.ofChange lawS0454CScriptWrong)

end Rows
end Go.Proofs.Ybulkijm
