/-
  NARROWER THAN 'FOR EVERY INPUT', by the rows' own cells (each row's printed sentence says how): LawS0454BEffect: ifaces, laid.
  DERIVED. THE GIVEN ROWS OF THIS SEAT. 1 by the template 'for every input the law returns true; each argument reads behind the call as it read before'; 0 by the template 'total and deterministic' (their statements: YbulkijmDoorTotals.lean).
  GIVEN WITH THE SEED: the statements are not yours to turn. If you find one false, say at which input.
  Laid BY PROGRAM, IN A SANDBOX (cutbox-rows.mjs): the forced cells as the released guide's own fill.sh prints them over the translation 4a498e6f91aa729f… (all of the seat's roots in one cut). By AI agents, Wed Nov 11 2026. No macro, syntax, notation, axiom, sorry.
-/
import Derived.Test.YbulkijmDoorChecked
import GoSem.Claim
import GoSem.ClaimJoined
import GoSem.ClaimMapViews
import Derived.JoinedTies
import Derived.KernelRfl
namespace Go.Proofs.YbulkijmDoor
/- THE CELL 'sum', in the pinned program and in every row, IS THE sha256 OF THE DUMP (.gsa) THAT YbulkijmDoorProg.lean LOADS. Nothing in Lean hashes anything: it is a label: what it is worth is what the hold of that sum in a sandbox is worth. -/
noncomputable def Ybad.pinned : Pinned := { name := "ybulkijmdoor", sum := "4a498e6f91aa729f431f69354d97882733288e9ef3942d58701f5aa68980beb9", checked := Ybad.checked }
namespace Rows
def none {H : Type} : Left H := { results := [], args := [] }

/- WHAT THE LISTED PACKAGE-LEVEL VARIABLES READ AS WHEN THE CALL BEGINS. Each datum BY PROGRAM (the guide's laid-datum.mjs) off the statement by which the dump's own 'gosem.cut.vars' lays the variable. In a bare row this is a premise. The card (YbulkijmDoorCards.lean) ties it to the program's text. -/
def laid_example_com_rookery_rookery_ErrPoolClosed {H : Type} : DataW H := .iface "*errors.errorString" (.ptr (.agg [.lit (.string [114, 111, 111, 107, 101, 114, 121, 58, 32, 112, 111, 111, 108, 32, 99, 108, 111, 115, 101, 100])]))

/-- 'rookery.LawS0454BEffect': WHATEVER THE INPUT: true; the input reads as it did. -/
def lawS0454BEffectSpec : ChangeSpec := { name := "lawS0454BEffect", vars := ["example.com/rookery/rookery.ErrPoolClosed"], fn := fun _ => fun
  | [d1, d2, d3, d4, d5, d6, d7, g1] => { results := [.lit (.bool true)], args := [d1, d2, d3, d4, d5, d6, d7], vars := [g1] }
  | _ => none }
def lawS0454BEffectRow : OpenClaim := { program := "ybulkijmdoor", sum := "4a498e6f91aa729f431f69354d97882733288e9ef3942d58701f5aa68980beb9", func := "example.com/rookery/rookery.LawS0454BEffect", spec := "lawS0454BEffect", inPlace := ["sync/atomic.StoreUint64", "sync/atomic.StoreInt64", "(*internal/sync.Mutex).Lock", "internal/race.Disable", "sync/atomic.CompareAndSwapInt32", "internal/race.Enable", "internal/race.Acquire", "(*internal/sync.Mutex).lockSlow", "internal/sync.runtime_canSpin", "internal/sync.runtime_doSpin", "internal/sync.throw", "internal/sync.runtime_nanotime", "internal/sync.runtime_SemacquireMutex", "sync/atomic.AddInt32", "(*internal/sync.Mutex).Unlock", "internal/race.ReleaseMerge", "(*internal/sync.Mutex).unlockSlow", "internal/sync.fatal", "internal/sync.runtime_Semrelease", "sync/atomic.OrUint64", "time.stopTimer", "sync/atomic.AddInt64", "sync/atomic.LoadUint64", "sync/atomic.LoadInt64"], unfollowed := true, recurses := true, named := ["example.com/rookery/rookery.ErrPoolClosed"], ifaces := true, apart := false, laid := [("example.com/rookery/rookery.ErrPoolClosed", laid_example_com_rookery_rookery_ErrPoolClosed)] }
def LawS0454BEffectSaid : Prop := lawS0454BEffectRow.holds Ybad.pinned (OpenSpec.ofChange lawS0454BEffectSpec)

/-- ITS FALSE NEIGHBOUR: 'it returns false'. Refute it at one input. -/
def lawS0454BEffectWrong : ChangeSpec := { name := "lawS0454BEffect", vars := ["example.com/rookery/rookery.ErrPoolClosed"], fn := fun _ => fun
  | [d1, d2, d3, d4, d5, d6, d7, g1] => { results := [.lit (.bool false)], args := [d1, d2, d3, d4, d5, d6, d7], vars := [g1] }
  | _ => none }
def LawS0454BEffectWrongFalsely : Prop := lawS0454BEffectRow.holds Ybad.pinned (OpenSpec.ofChange lawS0454BEffectWrong)

end Rows
end Go.Proofs.YbulkijmDoor
