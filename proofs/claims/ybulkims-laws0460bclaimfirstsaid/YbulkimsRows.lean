/-
  No cell of these rows narrows 'for every input' (looked for: loops, veiled, ifaces, maps, wideKeys, modest, calm, conditions, laid).
  DERIVED. THE GIVEN ROWS OF THIS SEAT. 1 by the template 'for every input the law returns true; each argument reads behind the call as it read before'; 0 by the template 'total and deterministic' (their statements: YbulkimsTotals.lean).
  GIVEN WITH THE SEED: the statements are not yours to turn. If you find one false, say at which input.
  Laid BY PROGRAM, IN A SANDBOX (cutbox-rows.mjs): the forced cells as the released guide's own fill.sh prints them over the translation 9868dda03ddbe00d… (all of the seat's roots in one cut). By AI agents, Wed Nov 11 2026. No macro, syntax, notation, axiom, sorry.
-/
import Derived.Test.YbulkimsChecked
import GoSem.Claim
import GoSem.ClaimJoined
import GoSem.ClaimMapViews
import Derived.JoinedTies
import Derived.KernelRfl
namespace Go.Proofs.Ybulkims
/- THE CELL 'sum', in the pinned program and in every row, IS THE sha256 OF THE DUMP (.gsa) THAT YbulkimsProg.lean LOADS. Nothing in Lean hashes anything: it is a label: what it is worth is what the hold of that sum in a sandbox is worth. -/
noncomputable def Yba.pinned : Pinned := { name := "ybulkims", sum := "9868dda03ddbe00d1b13888c8cf99f8d0ebecc63f6cc7a913bf1f293f43a6285", checked := Yba.checked }
namespace Rows
def none {H : Type} : Left H := { results := [], args := [] }

/-- 'culvert.LawS0460BClaimFirst': WHATEVER THE INPUT: true; the input reads as it did. -/
def lawS0460BClaimFirstSpec : ChangeSpec := { name := "lawS0460BClaimFirst", fn := fun _ => fun
  | [d] => { results := [.lit (.bool true)], args := [d] }
  | _ => none }
def lawS0460BClaimFirstRow : OpenClaim := { program := "ybulkims", sum := "9868dda03ddbe00d1b13888c8cf99f8d0ebecc63f6cc7a913bf1f293f43a6285", func := "example.com/culvert/culvert.LawS0460BClaimFirst", spec := "lawS0460BClaimFirst", inPlace := ["sync/atomic.StoreUint64", "sync/atomic.CompareAndSwapUint64", "sync/atomic.LoadUint64"], apart := false }
def LawS0460BClaimFirstSaid : Prop := lawS0460BClaimFirstRow.holds Yba.pinned (OpenSpec.ofChange lawS0460BClaimFirstSpec)

/-- ITS FALSE NEIGHBOUR: 'it returns false'. Refute it at one input. -/
def lawS0460BClaimFirstWrong : ChangeSpec := { name := "lawS0460BClaimFirst", fn := fun _ => fun
  | [d] => { results := [.lit (.bool false)], args := [d] }
  | _ => none }
def LawS0460BClaimFirstWrongFalsely : Prop := lawS0460BClaimFirstRow.holds Yba.pinned (OpenSpec.ofChange lawS0460BClaimFirstWrong)

end Rows
end Go.Proofs.Ybulkims
