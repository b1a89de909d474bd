/-
  No cell of these rows narrows 'for every input' (looked for: loops, veiled, ifaces, maps, wideKeys, modest, calm, conditions, laid).
  DERIVED. THE GIVEN ROWS OF THIS SEAT. 1 by the template 'for every input the law returns true; each argument reads behind the call as it read before'; 0 by the template 'total and deterministic' (their statements: YbulkitsTotals.lean).
  GIVEN WITH THE SEED: the statements are not yours to turn. If you find one false, say at which input.
  Laid BY PROGRAM, IN A SANDBOX (cutbox-rows.mjs): the forced cells as the released guide's own fill.sh prints them over the translation 6557d285f3b02e0d… (all of the seat's roots in one cut). By AI agents, Wed Nov 11 2026. No macro, syntax, notation, axiom, sorry.
-/
import Derived.Test.YbulkitsChecked
import GoSem.Claim
import GoSem.ClaimJoined
import GoSem.ClaimMapViews
import Derived.JoinedTies
import Derived.KernelRfl
namespace Go.Proofs.Ybulkits
/- THE CELL 'sum', in the pinned program and in every row, IS THE sha256 OF THE DUMP (.gsa) THAT YbulkitsProg.lean LOADS. Nothing in Lean hashes anything: it is a label: what it is worth is what the hold of that sum in a sandbox is worth. -/
noncomputable def Yba.pinned : Pinned := { name := "ybulkits", sum := "6557d285f3b02e0d2dcc69dff83360532423647102a4a8b3646008557d6ce7a2", checked := Yba.checked }
namespace Rows
def none {H : Type} : Left H := { results := [], args := [] }

/-- 'memnet.LawS0473BScript': WHATEVER THE INPUT: true; the input reads as it did. -/
def lawS0473BScriptSpec : ChangeSpec := { name := "lawS0473BScript", fn := fun _ => fun
  | [d] => { results := [.lit (.bool true)], args := [d] }
  | _ => none }
def lawS0473BScriptRow : OpenClaim := { program := "ybulkits", sum := "6557d285f3b02e0d2dcc69dff83360532423647102a4a8b3646008557d6ce7a2", func := "example.com/knotwatch/knotwatch/memnet.LawS0473BScript", spec := "lawS0473BScript", unfollowed := true, recurses := true, plainKeys := false, apart := false }
def LawS0473BScriptSaid : Prop := lawS0473BScriptRow.holds Yba.pinned (OpenSpec.ofChange lawS0473BScriptSpec)

/-- ITS FALSE NEIGHBOUR: 'it returns false'. Refute it at one input. -/
def lawS0473BScriptWrong : ChangeSpec := { name := "lawS0473BScript", fn := fun _ => fun
  | [d] => { results := [.lit (.bool false)], args := [d] }
  | _ => none }
def LawS0473BScriptWrongFalsely : Prop := lawS0473BScriptRow.holds Yba.pinned (OpenSpec.ofChange lawS0473BScriptWrong)

end Rows
end Go.Proofs.Ybulkits
