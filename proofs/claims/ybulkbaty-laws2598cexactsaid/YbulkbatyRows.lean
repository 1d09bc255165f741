/-
  No cell of these rows narrows 'for every input' (looked for: loops, veiled, ifaces, maps, wideKeys, modest, calm, conditions, laid).
  DERIVED. THE GIVEN ROWS OF THIS SEAT. 1 by the template 'for every input the law returns true; each argument reads behind the call as it read before'; 0 by the template 'total and deterministic' (their statements: YbulkbatyTotals.lean).
  GIVEN WITH THE SEED: the statements are not yours to turn. If you find one false, say at which input.
  Laid BY PROGRAM, IN A SANDBOX (cutbox-rows.mjs): the forced cells as the released guide's own fill.sh prints them over the translation 301c0c6cb57531d2… (all of the seat's roots in one cut). By AI agents, Wed Nov 11 2026. No macro, syntax, notation, axiom, sorry.
-/
import Derived.Test.YbulkbatyChecked
import GoSem.Claim
import GoSem.ClaimJoined
import GoSem.ClaimMapViews
import Derived.JoinedTies
import Derived.KernelRfl
namespace Go.Proofs.Ybulkbaty
/- THE CELL 'sum', in the pinned program and in every row, IS THE sha256 OF THE DUMP (.gsa) THAT YbulkbatyProg.lean LOADS. Nothing in Lean hashes anything: it is a label: what it is worth is what the hold of that sum in a sandbox is worth. -/
noncomputable def Yba.pinned : Pinned := { name := "ybulkbaty", sum := "301c0c6cb57531d2921a7babd0586daea8298f88cbed6c4b2f59314de70ece54", checked := Yba.checked }
namespace Rows
def none {H : Type} : Left H := { results := [], args := [] }

/-- 'brusque-doorman.LawS2598CExact': WHATEVER THE INPUT: true; the input reads as it did. -/
def lawS2598CExactSpec : ChangeSpec := { name := "lawS2598CExact", fn := fun _ => fun
  | [d] => { results := [.lit (.bool true)], args := [d] }
  | _ => none }
def lawS2598CExactRow : OpenClaim := { program := "ybulkbaty", sum := "301c0c6cb57531d2921a7babd0586daea8298f88cbed6c4b2f59314de70ece54", func := "example.com/brusque-doorman/brusque-doorman.LawS2598CExact", spec := "lawS2598CExact", apart := false }
def LawS2598CExactSaid : Prop := lawS2598CExactRow.holds Yba.pinned (OpenSpec.ofChange lawS2598CExactSpec)

/-- ITS FALSE NEIGHBOUR: 'it returns false'. Refute it at one input. -/
def lawS2598CExactWrong : ChangeSpec := { name := "lawS2598CExact", fn := fun _ => fun
  | [d] => { results := [.lit (.bool false)], args := [d] }
  | _ => none }
def LawS2598CExactWrongFalsely : Prop := lawS2598CExactRow.holds Yba.pinned (OpenSpec.ofChange lawS2598CExactWrong)

end Rows
end Go.Proofs.Ybulkbaty
