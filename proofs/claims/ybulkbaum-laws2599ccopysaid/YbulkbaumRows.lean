/-
  No cell of these rows narrows 'for every input' (looked for: loops, veiled, ifaces, maps, wideKeys, modest, calm, conditions, laid).
  DERIVED. THE GIVEN ROWS OF THIS SEAT. 2 by the template 'for every input the law returns true; each argument reads behind the call as it read before'; 0 by the template 'total and deterministic' (their statements: YbulkbaumTotals.lean).
  GIVEN WITH THE SEED: the statements are not yours to turn. If you find one false, say at which input.
  Laid BY PROGRAM, IN A SANDBOX (cutbox-rows.mjs): the forced cells as the released guide's own fill.sh prints them over the translation ef98d8d3f38aa549… (all of the seat's roots in one cut). By AI agents, Wed Nov 11 2026. No macro, syntax, notation, axiom, sorry.
-/
import Derived.Test.YbulkbaumChecked
import GoSem.Claim
import GoSem.ClaimJoined
import GoSem.ClaimMapViews
import Derived.JoinedTies
import Derived.KernelRfl
namespace Go.Proofs.Ybulkbaum
/- THE CELL 'sum', in the pinned program and in every row, IS THE sha256 OF THE DUMP (.gsa) THAT YbulkbaumProg.lean LOADS. Nothing in Lean hashes anything: it is a label: what it is worth is what the hold of that sum in a sandbox is worth. -/
noncomputable def Yba.pinned : Pinned := { name := "ybulkbaum", sum := "ef98d8d3f38aa549d2168ff91e5c5cbebeb07f2fe7dc6ca5748e65673089a7d8", checked := Yba.checked }
namespace Rows
def none {H : Type} : Left H := { results := [], args := [] }

/-- 'check.LawS2599CAgrees': WHATEVER THE INPUT: true; the input reads as it did. -/
def lawS2599CAgreesSpec : ChangeSpec := { name := "lawS2599CAgrees", fn := fun _ => fun
  | [d1, d2] => { results := [.lit (.bool true)], args := [d1, d2] }
  | _ => none }
def lawS2599CAgreesRow : OpenClaim := { program := "ybulkbaum", sum := "ef98d8d3f38aa549d2168ff91e5c5cbebeb07f2fe7dc6ca5748e65673089a7d8", func := "example.com/ledgerline/ledgerline/check.LawS2599CAgrees", spec := "lawS2599CAgrees", apart := false }
def LawS2599CAgreesSaid : Prop := lawS2599CAgreesRow.holds Yba.pinned (OpenSpec.ofChange lawS2599CAgreesSpec)

/-- ITS FALSE NEIGHBOUR: 'it returns false'. Refute it at one input. -/
def lawS2599CAgreesWrong : ChangeSpec := { name := "lawS2599CAgrees", fn := fun _ => fun
  | [d1, d2] => { results := [.lit (.bool false)], args := [d1, d2] }
  | _ => none }
def LawS2599CAgreesWrongFalsely : Prop := lawS2599CAgreesRow.holds Yba.pinned (OpenSpec.ofChange lawS2599CAgreesWrong)

/-- 'check.LawS2599CCopy': WHATEVER THE INPUT: true; the input reads as it did. -/
def lawS2599CCopySpec : ChangeSpec := { name := "lawS2599CCopy", fn := fun _ => fun
  | [d1, d2, d3, d4] => { results := [.lit (.bool true)], args := [d1, d2, d3, d4] }
  | _ => none }
def lawS2599CCopyRow : OpenClaim := { program := "ybulkbaum", sum := "ef98d8d3f38aa549d2168ff91e5c5cbebeb07f2fe7dc6ca5748e65673089a7d8", func := "example.com/ledgerline/ledgerline/check.LawS2599CCopy", spec := "lawS2599CCopy", apart := false }
def LawS2599CCopySaid : Prop := lawS2599CCopyRow.holds Yba.pinned (OpenSpec.ofChange lawS2599CCopySpec)

/-- ITS FALSE NEIGHBOUR: 'it returns false'. Refute it at one input. -/
def lawS2599CCopyWrong : ChangeSpec := { name := "lawS2599CCopy", fn := fun _ => fun
  | [d1, d2, d3, d4] => { results := [.lit (.bool false)], args := [d1, d2, d3, d4] }
  | _ => none }
def LawS2599CCopyWrongFalsely : Prop := lawS2599CCopyRow.holds Yba.pinned (OpenSpec.ofChange lawS2599CCopyWrong)

end Rows
end Go.Proofs.Ybulkbaum
