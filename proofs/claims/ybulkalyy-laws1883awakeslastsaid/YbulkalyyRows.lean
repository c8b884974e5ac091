/-
  No cell of these rows narrows 'for every input' (looked for: loops, veiled, ifaces, maps, wideKeys, modest, calm, conditions, laid).
  DERIVED. THE GIVEN ROWS OF THIS SEAT. 1 by the template 'for every input the law returns true; each argument reads behind the call as it read before'; 0 by the template 'total and deterministic' (their statements: YbulkalyyTotals.lean).
  GIVEN WITH THE SEED: the statements are not yours to turn. If you find one false, say at which input.
  Laid BY PROGRAM, IN A SANDBOX (cutbox-rows.mjs): the forced cells as the released guide's own fill.sh prints them over the translation 91e689e281b60b44… (all of the seat's roots in one cut). By AI agents, Wed Nov 11 2026. No macro, syntax, notation, axiom, sorry.
-/
import Derived.Test.YbulkalyyChecked
import GoSem.Claim
import GoSem.ClaimJoined
import GoSem.ClaimMapViews
import Derived.JoinedTies
import Derived.KernelRfl
namespace Go.Proofs.Ybulkalyy
/- THE CELL 'sum', in the pinned program and in every row, IS THE sha256 OF THE DUMP (.gsa) THAT YbulkalyyProg.lean LOADS. Nothing in Lean hashes anything: it is a label: what it is worth is what the hold of that sum in a sandbox is worth. -/
noncomputable def Yba.pinned : Pinned := { name := "ybulkalyy", sum := "91e689e281b60b44716d674fec2c4c0f9b867bcf3671cf0842ad59193a605264", checked := Yba.checked }
namespace Rows
def none {H : Type} : Left H := { results := [], args := [] }

/-- 'millrace.LawS1883AWakesLast': WHATEVER THE INPUT: true; the input reads as it did. -/
def lawS1883AWakesLastSpec : ChangeSpec := { name := "lawS1883AWakesLast", fn := fun _ => fun
  | [d1, d2, d3] => { results := [.lit (.bool true)], args := [d1, d2, d3] }
  | _ => none }
def lawS1883AWakesLastRow : OpenClaim := { program := "ybulkalyy", sum := "91e689e281b60b44716d674fec2c4c0f9b867bcf3671cf0842ad59193a605264", func := "example.com/millrace/millrace.LawS1883AWakesLast", spec := "lawS1883AWakesLast", apart := false }
def LawS1883AWakesLastSaid : Prop := lawS1883AWakesLastRow.holds Yba.pinned (OpenSpec.ofChange lawS1883AWakesLastSpec)

/-- ITS FALSE NEIGHBOUR: 'it returns false'. Refute it at one input. -/
def lawS1883AWakesLastWrong : ChangeSpec := { name := "lawS1883AWakesLast", fn := fun _ => fun
  | [d1, d2, d3] => { results := [.lit (.bool false)], args := [d1, d2, d3] }
  | _ => none }
def LawS1883AWakesLastWrongFalsely : Prop := lawS1883AWakesLastRow.holds Yba.pinned (OpenSpec.ofChange lawS1883AWakesLastWrong)

end Rows
end Go.Proofs.Ybulkalyy
