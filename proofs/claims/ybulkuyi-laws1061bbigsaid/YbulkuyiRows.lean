/-
  No cell of these rows narrows 'for every input' (looked for: loops, veiled, ifaces, maps, wideKeys, modest, calm, conditions, laid).
  DERIVED. THE GIVEN ROWS OF THIS SEAT. 2 by the template 'for every input the law returns true; each argument reads behind the call as it read before'; 0 by the template 'total and deterministic' (their statements: YbulkuyiTotals.lean).
  GIVEN WITH THE SEED: the statements are not yours to turn. If you find one false, say at which input.
  Laid BY PROGRAM, IN A SANDBOX (cutbox-rows.mjs): the forced cells as the released guide's own fill.sh prints them over the translation 2ad624987278b038… (all of the seat's roots in one cut). By AI agents, Wed Nov 11 2026. No macro, syntax, notation, axiom, sorry.
-/
import Derived.Test.YbulkuyiChecked
import GoSem.Claim
import GoSem.ClaimJoined
import GoSem.ClaimMapViews
import Derived.JoinedTies
import Derived.KernelRfl
namespace Go.Proofs.Ybulkuyi
/- THE CELL 'sum', in the pinned program and in every row, IS THE sha256 OF THE DUMP (.gsa) THAT YbulkuyiProg.lean LOADS. Nothing in Lean hashes anything: it is a label: what it is worth is what the hold of that sum in a sandbox is worth. -/
noncomputable def Yba.pinned : Pinned := { name := "ybulkuyi", sum := "2ad624987278b038d2f9dc6447b3d5a734574e89c2043fdd7fe721d6eeff251a", checked := Yba.checked }
namespace Rows
def none {H : Type} : Left H := { results := [], args := [] }

/-- 'aurifer.LawS1061BFast': WHATEVER THE INPUT: true; the input reads as it did. -/
def lawS1061BFastSpec : ChangeSpec := { name := "lawS1061BFast", fn := fun _ => fun
  | [d1, d2, d3, d4] => { results := [.lit (.bool true)], args := [d1, d2, d3, d4] }
  | _ => none }
def lawS1061BFastRow : OpenClaim := { program := "ybulkuyi", sum := "2ad624987278b038d2f9dc6447b3d5a734574e89c2043fdd7fe721d6eeff251a", func := "example.com/aurifer/aurifer.LawS1061BFast", spec := "lawS1061BFast", apart := false }
def LawS1061BFastSaid : Prop := lawS1061BFastRow.holds Yba.pinned (OpenSpec.ofChange lawS1061BFastSpec)

/-- ITS FALSE NEIGHBOUR: 'it returns false'. Refute it at one input. -/
def lawS1061BFastWrong : ChangeSpec := { name := "lawS1061BFast", fn := fun _ => fun
  | [d1, d2, d3, d4] => { results := [.lit (.bool false)], args := [d1, d2, d3, d4] }
  | _ => none }
def LawS1061BFastWrongFalsely : Prop := lawS1061BFastRow.holds Yba.pinned (OpenSpec.ofChange lawS1061BFastWrong)

/-- 'aurifer.LawS1061BBig': WHATEVER THE INPUT: true; the input reads as it did. -/
def lawS1061BBigSpec : ChangeSpec := { name := "lawS1061BBig", fn := fun _ => fun
  | [d1, d2, d3, d4] => { results := [.lit (.bool true)], args := [d1, d2, d3, d4] }
  | _ => none }
def lawS1061BBigRow : OpenClaim := { program := "ybulkuyi", sum := "2ad624987278b038d2f9dc6447b3d5a734574e89c2043fdd7fe721d6eeff251a", func := "example.com/aurifer/aurifer.LawS1061BBig", spec := "lawS1061BBig", apart := false }
def LawS1061BBigSaid : Prop := lawS1061BBigRow.holds Yba.pinned (OpenSpec.ofChange lawS1061BBigSpec)

/-- ITS FALSE NEIGHBOUR: 'it returns false'. Refute it at one input. -/
def lawS1061BBigWrong : ChangeSpec := { name := "lawS1061BBig", fn := fun _ => fun
  | [d1, d2, d3, d4] => { results := [.lit (.bool false)], args := [d1, d2, d3, d4] }
  | _ => none }
def LawS1061BBigWrongFalsely : Prop := lawS1061BBigRow.holds Yba.pinned (OpenSpec.ofChange lawS1061BBigWrong)

end Rows
end Go.Proofs.Ybulkuyi
