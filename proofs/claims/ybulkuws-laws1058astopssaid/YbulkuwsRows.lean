/-
  No cell of these rows narrows 'for every input' (looked for: loops, veiled, ifaces, maps, wideKeys, modest, calm, conditions, laid).
  DERIVED. THE GIVEN ROWS OF THIS SEAT. 7 by the template 'for every input the law returns true; each argument reads behind the call as it read before'; 0 by the template 'total and deterministic' (their statements: YbulkuwsTotals.lean).
  GIVEN WITH THE SEED: the statements are not yours to turn. If you find one false, say at which input.
  Laid BY PROGRAM, IN A SANDBOX (cutbox-rows.mjs): the forced cells as the released guide's own fill.sh prints them over the translation 50ed55174230419e… (all of the seat's roots in one cut). By AI agents, Wed Nov 11 2026. No macro, syntax, notation, axiom, sorry.
-/
import Derived.Test.YbulkuwsChecked
import GoSem.Claim
import GoSem.ClaimJoined
import GoSem.ClaimMapViews
import Derived.JoinedTies
import Derived.KernelRfl
namespace Go.Proofs.Ybulkuws
/- THE CELL 'sum', in the pinned program and in every row, IS THE sha256 OF THE DUMP (.gsa) THAT YbulkuwsProg.lean LOADS. Nothing in Lean hashes anything: it is a label: what it is worth is what the hold of that sum in a sandbox is worth. -/
noncomputable def Yba.pinned : Pinned := { name := "ybulkuws", sum := "50ed55174230419e63a2151513320d56281655b69e74efa31798ea2c393c3ccf", checked := Yba.checked }
namespace Rows
def none {H : Type} : Left H := { results := [], args := [] }

/-- 'journal.LawS1058ASpans': WHATEVER THE INPUT: true; the input reads as it did. -/
def lawS1058ASpansSpec : ChangeSpec := { name := "lawS1058ASpans", fn := fun _ => fun
  | [d] => { results := [.lit (.bool true)], args := [d] }
  | _ => none }
def lawS1058ASpansRow : OpenClaim := { program := "ybulkuws", sum := "50ed55174230419e63a2151513320d56281655b69e74efa31798ea2c393c3ccf", func := "example.com/amends/amends/internal/journal.LawS1058ASpans", spec := "lawS1058ASpans", unfollowed := true, recurses := true, plainKeys := false, apart := false }
def LawS1058ASpansSaid : Prop := lawS1058ASpansRow.holds Yba.pinned (OpenSpec.ofChange lawS1058ASpansSpec)

/-- ITS FALSE NEIGHBOUR: 'it returns false'. Refute it at one input. -/
def lawS1058ASpansWrong : ChangeSpec := { name := "lawS1058ASpans", fn := fun _ => fun
  | [d] => { results := [.lit (.bool false)], args := [d] }
  | _ => none }
def LawS1058ASpansWrongFalsely : Prop := lawS1058ASpansRow.holds Yba.pinned (OpenSpec.ofChange lawS1058ASpansWrong)

/-- 'journal.LawS1058AStops': WHATEVER THE INPUT: true; the input reads as it did. -/
def lawS1058AStopsSpec : ChangeSpec := { name := "lawS1058AStops", fn := fun _ => fun
  | [d1, d2] => { results := [.lit (.bool true)], args := [d1, d2] }
  | _ => none }
def lawS1058AStopsRow : OpenClaim := { program := "ybulkuws", sum := "50ed55174230419e63a2151513320d56281655b69e74efa31798ea2c393c3ccf", func := "example.com/amends/amends/internal/journal.LawS1058AStops", spec := "lawS1058AStops", unfollowed := true, recurses := true, plainKeys := false, apart := false }
def LawS1058AStopsSaid : Prop := lawS1058AStopsRow.holds Yba.pinned (OpenSpec.ofChange lawS1058AStopsSpec)

/-- ITS FALSE NEIGHBOUR: 'it returns false'. Refute it at one input. -/
def lawS1058AStopsWrong : ChangeSpec := { name := "lawS1058AStops", fn := fun _ => fun
  | [d1, d2] => { results := [.lit (.bool false)], args := [d1, d2] }
  | _ => none }
def LawS1058AStopsWrongFalsely : Prop := lawS1058AStopsRow.holds Yba.pinned (OpenSpec.ofChange lawS1058AStopsWrong)

/-- 'journal.LawS1058BStep': WHATEVER THE INPUT: true; the input reads as it did. -/
def lawS1058BStepSpec : ChangeSpec := { name := "lawS1058BStep", fn := fun _ => fun
  | [d1, d2, d3] => { results := [.lit (.bool true)], args := [d1, d2, d3] }
  | _ => none }
def lawS1058BStepRow : OpenClaim := { program := "ybulkuws", sum := "50ed55174230419e63a2151513320d56281655b69e74efa31798ea2c393c3ccf", func := "example.com/amends/amends/internal/journal.LawS1058BStep", spec := "lawS1058BStep", plainKeys := false, apart := false }
def LawS1058BStepSaid : Prop := lawS1058BStepRow.holds Yba.pinned (OpenSpec.ofChange lawS1058BStepSpec)

/-- ITS FALSE NEIGHBOUR: 'it returns false'. Refute it at one input. -/
def lawS1058BStepWrong : ChangeSpec := { name := "lawS1058BStep", fn := fun _ => fun
  | [d1, d2, d3] => { results := [.lit (.bool false)], args := [d1, d2, d3] }
  | _ => none }
def LawS1058BStepWrongFalsely : Prop := lawS1058BStepRow.holds Yba.pinned (OpenSpec.ofChange lawS1058BStepWrong)

/-- 'journal.LawS1058BSeq': WHATEVER THE INPUT: true; the input reads as it did. -/
def lawS1058BSeqSpec : ChangeSpec := { name := "lawS1058BSeq", fn := fun _ => fun
  | [d1, d2] => { results := [.lit (.bool true)], args := [d1, d2] }
  | _ => none }
def lawS1058BSeqRow : OpenClaim := { program := "ybulkuws", sum := "50ed55174230419e63a2151513320d56281655b69e74efa31798ea2c393c3ccf", func := "example.com/amends/amends/internal/journal.LawS1058BSeq", spec := "lawS1058BSeq", plainKeys := false, apart := false }
def LawS1058BSeqSaid : Prop := lawS1058BSeqRow.holds Yba.pinned (OpenSpec.ofChange lawS1058BSeqSpec)

/-- ITS FALSE NEIGHBOUR: 'it returns false'. Refute it at one input. -/
def lawS1058BSeqWrong : ChangeSpec := { name := "lawS1058BSeq", fn := fun _ => fun
  | [d1, d2] => { results := [.lit (.bool false)], args := [d1, d2] }
  | _ => none }
def LawS1058BSeqWrongFalsely : Prop := lawS1058BSeqRow.holds Yba.pinned (OpenSpec.ofChange lawS1058BSeqWrong)

/-- 'amends.LawS1058CIsMethod': WHATEVER THE INPUT: true; the input reads as it did. -/
def lawS1058CIsMethodSpec : ChangeSpec := { name := "lawS1058CIsMethod", fn := fun _ => fun
  | [d1, d2] => { results := [.lit (.bool true)], args := [d1, d2] }
  | _ => none }
def lawS1058CIsMethodRow : OpenClaim := { program := "ybulkuws", sum := "50ed55174230419e63a2151513320d56281655b69e74efa31798ea2c393c3ccf", func := "example.com/amends/amends.LawS1058CIsMethod", spec := "lawS1058CIsMethod", inPlace := ["internal/reflectlite.TypeOf"], unfollowed := true, recurses := true, plainKeys := false, apart := false }
def LawS1058CIsMethodSaid : Prop := lawS1058CIsMethodRow.holds Yba.pinned (OpenSpec.ofChange lawS1058CIsMethodSpec)

/-- ITS FALSE NEIGHBOUR: 'it returns false'. Refute it at one input. -/
def lawS1058CIsMethodWrong : ChangeSpec := { name := "lawS1058CIsMethod", fn := fun _ => fun
  | [d1, d2] => { results := [.lit (.bool false)], args := [d1, d2] }
  | _ => none }
def LawS1058CIsMethodWrongFalsely : Prop := lawS1058CIsMethodRow.holds Yba.pinned (OpenSpec.ofChange lawS1058CIsMethodWrong)

/-- 'amends.LawS1058CWrapped': WHATEVER THE INPUT: true; the input reads as it did. -/
def lawS1058CWrappedSpec : ChangeSpec := { name := "lawS1058CWrapped", fn := fun _ => fun
  | [d1, d2, d3] => { results := [.lit (.bool true)], args := [d1, d2, d3] }
  | _ => none }
def lawS1058CWrappedRow : OpenClaim := { program := "ybulkuws", sum := "50ed55174230419e63a2151513320d56281655b69e74efa31798ea2c393c3ccf", func := "example.com/amends/amends.LawS1058CWrapped", spec := "lawS1058CWrapped", inPlace := ["internal/reflectlite.TypeOf"], unfollowed := true, recurses := true, plainKeys := false, apart := false }
def LawS1058CWrappedSaid : Prop := lawS1058CWrappedRow.holds Yba.pinned (OpenSpec.ofChange lawS1058CWrappedSpec)

/-- ITS FALSE NEIGHBOUR: 'it returns false'. Refute it at one input. -/
def lawS1058CWrappedWrong : ChangeSpec := { name := "lawS1058CWrapped", fn := fun _ => fun
  | [d1, d2, d3] => { results := [.lit (.bool false)], args := [d1, d2, d3] }
  | _ => none }
def LawS1058CWrappedWrongFalsely : Prop := lawS1058CWrappedRow.holds Yba.pinned (OpenSpec.ofChange lawS1058CWrappedWrong)

/-- 'amends.LawS1058CNilErr': WHATEVER THE INPUT: true; the input reads as it did. -/
def lawS1058CNilErrSpec : ChangeSpec := { name := "lawS1058CNilErr", fn := fun _ => fun
  | [d] => { results := [.lit (.bool true)], args := [d] }
  | _ => none }
def lawS1058CNilErrRow : OpenClaim := { program := "ybulkuws", sum := "50ed55174230419e63a2151513320d56281655b69e74efa31798ea2c393c3ccf", func := "example.com/amends/amends.LawS1058CNilErr", spec := "lawS1058CNilErr", inPlace := ["internal/reflectlite.TypeOf"], unfollowed := true, recurses := true, plainKeys := false, apart := false }
def LawS1058CNilErrSaid : Prop := lawS1058CNilErrRow.holds Yba.pinned (OpenSpec.ofChange lawS1058CNilErrSpec)

/-- ITS FALSE NEIGHBOUR: 'it returns false'. Refute it at one input. -/
def lawS1058CNilErrWrong : ChangeSpec := { name := "lawS1058CNilErr", fn := fun _ => fun
  | [d] => { results := [.lit (.bool false)], args := [d] }
  | _ => none }
def LawS1058CNilErrWrongFalsely : Prop := lawS1058CNilErrRow.holds Yba.pinned (OpenSpec.ofChange lawS1058CNilErrWrong)

end Rows
end Go.Proofs.Ybulkuws
