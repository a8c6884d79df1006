/-
  No cell of these rows narrows 'for every input' (looked for: loops, veiled, ifaces, maps, wideKeys, modest, calm, conditions, laid).
  DERIVED. THE GIVEN ROWS OF THIS SEAT. 2 by the template 'for every input the law returns true; each argument reads behind the call as it read before'; 0 by the template 'total and deterministic' (their statements: YbulklhkTotals.lean).
  GIVEN WITH THE SEED: the statements are not yours to turn. If you find one false, say at which input.
  Laid BY PROGRAM, IN A SANDBOX (cutbox-rows.mjs): the forced cells as the released guide's own fill.sh prints them over the translation 47c37f8cef496e7a… (all of the seat's roots in one cut). By AI agents, Wed Nov 11 2026. No macro, syntax, notation, axiom, sorry.
-/
import Derived.Test.YbulklhkChecked
import GoSem.Claim
import GoSem.ClaimJoined
import GoSem.ClaimMapViews
import Derived.JoinedTies
import Derived.KernelRfl
namespace Go.Proofs.Ybulklhk
/- THE CELL 'sum', in the pinned program and in every row, IS THE sha256 OF THE DUMP (.gsa) THAT YbulklhkProg.lean LOADS. Nothing in Lean hashes anything: it is a label: what it is worth is what the hold of that sum in a sandbox is worth. -/
noncomputable def Yba.pinned : Pinned := { name := "ybulklhk", sum := "47c37f8cef496e7a7b93308faee65ce1134f9d29b57ae9f697c29b19ccec1f48", checked := Yba.checked }
namespace Rows
def none {H : Type} : Left H := { results := [], args := [] }

/-- 'query.LawS0595AExact': WHATEVER THE INPUT: true; the input reads as it did. -/
def lawS0595AExactSpec : ChangeSpec := { name := "lawS0595AExact", fn := fun _ => fun
  | [d] => { results := [.lit (.bool true)], args := [d] }
  | _ => none }
def lawS0595AExactRow : OpenClaim := { program := "ybulklhk", sum := "47c37f8cef496e7a7b93308faee65ce1134f9d29b57ae9f697c29b19ccec1f48", func := "example.com/tideline/tideline/internal/query.LawS0595AExact", spec := "lawS0595AExact", apart := false }
def LawS0595AExactSaid : Prop := lawS0595AExactRow.holds Yba.pinned (OpenSpec.ofChange lawS0595AExactSpec)

/-- ITS FALSE NEIGHBOUR: 'it returns false'. Refute it at one input. -/
def lawS0595AExactWrong : ChangeSpec := { name := "lawS0595AExact", fn := fun _ => fun
  | [d] => { results := [.lit (.bool false)], args := [d] }
  | _ => none }
def LawS0595AExactWrongFalsely : Prop := lawS0595AExactRow.holds Yba.pinned (OpenSpec.ofChange lawS0595AExactWrong)

/-- 'query.LawS0595ABuilt': WHATEVER THE INPUT: true; the input reads as it did. -/
def lawS0595ABuiltSpec : ChangeSpec := { name := "lawS0595ABuilt", fn := fun _ => fun
  | [d1, d2, d3] => { results := [.lit (.bool true)], args := [d1, d2, d3] }
  | _ => none }
def lawS0595ABuiltRow : OpenClaim := { program := "ybulklhk", sum := "47c37f8cef496e7a7b93308faee65ce1134f9d29b57ae9f697c29b19ccec1f48", func := "example.com/tideline/tideline/internal/query.LawS0595ABuilt", spec := "lawS0595ABuilt", apart := false }
def LawS0595ABuiltSaid : Prop := lawS0595ABuiltRow.holds Yba.pinned (OpenSpec.ofChange lawS0595ABuiltSpec)

/-- ITS FALSE NEIGHBOUR: 'it returns false'. Refute it at one input. -/
def lawS0595ABuiltWrong : ChangeSpec := { name := "lawS0595ABuilt", fn := fun _ => fun
  | [d1, d2, d3] => { results := [.lit (.bool false)], args := [d1, d2, d3] }
  | _ => none }
def LawS0595ABuiltWrongFalsely : Prop := lawS0595ABuiltRow.holds Yba.pinned (OpenSpec.ofChange lawS0595ABuiltWrong)

end Rows
end Go.Proofs.Ybulklhk
