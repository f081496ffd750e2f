/-
  No cell of these rows narrows 'for every input' (looked for: loops, veiled, ifaces, maps, wideKeys, modest, calm, conditions, laid).
  DERIVED. THE GIVEN ROWS OF THIS SEAT. 2 by the template 'for every input the law returns true; each argument reads behind the call as it read before'; 0 by the template 'total and deterministic' (their statements: YbulkcpbuTotals.lean).
  GIVEN WITH THE SEED: the statements are not yours to turn. If you find one false, say at which input.
  Laid BY PROGRAM, IN A SANDBOX (cutbox-rows.mjs): the forced cells as the released guide's own fill.sh prints them over the translation 5c04f4c938d35eb5… (all of the seat's roots in one cut). By AI agents, Wed Nov 11 2026. No macro, syntax, notation, axiom, sorry.
-/
import Derived.Test.YbulkcpbuChecked
import GoSem.Claim
import GoSem.ClaimJoined
import GoSem.ClaimMapViews
import Derived.JoinedTies
import Derived.KernelRfl
namespace Go.Proofs.Ybulkcpbu
/- THE CELL 'sum', in the pinned program and in every row, IS THE sha256 OF THE DUMP (.gsa) THAT YbulkcpbuProg.lean LOADS. Nothing in Lean hashes anything: it is a label: what it is worth is what the hold of that sum in a sandbox is worth. -/
noncomputable def Yba.pinned : Pinned := { name := "ybulkcpbu", sum := "5c04f4c938d35eb5bc593daac1e2558ac449a6d1e456a7e117fb69d422505342", checked := Yba.checked }
namespace Rows
def none {H : Type} : Left H := { results := [], args := [] }

/-- 'countersign.LawS4544AExact': WHATEVER THE INPUT: true; the input reads as it did. -/
def lawS4544AExactSpec : ChangeSpec := { name := "lawS4544AExact", fn := fun _ => fun
  | [d1, d2] => { results := [.lit (.bool true)], args := [d1, d2] }
  | _ => none }
def lawS4544AExactRow : OpenClaim := { program := "ybulkcpbu", sum := "5c04f4c938d35eb5bc593daac1e2558ac449a6d1e456a7e117fb69d422505342", func := "example.com/countersign/countersign.LawS4544AExact", spec := "lawS4544AExact", apart := false }
def LawS4544AExactSaid : Prop := lawS4544AExactRow.holds Yba.pinned (OpenSpec.ofChange lawS4544AExactSpec)

/-- ITS FALSE NEIGHBOUR: 'it returns false'. Refute it at one input. -/
def lawS4544AExactWrong : ChangeSpec := { name := "lawS4544AExact", fn := fun _ => fun
  | [d1, d2] => { results := [.lit (.bool false)], args := [d1, d2] }
  | _ => none }
def LawS4544AExactWrongFalsely : Prop := lawS4544AExactRow.holds Yba.pinned (OpenSpec.ofChange lawS4544AExactWrong)

/-- 'countersign.LawS4544ALength': WHATEVER THE INPUT: true; the input reads as it did. -/
def lawS4544ALengthSpec : ChangeSpec := { name := "lawS4544ALength", fn := fun _ => fun
  | [d1, d2] => { results := [.lit (.bool true)], args := [d1, d2] }
  | _ => none }
def lawS4544ALengthRow : OpenClaim := { program := "ybulkcpbu", sum := "5c04f4c938d35eb5bc593daac1e2558ac449a6d1e456a7e117fb69d422505342", func := "example.com/countersign/countersign.LawS4544ALength", spec := "lawS4544ALength", apart := false }
def LawS4544ALengthSaid : Prop := lawS4544ALengthRow.holds Yba.pinned (OpenSpec.ofChange lawS4544ALengthSpec)

/-- ITS FALSE NEIGHBOUR: 'it returns false'. Refute it at one input. -/
def lawS4544ALengthWrong : ChangeSpec := { name := "lawS4544ALength", fn := fun _ => fun
  | [d1, d2] => { results := [.lit (.bool false)], args := [d1, d2] }
  | _ => none }
def LawS4544ALengthWrongFalsely : Prop := lawS4544ALengthRow.holds Yba.pinned (OpenSpec.ofChange lawS4544ALengthWrong)

end Rows
end Go.Proofs.Ybulkcpbu
