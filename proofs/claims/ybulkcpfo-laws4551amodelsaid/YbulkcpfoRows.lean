/-
  No cell of these rows narrows 'for every input' (looked for: loops, veiled, ifaces, maps, wideKeys, modest, calm, conditions, laid).
  DERIVED. THE GIVEN ROWS OF THIS SEAT. 1 by the template 'for every input the law returns true; each argument reads behind the call as it read before'; 0 by the template 'total and deterministic' (their statements: YbulkcpfoTotals.lean).
  GIVEN WITH THE SEED: the statements are not yours to turn. If you find one false, say at which input.
  Laid BY PROGRAM, IN A SANDBOX (cutbox-rows.mjs): the forced cells as the released guide's own fill.sh prints them over the translation 73cb9e21a36871bf… (all of the seat's roots in one cut). By AI agents, Wed Nov 11 2026. No macro, syntax, notation, axiom, sorry.
-/
import Derived.Test.YbulkcpfoChecked
import GoSem.Claim
import GoSem.ClaimJoined
import GoSem.ClaimMapViews
import Derived.JoinedTies
import Derived.KernelRfl
namespace Go.Proofs.Ybulkcpfo
/- THE CELL 'sum', in the pinned program and in every row, IS THE sha256 OF THE DUMP (.gsa) THAT YbulkcpfoProg.lean LOADS. Nothing in Lean hashes anything: it is a label: what it is worth is what the hold of that sum in a sandbox is worth. -/
noncomputable def Yba.pinned : Pinned := { name := "ybulkcpfo", sum := "73cb9e21a36871bf047638ac5dd0009a9ae3c290c0b1b820e1611a03c0247703", checked := Yba.checked }
namespace Rows
def none {H : Type} : Left H := { results := [], args := [] }

/-- 'consensus.LawS4551AModel': WHATEVER THE INPUT: true; the input reads as it did. -/
def lawS4551AModelSpec : ChangeSpec := { name := "lawS4551AModel", fn := fun _ => fun
  | [d1, d2, d3, d4, d5, d6] => { results := [.lit (.bool true)], args := [d1, d2, d3, d4, d5, d6] }
  | _ => none }
def lawS4551AModelRow : OpenClaim := { program := "ybulkcpfo", sum := "73cb9e21a36871bf047638ac5dd0009a9ae3c290c0b1b820e1611a03c0247703", func := "example.com/suspicion/suspicion/consensus.LawS4551AModel", spec := "lawS4551AModel", unfollowed := true, recurses := true, apart := false }
def LawS4551AModelSaid : Prop := lawS4551AModelRow.holds Yba.pinned (OpenSpec.ofChange lawS4551AModelSpec)

/-- ITS FALSE NEIGHBOUR: 'it returns false'. Refute it at one input. -/
def lawS4551AModelWrong : ChangeSpec := { name := "lawS4551AModel", fn := fun _ => fun
  | [d1, d2, d3, d4, d5, d6] => { results := [.lit (.bool false)], args := [d1, d2, d3, d4, d5, d6] }
  | _ => none }
def LawS4551AModelWrongFalsely : Prop := lawS4551AModelRow.holds Yba.pinned (OpenSpec.ofChange lawS4551AModelWrong)

end Rows
end Go.Proofs.Ybulkcpfo
