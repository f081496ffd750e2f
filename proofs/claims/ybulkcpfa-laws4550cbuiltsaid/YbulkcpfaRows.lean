/-
  No cell of these rows narrows 'for every input' (looked for: loops, veiled, ifaces, maps, wideKeys, modest, calm, conditions, laid).
  DERIVED. THE GIVEN ROWS OF THIS SEAT. 2 by the template 'for every input the law returns true; each argument reads behind the call as it read before'; 0 by the template 'total and deterministic' (their statements: YbulkcpfaTotals.lean).
  GIVEN WITH THE SEED: the statements are not yours to turn. If you find one false, say at which input.
  Laid BY PROGRAM, IN A SANDBOX (cutbox-rows.mjs): the forced cells as the released guide's own fill.sh prints them over the translation d75f9fa4417e2fdd… (all of the seat's roots in one cut). By AI agents, Wed Nov 11 2026. No macro, syntax, notation, axiom, sorry.
-/
import Derived.Test.YbulkcpfaChecked
import GoSem.Claim
import GoSem.ClaimJoined
import GoSem.ClaimMapViews
import Derived.JoinedTies
import Derived.KernelRfl
namespace Go.Proofs.Ybulkcpfa
/- THE CELL 'sum', in the pinned program and in every row, IS THE sha256 OF THE DUMP (.gsa) THAT YbulkcpfaProg.lean LOADS. Nothing in Lean hashes anything: it is a label: what it is worth is what the hold of that sum in a sandbox is worth. -/
noncomputable def Yba.pinned : Pinned := { name := "ybulkcpfa", sum := "d75f9fa4417e2fddc8e95b7eb0413160d7545f79fe3279e3c81bc3144dcc1f37", checked := Yba.checked }
namespace Rows
def none {H : Type} : Left H := { results := [], args := [] }

/-- 'tlsrpt.LawS4550CModel': WHATEVER THE INPUT: true; the input reads as it did. -/
def lawS4550CModelSpec : ChangeSpec := { name := "lawS4550CModel", fn := fun _ => fun
  | [d] => { results := [.lit (.bool true)], args := [d] }
  | _ => none }
def lawS4550CModelRow : OpenClaim := { program := "ybulkcpfa", sum := "d75f9fa4417e2fddc8e95b7eb0413160d7545f79fe3279e3c81bc3144dcc1f37", func := "example.com/ciphertally/ciphertally/internal/tlsrpt.LawS4550CModel", spec := "lawS4550CModel", apart := false }
def LawS4550CModelSaid : Prop := lawS4550CModelRow.holds Yba.pinned (OpenSpec.ofChange lawS4550CModelSpec)

/-- ITS FALSE NEIGHBOUR: 'it returns false'. Refute it at one input. -/
def lawS4550CModelWrong : ChangeSpec := { name := "lawS4550CModel", fn := fun _ => fun
  | [d] => { results := [.lit (.bool false)], args := [d] }
  | _ => none }
def LawS4550CModelWrongFalsely : Prop := lawS4550CModelRow.holds Yba.pinned (OpenSpec.ofChange lawS4550CModelWrong)

/-- 'tlsrpt.LawS4550CBuilt': WHATEVER THE INPUT: true; the input reads as it did. -/
def lawS4550CBuiltSpec : ChangeSpec := { name := "lawS4550CBuilt", fn := fun _ => fun
  | [d1, d2, d3] => { results := [.lit (.bool true)], args := [d1, d2, d3] }
  | _ => none }
def lawS4550CBuiltRow : OpenClaim := { program := "ybulkcpfa", sum := "d75f9fa4417e2fddc8e95b7eb0413160d7545f79fe3279e3c81bc3144dcc1f37", func := "example.com/ciphertally/ciphertally/internal/tlsrpt.LawS4550CBuilt", spec := "lawS4550CBuilt", apart := false }
def LawS4550CBuiltSaid : Prop := lawS4550CBuiltRow.holds Yba.pinned (OpenSpec.ofChange lawS4550CBuiltSpec)

/-- ITS FALSE NEIGHBOUR: 'it returns false'. Refute it at one input. -/
def lawS4550CBuiltWrong : ChangeSpec := { name := "lawS4550CBuilt", fn := fun _ => fun
  | [d1, d2, d3] => { results := [.lit (.bool false)], args := [d1, d2, d3] }
  | _ => none }
def LawS4550CBuiltWrongFalsely : Prop := lawS4550CBuiltRow.holds Yba.pinned (OpenSpec.ofChange lawS4550CBuiltWrong)

end Rows
end Go.Proofs.Ybulkcpfa
