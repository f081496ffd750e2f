/-
  No cell of these rows narrows 'for every input' (looked for: loops, veiled, ifaces, maps, wideKeys, modest, calm, conditions, laid).
  DERIVED. THE GIVEN ROWS OF THIS SEAT. 2 by the template 'for every input the law returns true; each argument reads behind the call as it read before'; 0 by the template 'total and deterministic' (their statements: YbulkcpgqTotals.lean).
  GIVEN WITH THE SEED: the statements are not yours to turn. If you find one false, say at which input.
  Laid BY PROGRAM, IN A SANDBOX (cutbox-rows.mjs): the forced cells as the released guide's own fill.sh prints them over the translation 2b0e5b230836223e… (all of the seat's roots in one cut). By AI agents, Wed Nov 11 2026. No macro, syntax, notation, axiom, sorry.
-/
import Derived.Test.YbulkcpgqChecked
import GoSem.Claim
import GoSem.ClaimJoined
import GoSem.ClaimMapViews
import Derived.JoinedTies
import Derived.KernelRfl
namespace Go.Proofs.Ybulkcpgq
/- THE CELL 'sum', in the pinned program and in every row, IS THE sha256 OF THE DUMP (.gsa) THAT YbulkcpgqProg.lean LOADS. Nothing in Lean hashes anything: it is a label: what it is worth is what the hold of that sum in a sandbox is worth. -/
noncomputable def Yba.pinned : Pinned := { name := "ybulkcpgq", sum := "2b0e5b230836223e62fad2b90a4d17ddcda985ae88b306f0dc3b2c6350387796", checked := Yba.checked }
namespace Rows
def none {H : Type} : Left H := { results := [], args := [] }

/-- 'seriate.LawS4553ARenumber': WHATEVER THE INPUT: true; the input reads as it did. -/
def lawS4553ARenumberSpec : ChangeSpec := { name := "lawS4553ARenumber", fn := fun _ => fun
  | [d1, d2] => { results := [.lit (.bool true)], args := [d1, d2] }
  | _ => none }
def lawS4553ARenumberRow : OpenClaim := { program := "ybulkcpgq", sum := "2b0e5b230836223e62fad2b90a4d17ddcda985ae88b306f0dc3b2c6350387796", func := "example.com/seriate/seriate.LawS4553ARenumber", spec := "lawS4553ARenumber", apart := false }
def LawS4553ARenumberSaid : Prop := lawS4553ARenumberRow.holds Yba.pinned (OpenSpec.ofChange lawS4553ARenumberSpec)

/-- ITS FALSE NEIGHBOUR: 'it returns false'. Refute it at one input. -/
def lawS4553ARenumberWrong : ChangeSpec := { name := "lawS4553ARenumber", fn := fun _ => fun
  | [d1, d2] => { results := [.lit (.bool false)], args := [d1, d2] }
  | _ => none }
def LawS4553ARenumberWrongFalsely : Prop := lawS4553ARenumberRow.holds Yba.pinned (OpenSpec.ofChange lawS4553ARenumberWrong)

/-- 'seriate.LawS4553ADeleteThenRenumber': WHATEVER THE INPUT: true; the input reads as it did. -/
def lawS4553ADeleteThenRenumberSpec : ChangeSpec := { name := "lawS4553ADeleteThenRenumber", fn := fun _ => fun
  | [d1, d2] => { results := [.lit (.bool true)], args := [d1, d2] }
  | _ => none }
def lawS4553ADeleteThenRenumberRow : OpenClaim := { program := "ybulkcpgq", sum := "2b0e5b230836223e62fad2b90a4d17ddcda985ae88b306f0dc3b2c6350387796", func := "example.com/seriate/seriate.LawS4553ADeleteThenRenumber", spec := "lawS4553ADeleteThenRenumber", apart := false }
def LawS4553ADeleteThenRenumberSaid : Prop := lawS4553ADeleteThenRenumberRow.holds Yba.pinned (OpenSpec.ofChange lawS4553ADeleteThenRenumberSpec)

/-- ITS FALSE NEIGHBOUR: 'it returns false'. Refute it at one input. -/
def lawS4553ADeleteThenRenumberWrong : ChangeSpec := { name := "lawS4553ADeleteThenRenumber", fn := fun _ => fun
  | [d1, d2] => { results := [.lit (.bool false)], args := [d1, d2] }
  | _ => none }
def LawS4553ADeleteThenRenumberWrongFalsely : Prop := lawS4553ADeleteThenRenumberRow.holds Yba.pinned (OpenSpec.ofChange lawS4553ADeleteThenRenumberWrong)

end Rows
end Go.Proofs.Ybulkcpgq
