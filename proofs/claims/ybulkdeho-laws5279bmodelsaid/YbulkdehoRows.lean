/-
  No cell of these rows narrows 'for every input' (looked for: loops, veiled, ifaces, maps, wideKeys, modest, calm, conditions, laid).
  DERIVED. THE GIVEN ROWS OF THIS SEAT. 4 by the template 'for every input the law returns true; each argument reads behind the call as it read before'; 0 by the template 'total and deterministic' (their statements: YbulkdehoTotals.lean).
  GIVEN WITH THE SEED: the statements are not yours to turn. If you find one false, say at which input.
  Laid BY PROGRAM, IN A SANDBOX (cutbox-rows.mjs): the forced cells as the released guide's own fill.sh prints them over the translation b2b38230aaa167ce… (all of the seat's roots in one cut). By AI agents, Wed Nov 11 2026. No macro, syntax, notation, axiom, sorry.
-/
import Derived.Test.YbulkdehoChecked
import GoSem.Claim
import GoSem.ClaimJoined
import GoSem.ClaimMapViews
import Derived.JoinedTies
import Derived.KernelRfl
namespace Go.Proofs.Ybulkdeho
/- THE CELL 'sum', in the pinned program and in every row, IS THE sha256 OF THE DUMP (.gsa) THAT YbulkdehoProg.lean LOADS. Nothing in Lean hashes anything: it is a label: what it is worth is what the hold of that sum in a sandbox is worth. -/
noncomputable def Yba.pinned : Pinned := { name := "ybulkdeho", sum := "b2b38230aaa167ce62ef2645604418f3a7e0410b3ffc3ae9aa0d57303991dfe7", checked := Yba.checked }
namespace Rows
def none {H : Type} : Left H := { results := [], args := [] }

/-- 'antecede.LawS5279ATally': WHATEVER THE INPUT: true; the input reads as it did. -/
def lawS5279ATallySpec : ChangeSpec := { name := "lawS5279ATally", fn := fun _ => fun
  | [d1, d2] => { results := [.lit (.bool true)], args := [d1, d2] }
  | _ => none }
def lawS5279ATallyRow : OpenClaim := { program := "ybulkdeho", sum := "b2b38230aaa167ce62ef2645604418f3a7e0410b3ffc3ae9aa0d57303991dfe7", func := "example.com/antecede/antecede.LawS5279ATally", spec := "lawS5279ATally", apart := false }
def LawS5279ATallySaid : Prop := lawS5279ATallyRow.holds Yba.pinned (OpenSpec.ofChange lawS5279ATallySpec)

/-- ITS FALSE NEIGHBOUR: 'it returns false'. Refute it at one input. -/
def lawS5279ATallyWrong : ChangeSpec := { name := "lawS5279ATally", fn := fun _ => fun
  | [d1, d2] => { results := [.lit (.bool false)], args := [d1, d2] }
  | _ => none }
def LawS5279ATallyWrongFalsely : Prop := lawS5279ATallyRow.holds Yba.pinned (OpenSpec.ofChange lawS5279ATallyWrong)

/-- 'antecede.LawS5279AWithin': WHATEVER THE INPUT: true; the input reads as it did. -/
def lawS5279AWithinSpec : ChangeSpec := { name := "lawS5279AWithin", fn := fun _ => fun
  | [d1, d2] => { results := [.lit (.bool true)], args := [d1, d2] }
  | _ => none }
def lawS5279AWithinRow : OpenClaim := { program := "ybulkdeho", sum := "b2b38230aaa167ce62ef2645604418f3a7e0410b3ffc3ae9aa0d57303991dfe7", func := "example.com/antecede/antecede.LawS5279AWithin", spec := "lawS5279AWithin", apart := false }
def LawS5279AWithinSaid : Prop := lawS5279AWithinRow.holds Yba.pinned (OpenSpec.ofChange lawS5279AWithinSpec)

/-- ITS FALSE NEIGHBOUR: 'it returns false'. Refute it at one input. -/
def lawS5279AWithinWrong : ChangeSpec := { name := "lawS5279AWithin", fn := fun _ => fun
  | [d1, d2] => { results := [.lit (.bool false)], args := [d1, d2] }
  | _ => none }
def LawS5279AWithinWrongFalsely : Prop := lawS5279AWithinRow.holds Yba.pinned (OpenSpec.ofChange lawS5279AWithinWrong)

/-- 'antecede.LawS5279BModel': WHATEVER THE INPUT: true; the input reads as it did. -/
def lawS5279BModelSpec : ChangeSpec := { name := "lawS5279BModel", fn := fun _ => fun
  | [d1, d2] => { results := [.lit (.bool true)], args := [d1, d2] }
  | _ => none }
def lawS5279BModelRow : OpenClaim := { program := "ybulkdeho", sum := "b2b38230aaa167ce62ef2645604418f3a7e0410b3ffc3ae9aa0d57303991dfe7", func := "example.com/antecede/antecede.LawS5279BModel", spec := "lawS5279BModel", apart := false }
def LawS5279BModelSaid : Prop := lawS5279BModelRow.holds Yba.pinned (OpenSpec.ofChange lawS5279BModelSpec)

/-- ITS FALSE NEIGHBOUR: 'it returns false'. Refute it at one input. -/
def lawS5279BModelWrong : ChangeSpec := { name := "lawS5279BModel", fn := fun _ => fun
  | [d1, d2] => { results := [.lit (.bool false)], args := [d1, d2] }
  | _ => none }
def LawS5279BModelWrongFalsely : Prop := lawS5279BModelRow.holds Yba.pinned (OpenSpec.ofChange lawS5279BModelWrong)

/-- 'antecede.LawS5279BBounds': WHATEVER THE INPUT: true; the input reads as it did. -/
def lawS5279BBoundsSpec : ChangeSpec := { name := "lawS5279BBounds", fn := fun _ => fun
  | [d1, d2] => { results := [.lit (.bool true)], args := [d1, d2] }
  | _ => none }
def lawS5279BBoundsRow : OpenClaim := { program := "ybulkdeho", sum := "b2b38230aaa167ce62ef2645604418f3a7e0410b3ffc3ae9aa0d57303991dfe7", func := "example.com/antecede/antecede.LawS5279BBounds", spec := "lawS5279BBounds", apart := false }
def LawS5279BBoundsSaid : Prop := lawS5279BBoundsRow.holds Yba.pinned (OpenSpec.ofChange lawS5279BBoundsSpec)

/-- ITS FALSE NEIGHBOUR: 'it returns false'. Refute it at one input. -/
def lawS5279BBoundsWrong : ChangeSpec := { name := "lawS5279BBounds", fn := fun _ => fun
  | [d1, d2] => { results := [.lit (.bool false)], args := [d1, d2] }
  | _ => none }
def LawS5279BBoundsWrongFalsely : Prop := lawS5279BBoundsRow.holds Yba.pinned (OpenSpec.ofChange lawS5279BBoundsWrong)

end Rows
end Go.Proofs.Ybulkdeho
