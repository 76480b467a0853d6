/-
  No cell of these rows narrows 'for every input' (looked for: loops, veiled, ifaces, maps, wideKeys, modest, calm, conditions, laid).
  DERIVED. THE GIVEN ROWS OF THIS SEAT. 4 by the template 'for every input the law returns true; each argument reads behind the call as it read before'; 0 by the template 'total and deterministic' (their statements: YbulkdejsTotals.lean).
  GIVEN WITH THE SEED: the statements are not yours to turn. If you find one false, say at which input.
  Laid BY PROGRAM, IN A SANDBOX (cutbox-rows.mjs): the forced cells as the released guide's own fill.sh prints them over the translation b08644eef27bfd5c… (all of the seat's roots in one cut). By AI agents, Wed Nov 11 2026. No macro, syntax, notation, axiom, sorry.
-/
import Derived.Test.YbulkdejsChecked
import GoSem.Claim
import GoSem.ClaimJoined
import GoSem.ClaimMapViews
import Derived.JoinedTies
import Derived.KernelRfl
namespace Go.Proofs.Ybulkdejs
/- THE CELL 'sum', in the pinned program and in every row, IS THE sha256 OF THE DUMP (.gsa) THAT YbulkdejsProg.lean LOADS. Nothing in Lean hashes anything: it is a label: what it is worth is what the hold of that sum in a sandbox is worth. -/
noncomputable def Yba.pinned : Pinned := { name := "ybulkdejs", sum := "b08644eef27bfd5c77369b3d3561e2c9cd3ba19c1df390d5d79e5ad51a6f0b38", checked := Yba.checked }
namespace Rows
def none {H : Type} : Left H := { results := [], args := [] }

/-- 'earlyhalt.LawS5283BPlain': WHATEVER THE INPUT: true; the input reads as it did. -/
def lawS5283BPlainSpec : ChangeSpec := { name := "lawS5283BPlain", fn := fun _ => fun
  | [d1, d2, d3, d4, d5, d6, d7, d8, d9, d10] => { results := [.lit (.bool true)], args := [d1, d2, d3, d4, d5, d6, d7, d8, d9, d10] }
  | _ => none }
def lawS5283BPlainRow : OpenClaim := { program := "ybulkdejs", sum := "b08644eef27bfd5c77369b3d3561e2c9cd3ba19c1df390d5d79e5ad51a6f0b38", func := "example.com/earlyhalt/earlyhalt.LawS5283BPlain", spec := "lawS5283BPlain", apart := false }
def LawS5283BPlainSaid : Prop := lawS5283BPlainRow.holds Yba.pinned (OpenSpec.ofChange lawS5283BPlainSpec)

/-- ITS FALSE NEIGHBOUR: 'it returns false'. Refute it at one input. -/
def lawS5283BPlainWrong : ChangeSpec := { name := "lawS5283BPlain", fn := fun _ => fun
  | [d1, d2, d3, d4, d5, d6, d7, d8, d9, d10] => { results := [.lit (.bool false)], args := [d1, d2, d3, d4, d5, d6, d7, d8, d9, d10] }
  | _ => none }
def LawS5283BPlainWrongFalsely : Prop := lawS5283BPlainRow.holds Yba.pinned (OpenSpec.ofChange lawS5283BPlainWrong)

/-- 'earlyhalt.LawS5283BShares': WHATEVER THE INPUT: true; the input reads as it did. -/
def lawS5283BSharesSpec : ChangeSpec := { name := "lawS5283BShares", fn := fun _ => fun
  | [d1, d2, d3, d4, d5, d6] => { results := [.lit (.bool true)], args := [d1, d2, d3, d4, d5, d6] }
  | _ => none }
def lawS5283BSharesRow : OpenClaim := { program := "ybulkdejs", sum := "b08644eef27bfd5c77369b3d3561e2c9cd3ba19c1df390d5d79e5ad51a6f0b38", func := "example.com/earlyhalt/earlyhalt.LawS5283BShares", spec := "lawS5283BShares", apart := false }
def LawS5283BSharesSaid : Prop := lawS5283BSharesRow.holds Yba.pinned (OpenSpec.ofChange lawS5283BSharesSpec)

/-- ITS FALSE NEIGHBOUR: 'it returns false'. Refute it at one input. -/
def lawS5283BSharesWrong : ChangeSpec := { name := "lawS5283BShares", fn := fun _ => fun
  | [d1, d2, d3, d4, d5, d6] => { results := [.lit (.bool false)], args := [d1, d2, d3, d4, d5, d6] }
  | _ => none }
def LawS5283BSharesWrongFalsely : Prop := lawS5283BSharesRow.holds Yba.pinned (OpenSpec.ofChange lawS5283BSharesWrong)

/-- 'earlyhalt.LawS5283CCopy': WHATEVER THE INPUT: true; the input reads as it did. -/
def lawS5283CCopySpec : ChangeSpec := { name := "lawS5283CCopy", fn := fun _ => fun
  | [d1, d2] => { results := [.lit (.bool true)], args := [d1, d2] }
  | _ => none }
def lawS5283CCopyRow : OpenClaim := { program := "ybulkdejs", sum := "b08644eef27bfd5c77369b3d3561e2c9cd3ba19c1df390d5d79e5ad51a6f0b38", func := "example.com/earlyhalt/earlyhalt.LawS5283CCopy", spec := "lawS5283CCopy", apart := false }
def LawS5283CCopySaid : Prop := lawS5283CCopyRow.holds Yba.pinned (OpenSpec.ofChange lawS5283CCopySpec)

/-- ITS FALSE NEIGHBOUR: 'it returns false'. Refute it at one input. -/
def lawS5283CCopyWrong : ChangeSpec := { name := "lawS5283CCopy", fn := fun _ => fun
  | [d1, d2] => { results := [.lit (.bool false)], args := [d1, d2] }
  | _ => none }
def LawS5283CCopyWrongFalsely : Prop := lawS5283CCopyRow.holds Yba.pinned (OpenSpec.ofChange lawS5283CCopyWrong)

/-- 'earlyhalt.LawS5283CSelf': WHATEVER THE INPUT: true; the input reads as it did. -/
def lawS5283CSelfSpec : ChangeSpec := { name := "lawS5283CSelf", fn := fun _ => fun
  | [d] => { results := [.lit (.bool true)], args := [d] }
  | _ => none }
def lawS5283CSelfRow : OpenClaim := { program := "ybulkdejs", sum := "b08644eef27bfd5c77369b3d3561e2c9cd3ba19c1df390d5d79e5ad51a6f0b38", func := "example.com/earlyhalt/earlyhalt.LawS5283CSelf", spec := "lawS5283CSelf", apart := false }
def LawS5283CSelfSaid : Prop := lawS5283CSelfRow.holds Yba.pinned (OpenSpec.ofChange lawS5283CSelfSpec)

/-- ITS FALSE NEIGHBOUR: 'it returns false'. Refute it at one input. -/
def lawS5283CSelfWrong : ChangeSpec := { name := "lawS5283CSelf", fn := fun _ => fun
  | [d] => { results := [.lit (.bool false)], args := [d] }
  | _ => none }
def LawS5283CSelfWrongFalsely : Prop := lawS5283CSelfRow.holds Yba.pinned (OpenSpec.ofChange lawS5283CSelfWrong)

end Rows
end Go.Proofs.Ybulkdejs
