/-
  No cell of these rows narrows 'for every input' (looked for: loops, veiled, ifaces, maps, wideKeys, modest, calm, conditions, laid).
  DERIVED. THE GIVEN ROWS OF THIS SEAT. 2 by the template 'for every input the law returns true; each argument reads behind the call as it read before'; 0 by the template 'total and deterministic' (their statements: YbulkcqygTotals.lean).
  GIVEN WITH THE SEED: the statements are not yours to turn. If you find one false, say at which input.
  Laid BY PROGRAM, IN A SANDBOX (cutbox-rows.mjs): the forced cells as the released guide's own fill.sh prints them over the translation 221b52730b6285c8… (all of the seat's roots in one cut). By AI agents, Wed Nov 11 2026. No macro, syntax, notation, axiom, sorry.
-/
import Derived.Test.YbulkcqygChecked
import GoSem.Claim
import GoSem.ClaimJoined
import GoSem.ClaimMapViews
import Derived.JoinedTies
import Derived.KernelRfl
namespace Go.Proofs.Ybulkcqyg
/- THE CELL 'sum', in the pinned program and in every row, IS THE sha256 OF THE DUMP (.gsa) THAT YbulkcqygProg.lean LOADS. Nothing in Lean hashes anything: it is a label: what it is worth is what the hold of that sum in a sandbox is worth. -/
noncomputable def Yba.pinned : Pinned := { name := "ybulkcqyg", sum := "221b52730b6285c8c50b3c77b34817fd39f3bc2b022a39d7019dc469a299bd0b", checked := Yba.checked }
namespace Rows
def none {H : Type} : Left H := { results := [], args := [] }

/-- 'h248.LawS4634CExact': WHATEVER THE INPUT: true; the input reads as it did. -/
def lawS4634CExactSpec : ChangeSpec := { name := "lawS4634CExact", fn := fun _ => fun
  | [d] => { results := [.lit (.bool true)], args := [d] }
  | _ => none }
def lawS4634CExactRow : OpenClaim := { program := "ybulkcqyg", sum := "221b52730b6285c8c50b3c77b34817fd39f3bc2b022a39d7019dc469a299bd0b", func := "example.com/copperline/copperline/h248.LawS4634CExact", spec := "lawS4634CExact", apart := false }
def LawS4634CExactSaid : Prop := lawS4634CExactRow.holds Yba.pinned (OpenSpec.ofChange lawS4634CExactSpec)

/-- ITS FALSE NEIGHBOUR: 'it returns false'. Refute it at one input. -/
def lawS4634CExactWrong : ChangeSpec := { name := "lawS4634CExact", fn := fun _ => fun
  | [d] => { results := [.lit (.bool false)], args := [d] }
  | _ => none }
def LawS4634CExactWrongFalsely : Prop := lawS4634CExactRow.holds Yba.pinned (OpenSpec.ofChange lawS4634CExactWrong)

/-- 'h248.LawS4634CUnion': WHATEVER THE INPUT: true; the input reads as it did. -/
def lawS4634CUnionSpec : ChangeSpec := { name := "lawS4634CUnion", fn := fun _ => fun
  | [d1, d2] => { results := [.lit (.bool true)], args := [d1, d2] }
  | _ => none }
def lawS4634CUnionRow : OpenClaim := { program := "ybulkcqyg", sum := "221b52730b6285c8c50b3c77b34817fd39f3bc2b022a39d7019dc469a299bd0b", func := "example.com/copperline/copperline/h248.LawS4634CUnion", spec := "lawS4634CUnion", apart := false }
def LawS4634CUnionSaid : Prop := lawS4634CUnionRow.holds Yba.pinned (OpenSpec.ofChange lawS4634CUnionSpec)

/-- ITS FALSE NEIGHBOUR: 'it returns false'. Refute it at one input. -/
def lawS4634CUnionWrong : ChangeSpec := { name := "lawS4634CUnion", fn := fun _ => fun
  | [d1, d2] => { results := [.lit (.bool false)], args := [d1, d2] }
  | _ => none }
def LawS4634CUnionWrongFalsely : Prop := lawS4634CUnionRow.holds Yba.pinned (OpenSpec.ofChange lawS4634CUnionWrong)

end Rows
end Go.Proofs.Ybulkcqyg
