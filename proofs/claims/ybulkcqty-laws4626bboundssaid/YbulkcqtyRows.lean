/-
  No cell of these rows narrows 'for every input' (looked for: loops, veiled, ifaces, maps, wideKeys, modest, calm, conditions, laid).
  DERIVED. THE GIVEN ROWS OF THIS SEAT. 2 by the template 'for every input the law returns true; each argument reads behind the call as it read before'; 0 by the template 'total and deterministic' (their statements: YbulkcqtyTotals.lean).
  GIVEN WITH THE SEED: the statements are not yours to turn. If you find one false, say at which input.
  Laid BY PROGRAM, IN A SANDBOX (cutbox-rows.mjs): the forced cells as the released guide's own fill.sh prints them over the translation 75446d784b83ba7a… (all of the seat's roots in one cut). By AI agents, Wed Nov 11 2026. No macro, syntax, notation, axiom, sorry.
-/
import Derived.Test.YbulkcqtyChecked
import GoSem.Claim
import GoSem.ClaimJoined
import GoSem.ClaimMapViews
import Derived.JoinedTies
import Derived.KernelRfl
namespace Go.Proofs.Ybulkcqty
/- THE CELL 'sum', in the pinned program and in every row, IS THE sha256 OF THE DUMP (.gsa) THAT YbulkcqtyProg.lean LOADS. Nothing in Lean hashes anything: it is a label: what it is worth is what the hold of that sum in a sandbox is worth. -/
noncomputable def Yba.pinned : Pinned := { name := "ybulkcqty", sum := "75446d784b83ba7a6a7eac72ef133058dd66f2ca5b82d6b49ce8be4a077129b0", checked := Yba.checked }
namespace Rows
def none {H : Type} : Left H := { results := [], args := [] }

/-- 'store.LawS4626BExact': WHATEVER THE INPUT: true; the input reads as it did. -/
def lawS4626BExactSpec : ChangeSpec := { name := "lawS4626BExact", fn := fun _ => fun
  | [d1, d2, d3, d4] => { results := [.lit (.bool true)], args := [d1, d2, d3, d4] }
  | _ => none }
def lawS4626BExactRow : OpenClaim := { program := "ybulkcqty", sum := "75446d784b83ba7a6a7eac72ef133058dd66f2ca5b82d6b49ce8be4a077129b0", func := "example.com/kiroku/kiroku/pkg/store.LawS4626BExact", spec := "lawS4626BExact", named := ["encoding/binary.LittleEndian"], apart := false }
def LawS4626BExactSaid : Prop := lawS4626BExactRow.holds Yba.pinned (OpenSpec.ofChange lawS4626BExactSpec)

/-- ITS FALSE NEIGHBOUR: 'it returns false'. Refute it at one input. -/
def lawS4626BExactWrong : ChangeSpec := { name := "lawS4626BExact", fn := fun _ => fun
  | [d1, d2, d3, d4] => { results := [.lit (.bool false)], args := [d1, d2, d3, d4] }
  | _ => none }
def LawS4626BExactWrongFalsely : Prop := lawS4626BExactRow.holds Yba.pinned (OpenSpec.ofChange lawS4626BExactWrong)

/-- 'store.LawS4626BBounds': WHATEVER THE INPUT: true; the input reads as it did. -/
def lawS4626BBoundsSpec : ChangeSpec := { name := "lawS4626BBounds", fn := fun _ => fun
  | [d1, d2, d3] => { results := [.lit (.bool true)], args := [d1, d2, d3] }
  | _ => none }
def lawS4626BBoundsRow : OpenClaim := { program := "ybulkcqty", sum := "75446d784b83ba7a6a7eac72ef133058dd66f2ca5b82d6b49ce8be4a077129b0", func := "example.com/kiroku/kiroku/pkg/store.LawS4626BBounds", spec := "lawS4626BBounds", named := ["encoding/binary.LittleEndian"], apart := false }
def LawS4626BBoundsSaid : Prop := lawS4626BBoundsRow.holds Yba.pinned (OpenSpec.ofChange lawS4626BBoundsSpec)

/-- ITS FALSE NEIGHBOUR: 'it returns false'. Refute it at one input. -/
def lawS4626BBoundsWrong : ChangeSpec := { name := "lawS4626BBounds", fn := fun _ => fun
  | [d1, d2, d3] => { results := [.lit (.bool false)], args := [d1, d2, d3] }
  | _ => none }
def LawS4626BBoundsWrongFalsely : Prop := lawS4626BBoundsRow.holds Yba.pinned (OpenSpec.ofChange lawS4626BBoundsWrong)

end Rows
end Go.Proofs.Ybulkcqty
