/-
  No cell of these rows narrows 'for every input' (looked for: loops, veiled, ifaces, maps, wideKeys, modest, calm, conditions, laid).
  DERIVED. THE GIVEN ROWS OF THIS SEAT. 2 by the template 'for every input the law returns true; each argument reads behind the call as it read before'; 0 by the template 'total and deterministic' (their statements: YbulkcqxeFmtTotals.lean).
  GIVEN WITH THE SEED: the statements are not yours to turn. If you find one false, say at which input.
  Laid BY PROGRAM, IN A SANDBOX (cutbox-rows.mjs): the forced cells as the released guide's own fill.sh prints them over the translation 694d8145487be3f0… (all of the seat's roots in one cut). By AI agents, Wed Nov 11 2026. No macro, syntax, notation, axiom, sorry.
-/
import Derived.Test.YbulkcqxeFmtChecked
import GoSem.Claim
import GoSem.ClaimJoined
import GoSem.ClaimMapViews
import Derived.JoinedTies
import Derived.KernelRfl
namespace Go.Proofs.YbulkcqxeFmt
/- THE CELL 'sum', in the pinned program and in every row, IS THE sha256 OF THE DUMP (.gsa) THAT YbulkcqxeFmtProg.lean LOADS. Nothing in Lean hashes anything: it is a label: what it is worth is what the hold of that sum in a sandbox is worth. -/
noncomputable def Ybaf.pinned : Pinned := { name := "ybulkcqxefmt", sum := "694d8145487be3f0d95add4f56c6e0096c6005ff738917ef7d589515552109c1", checked := Ybaf.checked }
namespace Rows
def none {H : Type} : Left H := { results := [], args := [] }

/-- 'blockfile.LawS4632BUnknown': WHATEVER THE INPUT: true; the input reads as it did. -/
def lawS4632BUnknownSpec : ChangeSpec := { name := "lawS4632BUnknown", fn := fun _ => fun
  | [d1, d2, d3] => { results := [.lit (.bool true)], args := [d1, d2, d3] }
  | _ => none }
def lawS4632BUnknownRow : OpenClaim := { program := "ybulkcqxefmt", sum := "694d8145487be3f0d95add4f56c6e0096c6005ff738917ef7d589515552109c1", func := "example.com/weftloom/weftloom/internal/blockfile.LawS4632BUnknown", spec := "lawS4632BUnknown", stops := ["fmt.errorf"], inPlace := ["fmt.errorf"], apart := false }
/-- NO THEOREM (fmt's text is open here; it may be false): for the released tool's asking of the row's closed facts alone. THE STATEMENT IS 'LawS4632BUnknownToldSaid' (YbulkcqxeFmtCards.lean). -/
def LawS4632BUnknownFormAsk : Prop := lawS4632BUnknownRow.holds Ybaf.pinned (OpenSpec.ofChange lawS4632BUnknownSpec)

/-- ITS FALSE NEIGHBOUR: 'it returns false'. Refute it at one input. -/
def lawS4632BUnknownWrong : ChangeSpec := { name := "lawS4632BUnknown", fn := fun _ => fun
  | [d1, d2, d3] => { results := [.lit (.bool false)], args := [d1, d2, d3] }
  | _ => none }
def LawS4632BUnknownWrongFormAsk : Prop := lawS4632BUnknownRow.holds Ybaf.pinned (OpenSpec.ofChange lawS4632BUnknownWrong)

/-- 'blockfile.LawS4632BAfterMember': WHATEVER THE INPUT: true; the input reads as it did. -/
def lawS4632BAfterMemberSpec : ChangeSpec := { name := "lawS4632BAfterMember", fn := fun _ => fun
  | [d1, d2, d3] => { results := [.lit (.bool true)], args := [d1, d2, d3] }
  | _ => none }
def lawS4632BAfterMemberRow : OpenClaim := { program := "ybulkcqxefmt", sum := "694d8145487be3f0d95add4f56c6e0096c6005ff738917ef7d589515552109c1", func := "example.com/weftloom/weftloom/internal/blockfile.LawS4632BAfterMember", spec := "lawS4632BAfterMember", stops := ["fmt.errorf"], inPlace := ["fmt.errorf"], apart := false }
/-- NO THEOREM (fmt's text is open here; it may be false): for the released tool's asking of the row's closed facts alone. THE STATEMENT IS 'LawS4632BAfterMemberToldSaid' (YbulkcqxeFmtCards.lean). -/
def LawS4632BAfterMemberFormAsk : Prop := lawS4632BAfterMemberRow.holds Ybaf.pinned (OpenSpec.ofChange lawS4632BAfterMemberSpec)

/-- ITS FALSE NEIGHBOUR: 'it returns false'. Refute it at one input. -/
def lawS4632BAfterMemberWrong : ChangeSpec := { name := "lawS4632BAfterMember", fn := fun _ => fun
  | [d1, d2, d3] => { results := [.lit (.bool false)], args := [d1, d2, d3] }
  | _ => none }
def LawS4632BAfterMemberWrongFormAsk : Prop := lawS4632BAfterMemberRow.holds Ybaf.pinned (OpenSpec.ofChange lawS4632BAfterMemberWrong)

end Rows
end Go.Proofs.YbulkcqxeFmt
