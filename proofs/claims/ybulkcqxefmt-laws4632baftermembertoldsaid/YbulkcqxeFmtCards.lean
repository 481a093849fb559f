/-
  DERIVED. GIVEN WITH THE SEED: THE CARDS: each row of YbulkcqxeFmtRows.lean that lists a variable, with what it lists TIED to the program's text (the seventh form; the later family's looks); each row that meets fmt, with fmt's text TOLD by the authors' own Lean function (tested against real Go, not proved from fmt's source: count such statements apart). THE CARD IS WHAT COUNTS. Prove the row's statement (the work); the ties are given (YbulkcqxeFmtTie.lean); close each card by the builder's one call (the guide's Derived/Test/ToyasCard.lean, 'card_holds'). Laid BY PROGRAM, IN A SANDBOX (cutbox-door.mjs). By AI agents, Wed Nov 11 2026. No macro, syntax, notation, axiom, sorry.
-/
import Derived.Test.YbulkcqxeFmtRows
import GoSem.ClaimSeven
namespace Go.Proofs.YbulkcqxeFmt
namespace Rows

/-- THE TOLD CARD OF 'blockfile.LawS4632BUnknown'. -/
def lawS4632BUnknownCard : Claim7 := { stood := { row := lawS4632BUnknownRow, standIns := [], harness := (true, "c8d947ed15c31c7a6430fcc13bd62c003d12e6af30035ce88d05bf142117fb42"), looks := false }, told := true, goes := false }
def LawS4632BUnknownToldSaid : Prop := Claim7.holds Ybaf.pinned (.plain (OpenSpec.ofChange lawS4632BUnknownSpec)) lawS4632BUnknownCard
/-- ITS FALSE NEIGHBOUR. Refute it at one input. -/
def LawS4632BUnknownToldWrongFalsely : Prop := Claim7.holds Ybaf.pinned (.plain (OpenSpec.ofChange lawS4632BUnknownWrong)) lawS4632BUnknownCard

/-- THE TOLD CARD OF 'blockfile.LawS4632BAfterMember'. -/
def lawS4632BAfterMemberCard : Claim7 := { stood := { row := lawS4632BAfterMemberRow, standIns := [], harness := (true, "c8d947ed15c31c7a6430fcc13bd62c003d12e6af30035ce88d05bf142117fb42"), looks := false }, told := true, goes := false }
def LawS4632BAfterMemberToldSaid : Prop := Claim7.holds Ybaf.pinned (.plain (OpenSpec.ofChange lawS4632BAfterMemberSpec)) lawS4632BAfterMemberCard
/-- ITS FALSE NEIGHBOUR. Refute it at one input. -/
def LawS4632BAfterMemberToldWrongFalsely : Prop := Claim7.holds Ybaf.pinned (.plain (OpenSpec.ofChange lawS4632BAfterMemberWrong)) lawS4632BAfterMemberCard
end Rows
end Go.Proofs.YbulkcqxeFmt
