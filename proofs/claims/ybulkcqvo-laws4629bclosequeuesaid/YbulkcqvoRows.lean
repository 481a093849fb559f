/-
  No cell of these rows narrows 'for every input' (looked for: loops, veiled, ifaces, maps, wideKeys, modest, calm, conditions, laid).
  DERIVED. THE GIVEN ROWS OF THIS SEAT. 5 by the template 'for every input the law returns true; each argument reads behind the call as it read before'; 0 by the template 'total and deterministic' (their statements: YbulkcqvoTotals.lean).
  GIVEN WITH THE SEED: the statements are not yours to turn. If you find one false, say at which input.
  Laid BY PROGRAM, IN A SANDBOX (cutbox-rows.mjs): the forced cells as the released guide's own fill.sh prints them over the translation 6eead68f3586690c… (all of the seat's roots in one cut). By AI agents, Wed Nov 11 2026. No macro, syntax, notation, axiom, sorry.
-/
import Derived.Test.YbulkcqvoChecked
import GoSem.Claim
import GoSem.ClaimJoined
import GoSem.ClaimMapViews
import Derived.JoinedTies
import Derived.KernelRfl
namespace Go.Proofs.Ybulkcqvo
/- THE CELL 'sum', in the pinned program and in every row, IS THE sha256 OF THE DUMP (.gsa) THAT YbulkcqvoProg.lean LOADS. Nothing in Lean hashes anything: it is a label: what it is worth is what the hold of that sum in a sandbox is worth. -/
noncomputable def Yba.pinned : Pinned := { name := "ybulkcqvo", sum := "6eead68f3586690c87da7599787e913957763cd53b91e693df3bd12fe4284907", checked := Yba.checked }
namespace Rows
def none {H : Type} : Left H := { results := [], args := [] }

/-- 'quiesce.LawS4629AStatus': WHATEVER THE INPUT: true; the input reads as it did. -/
def lawS4629AStatusSpec : ChangeSpec := { name := "lawS4629AStatus", fn := fun _ => fun
  | [d] => { results := [.lit (.bool true)], args := [d] }
  | _ => none }
def lawS4629AStatusRow : OpenClaim := { program := "ybulkcqvo", sum := "6eead68f3586690c87da7599787e913957763cd53b91e693df3bd12fe4284907", func := "example.com/quiesce/quiesce.LawS4629AStatus", spec := "lawS4629AStatus", apart := false }
def LawS4629AStatusSaid : Prop := lawS4629AStatusRow.holds Yba.pinned (OpenSpec.ofChange lawS4629AStatusSpec)

/-- ITS FALSE NEIGHBOUR: 'it returns false'. Refute it at one input. -/
def lawS4629AStatusWrong : ChangeSpec := { name := "lawS4629AStatus", fn := fun _ => fun
  | [d] => { results := [.lit (.bool false)], args := [d] }
  | _ => none }
def LawS4629AStatusWrongFalsely : Prop := lawS4629AStatusRow.holds Yba.pinned (OpenSpec.ofChange lawS4629AStatusWrong)

/-- 'quiesce.LawS4629AConsts': WHATEVER THE INPUT: true; the input reads as it did. -/
def lawS4629AConstsSpec : ChangeSpec := { name := "lawS4629AConsts", fn := fun _ => fun
  | [d] => { results := [.lit (.bool true)], args := [d] }
  | _ => none }
def lawS4629AConstsRow : OpenClaim := { program := "ybulkcqvo", sum := "6eead68f3586690c87da7599787e913957763cd53b91e693df3bd12fe4284907", func := "example.com/quiesce/quiesce.LawS4629AConsts", spec := "lawS4629AConsts", apart := false }
def LawS4629AConstsSaid : Prop := lawS4629AConstsRow.holds Yba.pinned (OpenSpec.ofChange lawS4629AConstsSpec)

/-- ITS FALSE NEIGHBOUR: 'it returns false'. Refute it at one input. -/
def lawS4629AConstsWrong : ChangeSpec := { name := "lawS4629AConsts", fn := fun _ => fun
  | [d] => { results := [.lit (.bool false)], args := [d] }
  | _ => none }
def LawS4629AConstsWrongFalsely : Prop := lawS4629AConstsRow.holds Yba.pinned (OpenSpec.ofChange lawS4629AConstsWrong)

/-- 'quiesce.LawS4629BCloseQueue': WHATEVER THE INPUT: true; the input reads as it did. -/
def lawS4629BCloseQueueSpec : ChangeSpec := { name := "lawS4629BCloseQueue", fn := fun _ => fun
  | [d1, d2, d3, d4] => { results := [.lit (.bool true)], args := [d1, d2, d3, d4] }
  | _ => none }
def lawS4629BCloseQueueRow : OpenClaim := { program := "ybulkcqvo", sum := "6eead68f3586690c87da7599787e913957763cd53b91e693df3bd12fe4284907", func := "example.com/quiesce/quiesce.LawS4629BCloseQueue", spec := "lawS4629BCloseQueue", inPlace := ["(*internal/sync.Mutex).Lock", "internal/race.Disable", "sync/atomic.CompareAndSwapInt32", "internal/race.Enable", "internal/race.Acquire", "(*internal/sync.Mutex).lockSlow", "internal/sync.runtime_canSpin", "internal/sync.runtime_doSpin", "internal/sync.throw", "internal/sync.runtime_nanotime", "internal/sync.runtime_SemacquireMutex", "sync/atomic.AddInt32", "(*internal/sync.Mutex).Unlock", "internal/race.ReleaseMerge", "(*internal/sync.Mutex).unlockSlow", "internal/sync.fatal", "internal/sync.runtime_Semrelease", "(*sync.Cond).Broadcast", "(*sync.copyChecker).check", "sync.runtime_notifyListNotifyAll", "(*internal/sync.Mutex).TryLock"], apart := false }
def LawS4629BCloseQueueSaid : Prop := lawS4629BCloseQueueRow.holds Yba.pinned (OpenSpec.ofChange lawS4629BCloseQueueSpec)

/-- ITS FALSE NEIGHBOUR: 'it returns false'. Refute it at one input. -/
def lawS4629BCloseQueueWrong : ChangeSpec := { name := "lawS4629BCloseQueue", fn := fun _ => fun
  | [d1, d2, d3, d4] => { results := [.lit (.bool false)], args := [d1, d2, d3, d4] }
  | _ => none }
def LawS4629BCloseQueueWrongFalsely : Prop := lawS4629BCloseQueueRow.holds Yba.pinned (OpenSpec.ofChange lawS4629BCloseQueueWrong)

/-- 'quiesce.LawS4629CExact': WHATEVER THE INPUT: true; the input reads as it did. -/
def lawS4629CExactSpec : ChangeSpec := { name := "lawS4629CExact", fn := fun _ => fun
  | [d1, d2, d3, d4] => { results := [.lit (.bool true)], args := [d1, d2, d3, d4] }
  | _ => none }
def lawS4629CExactRow : OpenClaim := { program := "ybulkcqvo", sum := "6eead68f3586690c87da7599787e913957763cd53b91e693df3bd12fe4284907", func := "example.com/quiesce/quiesce.LawS4629CExact", spec := "lawS4629CExact", apart := false }
def LawS4629CExactSaid : Prop := lawS4629CExactRow.holds Yba.pinned (OpenSpec.ofChange lawS4629CExactSpec)

/-- ITS FALSE NEIGHBOUR: 'it returns false'. Refute it at one input. -/
def lawS4629CExactWrong : ChangeSpec := { name := "lawS4629CExact", fn := fun _ => fun
  | [d1, d2, d3, d4] => { results := [.lit (.bool false)], args := [d1, d2, d3, d4] }
  | _ => none }
def LawS4629CExactWrongFalsely : Prop := lawS4629CExactRow.holds Yba.pinned (OpenSpec.ofChange lawS4629CExactWrong)

/-- 'quiesce.LawS4629CIgnores': WHATEVER THE INPUT: true; the input reads as it did. -/
def lawS4629CIgnoresSpec : ChangeSpec := { name := "lawS4629CIgnores", fn := fun _ => fun
  | [d1, d2, d3, d4, d5, d6] => { results := [.lit (.bool true)], args := [d1, d2, d3, d4, d5, d6] }
  | _ => none }
def lawS4629CIgnoresRow : OpenClaim := { program := "ybulkcqvo", sum := "6eead68f3586690c87da7599787e913957763cd53b91e693df3bd12fe4284907", func := "example.com/quiesce/quiesce.LawS4629CIgnores", spec := "lawS4629CIgnores", apart := false }
def LawS4629CIgnoresSaid : Prop := lawS4629CIgnoresRow.holds Yba.pinned (OpenSpec.ofChange lawS4629CIgnoresSpec)

/-- ITS FALSE NEIGHBOUR: 'it returns false'. Refute it at one input. -/
def lawS4629CIgnoresWrong : ChangeSpec := { name := "lawS4629CIgnores", fn := fun _ => fun
  | [d1, d2, d3, d4, d5, d6] => { results := [.lit (.bool false)], args := [d1, d2, d3, d4, d5, d6] }
  | _ => none }
def LawS4629CIgnoresWrongFalsely : Prop := lawS4629CIgnoresRow.holds Yba.pinned (OpenSpec.ofChange lawS4629CIgnoresWrong)

end Rows
end Go.Proofs.Ybulkcqvo
