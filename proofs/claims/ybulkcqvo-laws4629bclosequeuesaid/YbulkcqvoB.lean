import Derived.Test.YbulkcqvoRows
import Derived.Conc.MuLone
import Derived.Conc.EventLaws
import Derived.Conc.SmallLaws
import Derived.Laws.EntriesVeiled
import Derived.WalkKit
import Derived.Defers
import Derived.Deep.OwnRows
import Derived.WalkSmall
import Derived.WalkSpells
namespace Go.Proofs.Ybulkcqvo
open Go.RowKit Go.MuLone

/-! ### sync.Mutex at this dump -/
abbrev muLink : Go.Conc.Locks.MuLink := { lock := 14, unlock := 12, ilock := 19, iunlock := 18, lockSlow := 30, unlockSlow := 29, disable := 23, enable := 24, acquire := 26, relMerge := 27, cas32 := 25, add32 := 28, tMutex := 41, tIMutex := 39, tPMutex := 52, tPIMutex := 74, tPI32 := 76, tUP := 55, tNoCopy := 36, tU32 := 37 }
theorem muLib : Go.Conc.Locks.MuLib Yba.prog muLink :=
  ⟨Yba.func14, Yba.func12, Yba.func19, Yba.func18, Yba.func23, Yba.func24, Yba.func26, Yba.func27, Yba.func25, Yba.func28, Yba.underlying39, Yba.runUnderlying39, Yba.sizeOf39, Yba.isAgg39, Yba.zeroValue39, Yba.underlying41, Yba.runUnderlying41, Yba.sizeOf41, Yba.isAgg41, Yba.zeroValue41, Yba.underlying52, Yba.runUnderlying52, Yba.sizeOf52, Yba.isAgg52, Yba.zeroValue52, Yba.underlying74, Yba.runUnderlying74, Yba.sizeOf74, Yba.isAgg74, Yba.zeroValue74, Yba.underlying76, Yba.runUnderlying76, Yba.sizeOf76, Yba.isAgg76, Yba.zeroValue76, Yba.underlying55, Yba.runUnderlying55, Yba.sizeOf55, Yba.isAgg55, Yba.zeroValue55, Yba.underlying36, Yba.runUnderlying36, Yba.sizeOf36, Yba.isAgg36, Yba.zeroValue36, Yba.underlying21, Yba.runUnderlying21, Yba.sizeOf21, Yba.isAgg21, Yba.zeroValue21, (by kernel_rfl)⟩

/-- A pointer to a mutex, turned to the pointer kind that the race marks take: the same address. -/
theorem convPtr (a : Addr) (w : World) (v : Value) (hc : w.cell? a = some v) : (convert 74 55 (.pointer (some a))).run Yba.prog w = .ok (.pointer (some a)) w := by
  obtain ⟨e, n, hsh, hlt, hsp⟩ := World.shape?_of_cell? hc
  obtain ⟨i, hi, hz0⟩ := Option.map_eq_some_iff.1 muLib.room_tIMutex
  have hz : i.size ≠ 0 := by simpa using hz0
  have hge : ¬ (n ≤ a.off) := by omega
  have hi' : Yba.prog.info? 39 = some i := hi
  simp [convert, run_underlying Yba.underlying74, run_underlying Yba.underlying55, Result.andThen]
  refine Eq.trans (congrArg (fun s => Sem.run Yba.prog s w) (show _ = (_ >>= _) from rfl)) ?_
  simp [Conv.seenAt, viewAt, cellsIn, sizeOf, typeInfo, run_underlying Yba.underlying74, run_underlying Yba.underlying55, hi', hz, hsh, hge, Result.andThen]

set_option maxRecDepth 100000 in
set_option maxHeartbeats 800000 in
/-- '(*internal/sync.Mutex).TryLock', free and nobody waiting (state 0): true; state 1. -/
theorem itry_free (a : Addr) (w : World) (hc : w.cell? a = some (.int .i32 0)) (hz : w.frozen? a = false) :
    Calls Yba.prog 17 #[.pointer (some a)] w fun e w' => e = .returned (.bool true) ∧ w' = w.setCell a (.int .i32 1) := by
  have hd : ∀ w, (callFunc 23 #[]).run Yba.prog w = .ok (.value (.tuple #[])) w := disable muLib
  have he : ∀ w, (callFunc 24 #[]).run Yba.prog w = .ok (.value (.tuple #[])) w := enable muLib
  have hr : ∀ a w, (callFunc 26 #[.pointer (some a)]).run Yba.prog w = .ok (.value (.tuple #[])) w := acquire muLib
  have hcas : (callFunc 25 #[.pointer (some a), .int .i32 0, .int .i32 1]).run Yba.prog w = .ok (.value (.bool true)) (w.setCell a (.int .i32 1)) :=
    run_call_cas_hit (P := Yba.prog) Yba.func25 (by kernel_rfl) (by kernel_rfl) (by kernel_rfl) .i32 (by kernel_rfl) (y := 1) hc hz
  have hc1 := World.cell?_setCell_same w a (.int .i32 1) hc
  have hcv := convPtr a (w.setCell a (.int .i32 1)) _ hc1
  go_enter Yba.func17, Yba.ntmps17
  go_wp2
  go_ret
  exact ⟨rfl, rfl⟩

/-- '(*sync.Mutex).TryLock', free and nobody waiting (state 0): true; state 1. -/
theorem try_free (a : Addr) (w : World) (hc : w.cell? a = some (.int .i32 0)) (hz : w.frozen? a = false) :
    Calls Yba.prog 11 #[.pointer (some a)] w fun e w' => e = .returned (.bool true) ∧ w' = w.setCell a (.int .i32 1) := by
  go_enter Yba.func11, Yba.ntmps11
  go_wp2_with (go_at_call 17; refine (itry_free a _ hc hz).mono ?_; rintro e w' ⟨rfl, rfl⟩)
  go_ret
  exact ⟨rfl, rfl⟩

/-! ### sync.Cond.Broadcast, nobody waiting -/
theorem check_match (x : Value) (h1 : Value → Sem Value) (h2 : Array Value → Sem Value) : Extern.SyncCond.check.match_3 (fun _ => Sem Value) #[x] h1 h2 = h1 x := rfl

theorem run_check (a : Addr) (w : World) (hc : w.cell? a = some (.int .u64 0)) (hz : w.frozen? a = false) :
    (callFunc 21 #[.pointer (some a)]).run Yba.prog w = .ok (.value (.tuple #[])) (w.setCell a (.pointer (some a))) := by
  rw [run_callFunc_extern Yba.func21 (by kernel_rfl) (by kernel_rfl) (by kernel_rfl) (by kernel_rfl : Extern.find Yba.f21 = some Extern.SyncCond.check)]
  unfold Extern.SyncCond.check
  rw [check_match]
  simp [asAddr, hc, hz, Extern.SyncCond.isSelf, run_store Yba.prog w a (.pointer (some a)) .atomic rfl, Result.andThen, Extern.SyncCond.none_]

theorem run_notifyAll (a b : Addr) (w : World) (hb : a.add 1 = b) (h0 : w.cell? a = some (.int .u32 0)) (h1 : w.cell? b = some (.int .u32 0)) :
    (callFunc 22 #[.pointer (some a)]).run Yba.prog w = .ok (.value (.tuple #[])) w := by
  rw [run_callFunc_extern Yba.func22 (by kernel_rfl) (by kernel_rfl) (by kernel_rfl) (by kernel_rfl : Extern.find Yba.f22 = some Extern.SyncCond.notifyAll)]
  have e0 : a.add 0 = a := by simp [Addr.add]
  have ew : (IntKind.u32.wrap 0).toNat = 0 := by kernel_rfl
  simp [Extern.SyncCond.notifyAll, Extern.SyncCond.list, Extern.SyncCond.counter, e0, hb, h0, h1, ew, Result.andThen, Extern.SyncCond.none_]

/-- Broadcast on a Cond that nobody waits at, used for the first time: the copy check's word is laid. -/
theorem broadcast (c : Nat) (w : World) (h1 : w.cell? ⟨c, 1, none⟩ = some (.int .u32 0)) (h2 : w.cell? ⟨c, 2, none⟩ = some (.int .u32 0)) (h6 : w.cell? ⟨c, 6, none⟩ = some (.int .u64 0)) (hz : w.frozen? ⟨c, 6, none⟩ = false) :
    Calls Yba.prog 16 #[.pointer (some ⟨c, 0, none⟩)] w fun e w' => e = .returned (.tuple #[]) ∧ w' = w.setCell ⟨c, 6, none⟩ (.pointer (some ⟨c, 6, none⟩)) := by
  have hch := run_check ⟨c, 6, none⟩ w h6 hz
  have q1 : (w.setCell ⟨c, 6, none⟩ (.pointer (some ⟨c, 6, none⟩))).cell? ⟨c, 1, none⟩ = some (.int .u32 0) := (World.cell?_setCell_other _ _ _ _ (by simp)).trans h1
  have q2 : (w.setCell ⟨c, 6, none⟩ (.pointer (some ⟨c, 6, none⟩))).cell? ⟨c, 2, none⟩ = some (.int .u32 0) := (World.cell?_setCell_other _ _ _ _ (by simp)).trans h2
  have hno := run_notifyAll ⟨c, 1, none⟩ ⟨c, 2, none⟩ _ (by simp [Addr.add]) q1 q2
  go_enter Yba.func16, Yba.ntmps16
  go_wp2
  go_end0
  exact ⟨rfl, rfl⟩

end Go.Proofs.Ybulkcqvo
