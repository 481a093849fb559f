import Derived.Test.YbulkcqtyRows
import Derived.WalkKit
import Derived.RowKit3
import Derived.Lib.EndianBits
import Derived.Laws.IdiomCopy
import Derived.RegionTactic
import Derived.BigQuiet
import Derived.Deep.QuietTactic
import Derived.Deep.RegionWith
import Derived.Deep.Draws
import Derived.Stop.LaidErr
import Derived.WalkSmall
import Derived.Lib.EndianMore
namespace Go.Proofs.Ybulkcqty
open Go.RowKit

set_option maxHeartbeats 2000000 in
set_option maxRecDepth 100000 in
/-- binary.LittleEndian.PutUint32 at this dump. -/
theorem put32 (g o n c : Nat) (v : Int) (hv0 : 0 ≤ v) (hv : v < 4294967296) (x0 x1 x2 x3 : Value) (w : World) (hn : 4 ≤ n)
    (c0 : w.cell? ⟨g, o, none⟩ = some x0) (c1 : w.cell? ⟨g, o + 1, none⟩ = some x1) (c2 : w.cell? ⟨g, o + 2, none⟩ = some x2) (c3 : w.cell? ⟨g, o + 3, none⟩ = some x3)
    (f0 : w.frozen? ⟨g, o, none⟩ = false) (f1 : w.frozen? ⟨g, o + 1, none⟩ = false) (f2 : w.frozen? ⟨g, o + 2, none⟩ = false) (f3 : w.frozen? ⟨g, o + 3, none⟩ = false) :
    Calls Yba.prog 7 #[.agg #[], .slice (some ⟨g, o, none⟩) n c, .int .u32 v] w fun e w' => e = .returned (.tuple #[]) ∧
      w' = (w.alloc (.cells #[] 32)).setCells g o [Value.int .u8 (v % 256), Value.int .u8 (v / 256 % 256), Value.int .u8 (v / 65536 % 256), Value.int .u8 (v / 16777216)] := by
  have d0 := cell?_alloc_old (.cells #[] 32) c0
  have fa0 := (frozen?_alloc_cells w #[] 32 ⟨g, o, none⟩).trans f0
  have d1 := cell?_alloc_old (.cells #[] 32) c1
  have fa1 := (frozen?_alloc_cells w #[] 32 ⟨g, o + 1, none⟩).trans f1
  have d2 := cell?_alloc_old (.cells #[] 32) c2
  have fa2 := (frozen?_alloc_cells w #[] 32 ⟨g, o + 2, none⟩).trans f2
  have d3 := cell?_alloc_old (.cells #[] 32) c3
  have fa3 := (frozen?_alloc_cells w #[] 32 ⟨g, o + 3, none⟩).trans f3
  go_enter Yba.func7, Yba.ntmps7
  go_wp2
  go_end0
  exact ⟨rfl, rfl⟩

set_option maxHeartbeats 2000000 in
set_option maxRecDepth 100000 in
/-- binary.LittleEndian.Uint32 at this dump. -/
theorem get32 (g o n c : Nat) (b0 b1 b2 b3 : Int) (w : World) (hn : 4 ≤ n)
    (h0 : 0 ≤ b0 ∧ b0 < 256) (h1 : 0 ≤ b1 ∧ b1 < 256) (h2 : 0 ≤ b2 ∧ b2 < 256) (h3 : 0 ≤ b3 ∧ b3 < 256)
    (c0 : w.cell? ⟨g, o, none⟩ = some (.int .u8 b0)) (c1 : w.cell? ⟨g, o + 1, none⟩ = some (.int .u8 b1)) (c2 : w.cell? ⟨g, o + 2, none⟩ = some (.int .u8 b2)) (c3 : w.cell? ⟨g, o + 3, none⟩ = some (.int .u8 b3)) :
    Calls Yba.prog 9 #[.agg #[], .slice (some ⟨g, o, none⟩) n c] w fun e w' => e = .returned (.int .u32 (b0 + b1 * 256 + b2 * 65536 + b3 * 16777216)) ∧ Below w.heap.size w w' := by
  obtain ⟨h0a, h0b⟩ := h0
  obtain ⟨h1a, h1b⟩ := h1
  obtain ⟨h2a, h2b⟩ := h2
  obtain ⟨h3a, h3b⟩ := h3
  have d0 := cell?_alloc_old (.cells #[] 32) c0
  have d1 := cell?_alloc_old (.cells #[] 32) c1
  have d2 := cell?_alloc_old (.cells #[] 32) c2
  have d3 := cell?_alloc_old (.cells #[] 32) c3
  have hn0 : 0 < n := by omega
  have hn1 : (1 : Int) < (n : Int) := by omega
  have hn2 : (2 : Int) < (n : Int) := by omega
  have hn3 : (3 : Int) < (n : Int) := by omega
  go_enter Yba.func9, Yba.ntmps9
  go_wp2
  go_quiet (fail)
  go_wp2
  go_ret
  refine ⟨?_, ?_⟩
  · simp (disch := omega) only [u32_or8, u32_or16, u32_or24]
    rfl
  · exact below_drewN ((Below.refl _ w).alloc (Nat.le_refl _) _) nq
end Go.Proofs.Ybulkcqty
