import Derived.Test.YbulkcqxeFmtA
import Derived.Stop.CallBack
import Derived.Lib.MinMaxS
import Derived.Stop.IfaceNil
import GoSem.ClaimData
namespace Go.Proofs.YbulkcqxeFmt
open Go.RowKit Go.Extern.Stop Go.Stop Go.Extern

/-- The call hands back a string. -/
def IsStr (e : Ending) : Prop := ∃ m, e = .returned (.string m)

set_option maxHeartbeats 400000 in
theorem min_any (b off cap : Nat) (xs : List ByteArray) (w : World) (h1 : 1 ≤ xs.length) (hm : xs.length ≤ 1000000) (hc : ∀ i, i < xs.length → w.cell? ⟨b, off + i, none⟩ = some (.string (xs.getD i ByteArray.empty))) :
    Calls Ybaf.prog 12 #[.slice (some ⟨b, off, none⟩) xs.length cap] w fun e w' => IsStr e ∧ w' = w := by
  have hmin := fun (x y : ByteArray) (w : World) => Lib.run_min_strs (P := Ybaf.prog) w #[9, 9] 9 x y
  have hd : decide ((xs.length : Int) < 1) = false := by simp; omega
  have hc0 : w.cell? ⟨b, off, none⟩ = some (.string (xs.getD 0 ByteArray.empty)) := hc 0 (by omega)
  obtain ⟨y0, hy0⟩ : ∃ y, y = xs.getD 0 ByteArray.empty := ⟨_, rfl⟩
  rw [← hy0] at hc0
  clear hy0
  go_enter Ybaf.func12, Ybaf.ntmps12
  go_wp2
  go_loop [3, 4] (fun m i => ∃ (y : ByteArray) (k : Nat), m = .string y ∧ i = .int .i64 k ∧ 1 ≤ k ∧ k ≤ xs.length) (fun _ i => xs.length - (intOf i).toNat)
  case atStart => exact ⟨_, 1, rfl, rfl, by omega, by omega⟩
  case round =>
    obtain ⟨y, k, rfl, rfl, hk1, hk⟩ := hrel
    by_cases hlt : k < xs.length
    · obtain ⟨z, hz⟩ : ∃ z, z = xs.getD k ByteArray.empty := ⟨_, rfl⟩
      have hcx : w.cell? ⟨b, off + k, none⟩ = some (.string z) := by rw [hz]; exact hc k hlt
      clear hc hz
      go_wp2
      go_round
      case rel => exact ⟨_, k + 1, rfl, by go_num, by omega, by omega⟩
      case measure => simp [intOf]; omega
    · go_wp2
      go_ret
      exact ⟨⟨y, rfl⟩, rfl⟩

/-! ### fmt.Errorf: the stop's own facts at this dump -/
theorem call14 (args : Array Value) (w : World) : (callFunc 14 args).run Ybaf.prog w = ((FmtStop.errorf #[9, 42] #[31] args).run Ybaf.prog w).andThen fun v w' => .ok (.value v) w' :=
  run_callFunc_extern Ybaf.func14 (by kernel_rfl) (by kernel_rfl) (by kernel_rfl) (by kernel_rfl) args w
theorem fguard (name : String) (w : World) : (FmtStop.guard name).run Ybaf.prog w = .ok () w := by kernel_rfl
def shape9 : List UInt8 := [12, 6, 0, 0, 0, 0, 0, 0, 0, 115, 116, 114, 105, 110, 103]
theorem op9_113 (name : String) (x : ByteArray) (w : World) : (FmtStop.operand name true 113 false (.iface 9 (.string x))).run Ybaf.prog w = .ok (shape9, FmtStop.pack x.data.toList) w := by kernel_rfl
theorem ptr45 (w : World) : (FmtStop.ptrTo "errors.errorString").run Ybaf.prog w = .ok 45 w := by kernel_rfl
theorem elem45 (w : World) : (elemOf 45).run Ybaf.prog w = .ok 47 w := by kernel_rfl
def fmtUnexpected : ByteArray := ⟨#[117, 110, 101, 120, 112, 101, 99, 116, 101, 100, 32, 102, 105, 101, 108, 100, 32, 37, 113]⟩
def fmtMissing : ByteArray := ⟨#[109, 105, 115, 115, 105, 110, 103, 32, 102, 105, 101, 108, 100, 32, 37, 113]⟩
theorem printed_u (w : World) : (FmtDoors.printed fmtUnexpected 1).run Ybaf.prog w = .ok [(0, 113, false)] w := by kernel_rfl
theorem printed_m (w : World) : (FmtDoors.printed fmtMissing 1).run Ybaf.prog w = .ok [(0, 113, false)] w := by kernel_rfl

/-- The call hands back an error that is not nil. -/
def IsErr (e : Ending) : Prop := ∃ t v, e = .returned (.iface t v)

set_option maxHeartbeats 800000 in
theorem errorf_any (f s : ByteArray) (g : Nat) (w : World) (hp : ∀ w, (FmtDoors.printed f 1).run Ybaf.prog w = .ok [(0, 113, false)] w) (hc : w.cell? ⟨g, 0, none⟩ = some (.iface 9 (.string s))) :
    Calls Ybaf.prog 11 #[.string f, .slice (some ⟨g, 0, none⟩) 1 1] w fun e w' => IsErr e ∧ Below w.heap.size w w' := by
  have h1 := call14
  have h2 := fguard
  have h3 := op9_113
  have h4 := ptr45
  have h5 := elem45
  go_enter Ybaf.func11, Ybaf.ntmps11
  go_wp2
  go_ret
  exact ⟨⟨_, _, rfl⟩, ((Below.refl _ w).alloc (Nat.le_refl _) _).drew⟩
end Go.Proofs.YbulkcqxeFmt
