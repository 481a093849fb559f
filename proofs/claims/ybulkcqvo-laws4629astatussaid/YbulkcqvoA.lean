import Derived.Test.YbulkcqvoRows
import Derived.WalkKit
import Derived.ProofKit
import Derived.OpenShut
import Derived.ShutString
namespace Go.Proofs.Ybulkcqvo
open Go.RowKit

theorem exit_yes (s : ByteArray) (w : World) (h : (s.toList == [99, 108, 101, 97, 110]) = true) : Calls Yba.prog 8 #[.string s] w fun e w' => e = .returned (.int .i64 0) ∧ w' = w := by
  go_enter Yba.func8, Yba.ntmps8
  go_wp2
  go_ret
  exact ⟨rfl, rfl⟩

theorem exit_no (s : ByteArray) (w : World) (h : (s.toList == [99, 108, 101, 97, 110]) = false) : Calls Yba.prog 8 #[.string s] w fun e w' => e = .returned (.int .i64 1) ∧ w' = w := by
  go_enter Yba.func8, Yba.ntmps8
  go_wp2
  go_ret
  exact ⟨rfl, rfl⟩

theorem five (s : ByteArray) (h : s.size = 5) : ∃ b0 b1 b2 b3 b4 : UInt8, s = ⟨#[b0, b1, b2, b3, b4]⟩ := by
  obtain ⟨⟨l⟩⟩ := s
  match l, h with
  | [b0, b1, b2, b3, b4], _ => exact ⟨b0, b1, b2, b3, b4, rfl⟩

theorem list_five (b0 b1 b2 b3 b4 : UInt8) : (ByteArray.mk #[b0, b1, b2, b3, b4]).toList = [b0, b1, b2, b3, b4] := by
  simp [ByteArray.toList_eq]

end Go.Proofs.Ybulkcqvo
