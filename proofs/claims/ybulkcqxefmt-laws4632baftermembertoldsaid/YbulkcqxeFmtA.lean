import Derived.Test.YbulkcqxeFmtRows
import Derived.WalkKit
import Derived.WalkSpells
import Derived.WalkLawsBesides
import Derived.WalkSmall
import Derived.Deep.OwnRows
namespace Go.Proofs.YbulkcqxeFmt
open Go.RowKit

/-- Is the string s among xs? -/
def hasS (xs : List ByteArray) (s : ByteArray) : Bool := xs.any (fun x => s.toList == x.toList)

theorem hasS_nil (s : ByteArray) : hasS [] s = false := rfl
theorem hasS_snoc (xs : List ByteArray) (y s : ByteArray) : hasS (xs ++ [y]) s = (hasS xs s || (s.toList == y.toList)) := by simp [hasS]
theorem hasS_take_succ (xs : List ByteArray) (k : Nat) (s : ByteArray) (h : k < xs.length) : hasS (xs.take (k + 1)) s = (hasS (xs.take k) s || (s.toList == (xs.getD k ByteArray.empty).toList)) := by
  rw [List.take_succ_eq_append_getElem h, hasS_snoc]
  simp [h]
theorem hasS_of_take (xs : List ByteArray) (k : Nat) (s : ByteArray) (h : hasS (xs.take k) s = true) : hasS xs s = true := by
  unfold hasS at h ⊢
  rw [List.any_eq_true] at h ⊢
  obtain ⟨x, hx, hh⟩ := h
  exact ⟨x, List.mem_of_mem_take hx, hh⟩

set_option maxHeartbeats 400000 in
theorem index_any (b off cap : Nat) (xs : List ByteArray) (s : ByteArray) (w : World) (hm : xs.length ≤ 1000000) (hc : ∀ i, i < xs.length → w.cell? ⟨b, off + i, none⟩ = some (.string (xs.getD i ByteArray.empty))) :
    Calls Ybaf.prog 13 #[.slice (some ⟨b, off, none⟩) xs.length cap, .string s] w fun e w' => ∃ r : Int, e = .returned (.int .i64 r) ∧ ((0 ≤ r ∧ hasS xs s = true) ∨ (r = -1 ∧ hasS xs s = false)) ∧ w' = w := by
  go_enter Ybaf.func13, Ybaf.ntmps13
  go_wp2
  go_loop [8] (fun i => ∃ k : Nat, k ≤ xs.length ∧ i = .int .i64 k ∧ hasS (xs.take k) s = false) (fun i => xs.length - (intOf i).toNat)
  case atStart => exact ⟨0, Nat.zero_le _, rfl, rfl⟩
  case round =>
    obtain ⟨k, hk, rfl, hno⟩ := hrel
    by_cases hlt : k < xs.length
    · obtain ⟨y, hy⟩ : ∃ y, y = xs.getD k ByteArray.empty := ⟨_, rfl⟩
      have hcx : w.cell? ⟨b, off + k, none⟩ = some (.string y) := by rw [hy]; exact hc k hlt
      have HN : Hid (hasS (xs.take (k + 1)) s = (s.toList == y.toList)) := by rw [hasS_take_succ xs k s hlt, hno, hy]; rfl
      clear hno hc hy
      go_wp2
      · have h : (s.toList == y.toList) = true := by assumption
        go_ret
        exact ⟨k, rfl, Or.inl ⟨by omega, hasS_of_take xs (k + 1) s (by rw [HN.out]; exact h)⟩, rfl⟩
      · have h : (s.toList == y.toList) = false := by assumption
        go_round
        case rel => exact ⟨k + 1, by omega, by go_num, by rw [HN.out]; exact h⟩
        case measure => simp [intOf]; omega
    · have HN : Hid (hasS xs s = false) := by
        rw [List.take_of_length_le (by omega)] at hno
        exact hno
      clear hno hc
      go_wp2
      go_ret
      exact ⟨-1, rfl, Or.inr ⟨rfl, HN.out⟩, rfl⟩

set_option maxHeartbeats 400000 in
theorem index_zero (a : Option Addr) (cap : Nat) (s : ByteArray) (w : World) :
    Calls Ybaf.prog 13 #[.slice a 0 cap, .string s] w fun e w' => e = .returned (.int .i64 (-1)) ∧ w' = w := by
  go_enter Ybaf.func13, Ybaf.ntmps13
  go_wp2
  refine wp_loop_rounds 1 ?_
  rw [rounds_succ]
  go_wp2
  go_ret
  exact ⟨rfl, rfl⟩

/-- slices.Contains at a slice of strings: nil, empty, or cells from ⟨b, off⟩ on. -/
def Strs (w : World) (v : Value) (xs : List ByteArray) : Prop :=
  ∃ a cap, v = .slice a xs.length cap ∧ (xs = [] ∨ ∃ b off, a = some ⟨b, off, none⟩ ∧ ∀ i, i < xs.length → w.cell? ⟨b, off + i, none⟩ = some (.string (xs.getD i ByteArray.empty)))

theorem contains_any (v : Value) (xs : List ByteArray) (s : ByteArray) (w : World) (hm : xs.length ≤ 1000000) (hv : Strs w v xs) :
    Calls Ybaf.prog 10 #[v, .string s] w fun e w' => e = .returned (.bool (hasS xs s)) ∧ w' = w := by
  obtain ⟨a, cap, rfl, h | ⟨b, off, rfl, hc⟩⟩ := hv
  · subst h
    go_enter Ybaf.func10, Ybaf.ntmps10
    go_wp2_with (go_at_call 13; refine (index_zero a cap s _).mono ?_; rintro e w' ⟨rfl, rfl⟩)
    go_ret
    exact ⟨rfl, rfl⟩
  · have hI := index_any b off cap xs s w hm hc
    clear hc
    go_enter Ybaf.func10, Ybaf.ntmps10
    go_wp2_with (go_at_call 13; refine hI.mono ?_; rintro e w' ⟨r, rfl, hr, rfl⟩)
    go_ret
    refine ⟨?_, rfl⟩
    rcases hr with ⟨h1, h2⟩ | ⟨h1, h2⟩
    · rw [h2]; simp [h1]
    · rw [h2, h1]; rfl
end Go.Proofs.YbulkcqxeFmt
