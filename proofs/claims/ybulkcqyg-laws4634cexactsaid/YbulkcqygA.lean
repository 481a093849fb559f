import Derived.Test.YbulkcqygRows
import Derived.WalkKit
import Derived.ProofKit
import Derived.OpenShut
import Derived.ShutString
import Derived.Deep.OwnRows
import Derived.Laws.Rows
import Derived.Laws.CopyOwn
import Derived.WalkSmall
import Derived.Below
import Derived.BigQuiet
import Derived.Deep.QuietTactic
namespace Go.Proofs.Ybulkcqyg
open Go.RowKit

def zeros : Array Value := Array.replicate 256 (.bool false)

theorem zero22 (w : World) : (zeroValue 22).run Yba.prog w = .ok (.agg zeros) w := by kernel_rfl
theorem size22 : (Yba.prog.info? 22).map (·.size) = some 256 := by kernel_rfl

/-! ### plain -/
/-- Does byte j occur among the first k of s? -/
def inTo (s : ByteArray) (k j : Nat) : Bool := (s.data.toList.take k).any (fun b => b.toNat == j)

theorem inTo_zero (s : ByteArray) (j : Nat) : inTo s 0 j = false := by simp [inTo]

theorem inTo_succ (s : ByteArray) (k j : Nat) (h : k < s.size) : inTo s (k + 1) j = (inTo s k j || (s[k].toNat == j)) := by
  unfold inTo
  rw [List.take_succ_eq_append_getElem (by simpa using h)]
  simp
  rfl

theorem inTo_all (s : ByteArray) (k j : Nat) (h : inTo s k j = true) : inTo s s.size j = true := by
  unfold inTo at h ⊢
  rw [List.any_eq_true] at h ⊢
  obtain ⟨b, hb, hj⟩ := h
  refine ⟨b, ?_, hj⟩
  rw [List.take_of_length_le (by simp)]
  exact List.mem_of_mem_take hb

theorem byte_wrap (b : UInt8) : wrap64 (b.toNat : Int) = b.toNat := IntWalk.wrap64_in _ (by have := b.toNat_lt; omega)

theorem hit (s : ByteArray) (k c : Nat) (hk : k < s.size) (h : (wrap64 (s[k].toNat : Int) == (c : Int)) = true) : inTo s s.size c = true := by
  rw [byte_wrap] at h
  have h' : (s[k].toNat : Int) = c := by simpa using h
  have : s[k].toNat = c := by omega
  exact inTo_all s (k + 1) c (by rw [inTo_succ s k c hk, this]; simp)

theorem miss (s : ByteArray) (k c : Nat) (hk : k < s.size) (h0 : inTo s k c = false) (h : (wrap64 (s[k].toNat : Int) == (c : Int)) = false) : inTo s (k + 1) c = false := by
  rw [byte_wrap] at h
  have h' : ¬ (s[k].toNat : Int) = c := by simpa using h
  have : ¬ s[k].toNat = c := by omega
  rw [inTo_succ s k c hk, h0]
  simpa using this

set_option maxHeartbeats 400000 in
/-- the plain scan. -/
theorem has_any (s : ByteArray) (c : Nat) (w : World) (hs : s.size ≤ 4096) :
    Calls Yba.prog 6 #[.string s, .int .i64 c] w fun e w' => e = .returned (.bool (inTo s s.size c)) ∧ w' = w := by
  go_enter Yba.func6, Yba.ntmps6
  go_wp2
  go_loop [5] (fun i => ∃ k : Nat, k ≤ s.size ∧ i = .int .i64 k ∧ inTo s k c = false) (fun i => s.size - (intOf i).toNat)
  case atStart => exact ⟨0, Nat.zero_le _, rfl, inTo_zero s c⟩
  case round =>
    obtain ⟨k, hk, rfl, hno⟩ := hrel
    by_cases hlt : k < s.size
    · have HN : Hid (inTo s k c = false) := hno
      clear hno
      go_wp2
      · have h : (wrap64 (s[k].toNat : Int) == (c : Int)) = true := by assumption
        go_ret
        exact ⟨by rw [hit s k c hlt h]; rfl, rfl⟩
      · have h : (wrap64 (s[k].toNat : Int) == (c : Int)) = false := by assumption
        go_round
        case rel => exact ⟨k + 1, by omega, by go_num, miss s k c hlt HN.out h⟩
        case measure => simp [intOf]; omega
    · have HN : Hid (inTo s s.size c = false) := by rw [show s.size = k by omega]; exact hno
      clear hno
      go_wp2
      go_ret
      exact ⟨by rw [HN.out]; rfl, rfl⟩

theorem zeros_row (w : World) : (w.alloc (.cells zeros 22)).rowIs w.heap.size 22 256 (fun _ => .bool false) :=
  ⟨zeros, Go.Deep.blk_alloc_new _ _, Array.size_replicate, fun i hi => by unfold zeros; rw [Array.getElem?_replicate, if_pos hi]⟩

theorem set_step (s : ByteArray) (k : Nat) (hk : k < s.size) (wr : World) (B : Nat) (h : wr.rowIs B 22 256 (fun j => .bool (inTo s k j))) :
    (wr.setCell ⟨B, s[k].toNat, none⟩ (.bool true)).rowIs B 22 256 (fun j => .bool (inTo s (k + 1) j)) := by
  refine (h.set _ _).congr fun j _ => ?_
  rw [inTo_succ s k j hk]
  by_cases e : j = s[k].toNat
  · subst e; simp
  · simp [e]
    exact fun h => absurd h.symm e

set_option maxHeartbeats 400000 in
/-- byteSet. -/
theorem byteSet_any (s : ByteArray) (w : World) (hs : s.size ≤ 4096) :
    Calls Yba.prog 5 #[.string s] w fun e w' => ∃ cs : Array Value, e = .returned (.agg cs) ∧ cs.size = 256 ∧ (∀ j, j < 256 → cs[j]? = some (.bool (inTo s s.size j))) ∧ Below w.heap.size w w' := by
  have hz := zero22
  go_enter Yba.func5, Yba.ntmps5
  go_wp2
  go_loopw [3] (fun i wr => ∃ k : Nat, k ≤ s.size ∧ i = .int .i64 k ∧ wr.rowIs w.heap.size 22 256 (fun j => .bool (inTo s k j)) ∧ Below w.heap.size w wr) (fun i _ => s.size - (intOf i).toNat)
  case atStart => exact ⟨0, Nat.zero_le _, rfl, (zeros_row w).congr (fun j _ => by rw [inTo_zero]), (Below.refl _ w).alloc (Nat.le_refl _) _⟩
  case round =>
    obtain ⟨k, hk, rfl, hr, hb⟩ := hrel
    by_cases hlt : k < s.size
    · have H1 : Hid (_ ∧ _) := ⟨set_step s k hlt wr w.heap.size hr, hb.setCell (p := ⟨w.heap.size, s[k].toNat, none⟩) (Nat.le_refl _) (.bool true)⟩
      have h256 : s[k].toNat < 256 := s[k].toNat_lt
      have hce := hr.cell h256
      have hfr := hr.frozen s[k].toNat
      clear hr
      go_wp2
      go_roundw
      case rel => exact ⟨k + 1, by omega, by go_num, H1.out.1, H1.out.2⟩
      case measure => simp [intOf]; omega
    · obtain ⟨cs, hh, hsz, hcs⟩ := hr
      have hone : cs.all (·.oneCell') = true := by
        rw [Array.all_eq_true]
        intro i hi
        have := hcs i (by omega)
        rw [Array.getElem?_eq_getElem hi] at this
        rw [Option.some.inj this]
        rfl
      have HC : Hid (∀ j, j < 256 → cs[j]? = some (.bool (inTo s s.size j))) := fun j hj => by rw [hcs j hj, show k = s.size by omega]
      have hi22 : (Yba.prog.info? 22).map (·.size) = some cs.size := by rw [hsz]; exact size22
      clear hcs
      go_wp2_with (first | (refine wpList_load_row rfl 22 _ rfl w.heap.size rfl 22 cs (0, 0) _ hh Yba.underlying22 rfl hi22 ?_) | (refine wpList_store_row rfl 22 _ _ rfl w.heap.size cs rfl rfl 22 cs hh hi22 rfl hone ?_))
      exact bodyPost_ret (v := .agg cs) (results_cell_row rfl _ _ w.heap.size 22 cs (0, 0) _ rfl (setRow_heap wr w.heap.size cs cs 22 (0, 0) hh) Yba.underlying22 rfl hi22) rfl ⟨cs, rfl, hsz, HC.out, below_setRow hb (Nat.le_refl _) cs⟩
end Go.Proofs.Ybulkcqyg
