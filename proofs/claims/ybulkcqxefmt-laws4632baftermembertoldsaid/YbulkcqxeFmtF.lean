import Derived.Test.YbulkcqxeFmtE
namespace Go.Proofs.YbulkcqxeFmt
open Go.RowKit Go.Maps Go.WideMaps

/-- Are all of ss among xs? -/
def allS (ss xs : List ByteArray) : Bool := ss.all (fun n => hasS xs n)

theorem allS_take_succ (ss xs : List ByteArray) (k : Nat) (h : k < ss.length) : allS (ss.take (k + 1)) xs = (allS (ss.take k) xs && hasS xs (ss.getD k ByteArray.empty)) := by
  unfold allS
  rw [List.take_succ_eq_append_getElem h, List.all_append]
  simp [h]

theorem allS_false_of_take (ss xs : List ByteArray) (k : Nat) (h : allS (ss.take k) xs = false) : allS ss xs = false := by
  unfold allS at h ⊢
  rw [List.all_eq_false] at h ⊢
  obtain ⟨x, hx, hh⟩ := h
  exact ⟨x, List.mem_of_mem_take hx, hh⟩

set_option maxHeartbeats 400000 in
theorem allin_some (b off cap : Nat) (ss xs : List ByteArray) (v : Value) (w : World) (hm : ss.length ≤ 1000000) (hx : xs.length ≤ 1000000) (hv : Strs w v xs)
    (hc : ∀ i, i < ss.length → w.cell? ⟨b, off + i, none⟩ = some (.string (ss.getD i ByteArray.empty))) :
    Calls Ybaf.prog 7 #[.slice (some ⟨b, off, none⟩) ss.length cap, v] w fun e w' => e = .returned (.bool (allS ss xs)) ∧ w' = w := by
  go_enter Ybaf.func7, Ybaf.ntmps7
  go_wp2
  go_loop [9] (fun i => ∃ k : Nat, k ≤ ss.length ∧ i = .int .i64 k ∧ allS (ss.take k) xs = true) (fun i => ss.length - (intOf i).toNat)
  case atStart => exact ⟨0, Nat.zero_le _, rfl, rfl⟩
  case round =>
    obtain ⟨k, hk, rfl, hall⟩ := hrel
    by_cases hlt : k < ss.length
    · obtain ⟨y, hy⟩ : ∃ y, y = ss.getD k ByteArray.empty := ⟨_, rfl⟩
      have hcx : w.cell? ⟨b, off + k, none⟩ = some (.string y) := by rw [hy]; exact hc k hlt
      have HN : Hid (allS (ss.take (k + 1)) xs = hasS xs y) := by rw [allS_take_succ ss xs k hlt, hall, hy]; simp [Hid]
      have hC := contains_any v xs y w hx hv
      clear hall hc hy
      cases hh : hasS xs y
      · rw [hh] at hC
        have HH := hid hh
        clear hh
        go_wp2_with (go_at_call 10; refine hC.mono ?_; rintro e w2 ⟨rfl, rfl⟩)
        go_ret
        exact ⟨by rw [allS_false_of_take ss xs (k + 1) (by rw [HN.out, HH.out])]; rfl, rfl⟩
      · rw [hh] at hC
        have HH := hid hh
        clear hh
        go_wp2_with (go_at_call 10; refine hC.mono ?_; rintro e w2 ⟨rfl, rfl⟩)
        go_round
        case rel => exact ⟨k + 1, by omega, by go_num, by rw [HN.out, HH.out]⟩
        case measure => simp [intOf]; omega
    · have HN : Hid (allS ss xs = true) := by
        rw [List.take_of_length_le (by omega)] at hall
        exact hall
      clear hall hc
      go_wp2
      go_ret
      exact ⟨by rw [HN.out]; rfl, rfl⟩

set_option maxHeartbeats 400000 in
theorem allin_zero (a : Option Addr) (cap : Nat) (v : Value) (w : World) : Calls Ybaf.prog 7 #[.slice a 0 cap, v] w fun e w' => e = .returned (.bool true) ∧ w' = w := by
  go_enter Ybaf.func7, Ybaf.ntmps7
  go_wp2
  refine wp_loop_rounds 1 ?_
  rw [rounds_succ]
  go_wp2
  go_ret
  exact ⟨rfl, rfl⟩

theorem allin_any (vn v : Value) (ss xs : List ByteArray) (w : World) (hm : ss.length ≤ 1000000) (hx : xs.length ≤ 1000000) (hn : Strs w vn ss) (hv : Strs w v xs) :
    Calls Ybaf.prog 7 #[vn, v] w fun e w' => e = .returned (.bool (allS ss xs)) ∧ w' = w := by
  obtain ⟨a, cap, rfl, h | ⟨b, off, rfl, hc⟩⟩ := hn
  · subst h
    exact allin_zero a cap v w
  · exact allin_some b off cap ss xs v w hm hx hv hc
end Go.Proofs.YbulkcqxeFmt
