import Derived.Test.YbulkcqtyA
namespace Go.Proofs.Ybulkcqty
open Go.RowKit

/-- The segment at block g3, its table at block g2: n rows of 20 bytes; the four bytes from 12 on of row i spell F i. -/
structure Seg (w : World) (g3 g2 n : Nat) (rows : Int) (F : Nat → Int) : Prop where
  l3 : g3 < w.heap.size
  l2 : g2 < w.heap.size
  blocks : w.cell? ⟨g3, 2, none⟩ = some (.slice (some ⟨g2, 0, none⟩) (20 * n) (20 * n))
  count : w.cell? ⟨g3, 3, none⟩ = some (.int .i64 n)
  bnd : ∀ i, i < n → 0 ≤ F i ∧ F i < 4294967296
  c0 : ∀ i, i < n → w.cell? ⟨g2, 20 * i + 12, none⟩ = some (.int .u8 (F i % 256))
  c1 : ∀ i, i < n → w.cell? ⟨g2, 20 * i + 12 + 1, none⟩ = some (.int .u8 (F i / 256 % 256))
  c2 : ∀ i, i < n → w.cell? ⟨g2, 20 * i + 12 + 2, none⟩ = some (.int .u8 (F i / 65536 % 256))
  c3 : ∀ i, i < n → w.cell? ⟨g2, 20 * i + 12 + 3, none⟩ = some (.int .u8 (F i / 16777216))

theorem Seg.below {w w' : World} {g3 g2 n : Nat} {rows : Int} {F : Nat → Int} (s : Seg w g3 g2 n rows F) (h : Below w.heap.size w w') : Seg w' g3 g2 n rows F where
  l3 := Nat.lt_of_lt_of_le s.l3 h.size
  l2 := Nat.lt_of_lt_of_le s.l2 h.size
  blocks := (h.cell s.l3).trans s.blocks
  count := (h.cell s.l3).trans s.count
  bnd := s.bnd
  c0 i hi := (h.cell s.l2).trans (s.c0 i hi)
  c1 i hi := (h.cell s.l2).trans (s.c1 i hi)
  c2 i hi := (h.cell s.l2).trans (s.c2 i hi)
  c3 i hi := (h.cell s.l2).trans (s.c3 i hi)

theorem spell (v : Int) : v % 256 + v / 256 % 256 * 256 + v / 65536 % 256 * 65536 + v / 16777216 * 16777216 = v := by omega

theorem info5 : (Yba.prog.info? 5).map (fun i => (i.zero, i.size, i.bytes)) = some (some (.int .u8 0), 1, 1) := by kernel_rfl
theorem size5 (w : World) : (sizeOf 5).run Yba.prog w = .ok 1 w := by kernel_rfl

theorem slice_from (g2 n b : Nat) (hb : b < n) (w : World) :
    (Instr.slice 23 (.slice (some ⟨g2, 0, none⟩) (20 * n) (20 * n)) (some (.int .i64 ((b : Int) * 20 + 12))) none none).run Yba.prog w = .ok (.slice (some ⟨g2, 20 * b + 12, none⟩) (20 * n - (20 * b + 12)) (20 * n - (20 * b + 12))) w := by
  have he : Yba.prog.elem 23 = 5 := by kernel_rfl
  rw [run_slice_l (P := Yba.prog) (w := w) 23 _ _ _ (by rw [he]; exact Yba.underlying23) .i64 ((b : Int) * 20 + 12) (by omega) (by omega), he, size5]
  have e1 : ((b : Int) * 20 + 12).toNat = 20 * b + 12 := by omega
  have e2 : ¬ 20 * n = 20 * b + 12 := by omega
  simp [Result.andThen, sliced, e1, e2, Addr.add]

set_option maxHeartbeats 400000 in
theorem firstRow (g3 g2 n : Nat) (rows : Int) (F : Nat → Int) (b : Nat) (w : World) (hn : n ≤ 1024) (hb : b < n) (s : Seg w g3 g2 n rows F) :
    Calls Yba.prog 8 #[.pointer (some ⟨g3, 0, none⟩), .int .i64 b] w fun e w' => e = .returned (.int .i64 (F b)) ∧ Below w.heap.size w w' := by
  have k2 := s.blocks
  have k3 := s.count
  obtain ⟨v0, v1⟩ := s.bnd b hb
  have hne : ((b : Int) == (n : Int)) = false := by simp; omega
  have hG := get32 g2 (20 * b + 12) (20 * n - (20 * b + 12)) (20 * n - (20 * b + 12)) (F b % 256) (F b / 256 % 256) (F b / 65536 % 256) (F b / 16777216) w.drew (by omega) (by omega) (by omega) (by omega) (by omega)
    (s.c0 b hb) (s.c1 b hb) (s.c2 b hb) (s.c3 b hb)
  rw [spell] at hG
  have hsl := slice_from g2 n b hb
  have hw1 : IntKind.i64.wrap ((b : Int) * 20) = (b : Int) * 20 := IntWalk.i64_in _ (by omega)
  have hw2 : IntKind.i64.wrap ((b : Int) * 20 + 12) = (b : Int) * 20 + 12 := IntWalk.i64_in _ (by omega)
  have hw3 : IntKind.i64.wrap (F b) = F b := IntWalk.i64_in _ (by omega)
  clear s
  go_enter Yba.func8, Yba.ntmps8
  go_wp2
  go_region_with (go_at_call 9; refine hG.mono ?_; rintro e w2 ⟨rfl, hb2⟩)
  all_goals
    go_wp2
    go_ret
    exact ⟨rfl, (Below.refl _ w).drew.trans hb2⟩

/-- What blockOf answers: the last block from 1 on whose first row is row or below it, else 0. -/
def Last (n : Nat) (F : Nat → Int) (row : Int) (b : Nat) : Prop := (b = 0 ∨ (b < n ∧ F b ≤ row)) ∧ ∀ i, b < i → i < n → row < F i

theorem last_unique {n : Nat} {F : Nat → Int} {row : Int} {a b : Nat} (ha : Last n F row a) (hb : Last n F row b) : a = b := by
  obtain ⟨a1, a2⟩ := ha
  obtain ⟨b1, b2⟩ := hb
  rcases Nat.lt_trichotomy a b with h | h | h
  · rcases b1 with rfl | ⟨b1, b3⟩
    · omega
    · have := a2 b h b1; omega
  · exact h
  · rcases a1 with rfl | ⟨a1, a3⟩
    · omega
    · have := b2 a h a1; omega

set_option maxHeartbeats 400000 in
theorem blockOf (g3 g2 n : Nat) (rows : Int) (F : Nat → Int) (row : Int) (w : World) (hn : n ≤ 1024) (mono : ∀ i j, i ≤ j → j < n → F i ≤ F j) (s : Seg w g3 g2 n rows F) :
    Calls Yba.prog 6 #[.pointer (some ⟨g3, 0, none⟩), .int .i64 row] w fun e w' => ∃ b : Nat, e = .returned (.int .i64 b) ∧ Last n F row b ∧ b ≤ 1024 ∧ Below w.heap.size w w' := by
  have k3 := s.count
  have s0 : Hid (Seg w g3 g2 n rows F) := s
  clear s
  go_enter Yba.func6, Yba.ntmps6
  go_wp2
  go_quiet (fail)
  go_wp2
  go_loopw [5, 6] (fun lo hi wr => ∃ l h : Nat, lo = .int .i64 l ∧ hi = .int .i64 h ∧ h ≤ n ∧ (l < h ∨ (l = 0 ∧ h = 0)) ∧ (l = 0 ∨ F l ≤ row) ∧ (∀ i, h ≤ i → i < n → row < F i) ∧ Below w.heap.size w wr)
    (fun lo hi _ => (intOf hi).toNat - (intOf lo).toNat)
  case atStart => exact ⟨0, n, rfl, rfl, Nat.le_refl _, by omega, Or.inl rfl, fun i h1 h2 => by omega, below_drewN (Below.refl _ _) nq⟩
  case round =>
    obtain ⟨l, h, rfl, rfl, hh, hlh, hl, hhi, hb⟩ := hrel
    by_cases hc : l + 1 < h
    · have hs1 := s0.out.below hb
      have hf := firstRow g3 g2 n rows F ((l + h) / 2) wr hn (by omega) hs1
      rw [show (((l + h) / 2 : Nat) : Int) = ((l : Int) + (h : Int)) / 2 from by omega] at hf
      have Hf := hf
      clear hf
      by_cases hq : F ((l + h) / 2) ≤ row
      · go_wp2_with (go_at_call 8; refine Hf.mono ?_; rintro e w2 ⟨rfl, hb2⟩)
        go_roundw
        case rel => exact ⟨(l + h) / 2, h, by go_num, rfl, hh, by omega, Or.inr hq, hhi, hb.trans (hb2.mono hb.size)⟩
        case measure => simp [intOf]; omega
      · go_wp2_with (go_at_call 8; refine Hf.mono ?_; rintro e w2 ⟨rfl, hb2⟩)
        go_roundw
        case rel => exact ⟨l, (l + h) / 2, rfl, by go_num, by omega, by omega, hl, fun i h1 h2 => by have := mono ((l + h) / 2) i h1 h2; omega, hb.trans (hb2.mono hb.size)⟩
        case measure => simp [intOf]; omega
    · go_wp2
      go_ret
      refine ⟨l, rfl, ⟨?_, fun i h1 h2 => hhi i (by omega) h2⟩, by omega, hb⟩
      rcases hl with h0 | h0
      · exact Or.inl h0
      · by_cases e : l = 0
        · exact Or.inl e
        · exact Or.inr ⟨by omega, h0⟩
end Go.Proofs.Ybulkcqty
