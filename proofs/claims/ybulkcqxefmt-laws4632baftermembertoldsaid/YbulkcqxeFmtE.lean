import Derived.Test.YbulkcqxeFmtD
import Derived.Maps.RangeWalk
namespace Go.Proofs.YbulkcqxeFmt
open Go.RowKit Go.Maps Go.WideMaps

theorem hid {p : Prop} (h : p) : Hid p := h

theorem strs_of_owns {w : World} {base n cap : Nat} {ra : Option Addr} {xs : List ByteArray} (h : w.ownsRow base 9 1 (.slice ra n cap) n (xs.map .string)) : Strs w (.slice ra n cap) xs ∧ xs.length = n := by
  have hl : xs.length = n := by have := h.1; simpa using this
  refine ⟨⟨ra, cap, by rw [hl], ?_⟩, hl⟩
  rcases h.2 with ⟨_, h0⟩ | ⟨g, cap', cur, hv, _⟩
  · left
    exact List.eq_nil_of_length_eq_zero (by omega)
  · right
    simp only [Value.slice.injEq, true_and] at hv
    obtain ⟨rfl, rfl⟩ := hv
    refine ⟨g, 0, rfl, fun i hi => ?_⟩
    rw [Nat.zero_add, h.cellAt i (by omega)]
    simp [hi]

/-- Every name in the map is among those read. -/
def AllRead (D : DataW Unit) (xs : List ByteArray) : Prop := ∀ s : ByteArray, Maps.has D (.string s.data.toList) = true → hasS xs s = true

/-- What has been found so far of those that are no longer to come. -/
def Found (D : DataW Unit) (xs : List ByteArray) (left : Lit → Bool) (ys : List ByteArray) : Prop :=
  (ys = [] ∧ ∀ s : ByteArray, Maps.has D (.string s.data.toList) = true → left (.string s.data.toList) = false → hasS xs s = true) ∨ (ys ≠ [] ∧ ∃ s : ByteArray, Maps.has D (.string s.data.toList) = true ∧ hasS xs s = false)

theorem found_start (D : DataW Unit) (xs : List ByteArray) : Found D xs (Maps.has D) [] := Or.inl ⟨rfl, fun s h1 h2 => by rw [h1] at h2; cases h2⟩

theorem hasS_congr {xs : List ByteArray} {s y : ByteArray} (h : s.data.toList = y.data.toList) : hasS xs s = hasS xs y := by
  unfold hasS
  simp only [ByteArray.toList_eq, h]

theorem found_yes {D : DataW Unit} {xs ys : List ByteArray} {left : Lit → Bool} {y : ByteArray} (h : Found D xs left ys) (hy : hasS xs y = true) : Found D xs (fun z => left z && !z.sameKey (.string y.data.toList)) ys := by
  rcases h with ⟨h1, h2⟩ | h
  · refine Or.inl ⟨h1, fun s hs hl => ?_⟩
    simp only [Bool.and_eq_false_iff, Bool.not_eq_false'] at hl
    rcases hl with hl | hl
    · exact h2 s hs hl
    · have := WideAt.sameKey_eq hl
      simp only [Lit.string.injEq] at this
      rw [hasS_congr this]
      exact hy
  · exact Or.inr h

theorem found_no {D : DataW Unit} {xs ys : List ByteArray} {left : Lit → Bool} {y : ByteArray} (hh : Maps.has D (.string y.data.toList) = true) (hy : hasS xs y = false) : Found D xs left (ys ++ [y]) :=
  Or.inr ⟨by simp, y, hh, hy⟩

theorem found_end {D : DataW Unit} {xs ys : List ByteArray} {left : Lit → Bool} (h : Found D xs left ys) (hl : ∀ kl, left kl = false) : (ys = [] ∧ AllRead D xs) ∨ (ys ≠ [] ∧ ¬ AllRead D xs) := by
  rcases h with ⟨h1, h2⟩ | ⟨h1, s, h2, h3⟩
  · exact Or.inl ⟨h1, fun s hs => h2 s hs (hl _)⟩
  · exact Or.inr ⟨h1, fun h => by rw [h s h2] at h3; cases h3⟩

/-- What Unread answers. -/
def Answer (D : DataW Unit) (xs : List ByteArray) (e : Ending) : Prop := (e = .returned .nilIface ∧ AllRead D xs) ∨ (IsErr e ∧ ¬ AllRead D xs)

theorem min_strs (v : Value) (ys : List ByteArray) (w : World) (h1 : ys ≠ []) (hm : ys.length ≤ 1000000) (hv : Strs w v ys) : Calls Ybaf.prog 12 #[v] w fun e w' => IsStr e ∧ w' = w := by
  obtain ⟨a, cap, rfl, h | ⟨b, off, rfl, hc⟩⟩ := hv
  · exact absurd h h1
  · exact min_any b off cap ys w (List.length_pos_iff.2 h1) hm hc

theorem Grew.toGrown {row : Option Nat} {w w' : World} (h : Grew (fun b => row = some b) w w') : w.grownBy w' row :=
  ⟨h.os, h.tape, h.output, h.size, fun k hk hne => h.block k hk (fun e => hne e.symm)⟩

/-- The range under way: what is left to come, and the unknown names gathered. -/
def Under (w : World) (B M n : Nat) (D : DataW Unit) (xs : List ByteArray) (wr : World) (un : Nat) (ua : Option Addr) (ucap : Nat) : Prop :=
  ∃ left cnt ys, wr.ranges Ybaf.prog 9 (rawElem B M) B w.heap.size n D left cnt ∧ un + cnt ≤ n ∧ wr.ownsRow (w.heap.size + 1) 9 1 (.slice ua un ucap) un (ys.map .string) ∧ Found D xs left ys ∧ Below w.heap.size w wr

set_option maxHeartbeats 1000000 in
theorem unread_any (B M p n : Nat) (D : DataW Unit) (xs : List ByteArray) (ra : Option Addr) (rn rcap : Nat) (w : World) (hn : n ≤ 1024) (hrn : rn ≤ 4096) (h : Inv w B M p n D xs ra rn rcap) :
    Calls Ybaf.prog 6 #[.pointer (some ⟨p, 0, none⟩)] w fun e w' => Answer D xs e ∧ Below w.heap.size w w' := by
  have hlt := h.obj.lt
  have c0 : w.cell? ⟨p, 0, none⟩ = some (.map (some B)) := h.obj.cell (show 0 < 2 by omega)
  have c1 : w.cell? ⟨p, 1, none⟩ = some (.slice ra rn rcap) := h.obj.cell (show 1 < 2 by omega)
  have hmap := h.map
  have hsl := hmap.size_le
  have H : Hid (Inv w B M p n D xs ra rn rcap) := h
  clear h
  go_enter Ybaf.func6, Ybaf.ntmps6
  go_wp2_with (at_range; refine wpList_range_own _ rfl _ 24 rfl 9 25 law9 Ybaf.underlying24 (rawElem B M) B n D rfl hmap ?_; intro w0 hrg0 hg0 hs0)
  go_frame
  have hst : Under w B M n D xs w0 0 none 0 := ⟨Maps.has D, Maps.size D, [], hrg0, by omega, World.ownsRow_nil _ _ _ _, found_start D xs, (Below.refl _ w).grown hg0 (Nat.le_refl _) (fun k hk => by cases hk)⟩
  have HST := hid hst
  clear hst hrg0 hg0 hmap
  go_loopw [3] (fun u wr => ∃ un ua ucap, u = .slice ua un ucap ∧ Under w B M n D xs wr un ua ucap) (fun _ wr => wr.rangeLeft B w.heap.size)
  case atStart => exact ⟨0, none, 0, rfl, HST.out⟩
  case round =>
    obtain ⟨un, ua, ucap, rfl, left, cnt, ys, hrg, hcnt, hown, hf, hb⟩ := hrel
    clear HST hs0
    have hsz := hb.size
    obtain ⟨hys, hyl⟩ := strs_of_owns hown
    go_wp2_with (at_next; refine wpList_next_ranges _ rfl _ rfl 9 law9 (rawElem B M) Value.string (fun v : Value => v) (fun key kl hk => by obtain ⟨x, hx, _⟩ := string_of_keyOf Ybaf.underlying9 hk; exact ⟨x, hx⟩) (fun v y _ => ⟨v, rfl⟩) B w.heap.size n D left cnt rfl hrg ?_ ?_)
    · intro hc0 hl0
      have hend := found_end hf hl0
      clear hf hl0
      rcases hend with ⟨e1, e2⟩ | ⟨e1, e2⟩
      · have hu : ((un : Int) == 0) = true := by subst e1; simp at hyl; simp [← hyl]
        have HA : Hid (AllRead D xs) := e2
        clear e2 hrg hown hys
        go_wp2
        go_ret
        exact ⟨Or.inl ⟨rfl, HA.out⟩, hb⟩
      · have hlen := List.length_pos_iff.2 e1
        have hu : ((un : Int) == 0) = false := by simp; omega
        have HA : Hid (¬ AllRead D xs) := e2
        have hM := min_strs _ ys wr e1 (by omega) hys
        clear e2 hrg hown hys
        go_wp2_with (go_at_call 12; refine hM.mono ?_; rintro e w2 ⟨⟨m, rfl⟩, rfl⟩)
        have hca : (w2.alloc (.cells #[.iface 9 (.string m)] 20)).cell? ⟨w2.heap.size, 0, none⟩ = some (.iface 9 (.string m)) := World.cell?_alloc_at _ _ _ _ rfl
        refine (errorf_any fmtUnexpected m w2.heap.size _ printed_u hca).mono ?_
        rintro e w3 ⟨⟨t, u, rfl⟩, hb3⟩
        go_wp2
        go_ret
        exact ⟨Or.inr ⟨⟨_, _, rfl⟩, HA.out⟩, (hb.alloc hsz _).trans (hb3.mono (by simp; omega))⟩
    · intro y c kl za zb w1 cnt1 hkey hlk hv hat hrg1 hlt1 hg1 hs1 hen
      obtain ⟨y', hy1, hkl, hy2⟩ := string_of_keyOf Ybaf.underlying9 hkey
      cases hy1
      subst hkl
      have hhas := Maps.has_true_of_atKey hat
      have hb1 : Below w.heap.size w w1 := hb.grown hg1 hb.size (fun k hk => by cases hk; exact Nat.le_refl _)
      have hown1 := hown.kept hg1 (Or.inr (fun e => by have := row_lt hown _ e; omega))
      have d0 : w1.cell? ⟨p, 0, none⟩ = some (.map (some B)) := (hb1.cell (by exact hlt)).trans c0
      have d1 : w1.cell? ⟨p, 1, none⟩ = some (.slice ra rn rcap) := (hb1.cell (by exact hlt)).trans c1
      have hI1 := H.out.grew (S := fun _ => False) (Grew.ofBelow hb1) (fun _ _ e => e) (fun _ _ e => e)
      obtain ⟨hxs, hxl⟩ := strs_of_owns hI1.read
      have hC := contains_any _ xs y w1 (by omega) hxs
      have hsz1 := hb1.size
      have HS : Hid (w1.rangeLeft B w.heap.size < wr.rangeLeft B w.heap.size) := by rw [hrg1.left_eq, hrg.left_eq]; exact hlt1
      have hrl := hrg1.lt
      have hBw := hrg1.owns.lt
      have hmb : B < w.heap.size := H.out.map.lt
      have HR := hid hrg1
      have HF := hid hf
      have HH := hid hhas
      clear hkey hlk hv hat hrg hrg1 hg1 hs1 hown hys hI1 hxs hf hhas hyl
      cases hy : hasS xs y
      · rw [hy] at hC
        have HY := hid hy
        clear hy
        go_wp2_with (first
          | (go_at_call 10; refine hC.mono ?_; rintro e w2 ⟨rfl, rfl⟩)
          | (at_builtin; refine wpList_append_str _ rfl _ _ rfl (w.heap.size + 1) un ucap ua ys y rfl hown1 rfl (by omega) (by omega) ?_; intro g cap w3 hown3 hgrew3 hloc3))
        have hS3 : ∀ x, x ≤ w.heap.size → ¬ Value.ownBlock (.slice ua un ucap) = some x := fun x hx e => by have := row_lt hown1 x e; omega
        have HR3 := HR.out.kept hgrew3.toGrown (fun e => hS3 B (by omega) e.symm) (fun e => hS3 w.heap.size (Nat.le_refl _) e.symm)
        have HL3 : Hid (w3.rangeLeft B w.heap.size < wr.rangeLeft B w.heap.size) := by rw [HR3.left_eq, ← HR.out.left_eq]; exact HS.out
        have HR4 := hid HR3
        clear HR3
        go_wp2
        go_roundw
        case rel => exact ⟨un + 1, some ⟨g, 0, none⟩, cap, rfl, _, cnt1, ys ++ [y], HR4.out, by omega, hown3, found_no HH.out HY.out, hgrew3.below (fun x hx => (row_lt hown1 x hx).1 |> Nat.le_of_lt) hsz1 hb1⟩
        case measure => exact HL3.out
      · rw [hy] at hC
        have HY := hid hy
        clear hy
        go_wp2_with (go_at_call 10; refine hC.mono ?_; rintro e w2 ⟨rfl, rfl⟩)
        go_roundw
        case rel => exact ⟨un, ua, ucap, rfl, _, cnt1, ys, HR.out, by omega, hown1, found_yes HF.out HY.out, hb1⟩
        case measure => exact HS.out
end Go.Proofs.YbulkcqxeFmt
