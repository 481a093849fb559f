/- Proof of 'Rows.LawS4626BBoundsSaid': the shell's frame, the walk filled in. -/
import Derived.Test.YbulkcqtyRows
import Derived.Test.YbulkcqtyC
import Derived.WalkKit
import Derived.ProofKit
import Derived.OpenShut
import Derived.ShutString
import Derived.ChangeOld
import Derived.Below
namespace Go.Proofs.Ybulkcqty.lawS4626BBounds
open Go.ChangeShapes Go.WideShapes Go.ChangeAt Go.RowKit
open Go.ChangeMaps (open_string shut_string)
set_option linter.unusedVariables false

theorem own : ownKnob Yba.prog.godebug = none := by kernel_rfl
theorem laidOut : laidOutB Yba.prog = true := by kernel_rfl

/-- WHAT THE WALK IS TOLD OF A SLICE OF INTEGERS THAT CAME IN: it is nil; or it leads to a row of 'cap' cells, the numbers 'zs' (the first 'len' are its elements, the rest its spare room), each fitting its kind. -/
def IsRow (k : IntKind) (w : World) (a : Option Addr) (len cap : Nat) (zs : List Int) : Prop :=
  (a = none ∧ len = 0 ∧ cap = 0 ∧ zs = []) ∨
  ∃ x, a = some x ∧ len ≤ cap ∧ cap ≤ maxLen ∧ zs.length = cap ∧ (∀ i, i < zs.length → w.cell? (x.add i) = some (.int k (zs.getD i 0))) ∧ ∀ n ∈ zs, (Lit.int k n).wf = true

theorem last_in {n : Nat} {F : Nat → Int} {row : Int} {k : Nat} (mono : ∀ i j, i ≤ j → j < n → F i ≤ F j) (hk : k < n) (h1 : F k ≤ row) (h2 : k + 1 < n → row < F (k + 1)) : Last n F row k :=
  ⟨Or.inr ⟨hk, h1⟩, fun i a b => by have := mono (k + 1) i a b; have := h2 (by omega); omega⟩

theorem last_none {n : Nat} {F : Nat → Int} {row : Int} (mono : ∀ i j, i ≤ j → j < n → F i ≤ F j) (h2 : row < F 0) : Last n F row 0 :=
  ⟨Or.inl rfl, fun i _ b => by have := mono 0 i (by omega) b; omega⟩

/-- blockOf's answer, told. -/
theorem blockOf_is (g3 g2 n : Nat) (rows : Int) (F : Nat → Int) (row : Int) (b : Nat) (w : World) (hn : n ≤ 1024) (mono : ∀ i j, i ≤ j → j < n → F i ≤ F j) (s : Seg w g3 g2 n rows F) (hl : Last n F row b) :
    Calls Yba.prog 6 #[.pointer (some ⟨g3, 0, none⟩), .int .i64 row] w fun e w' => e = .returned (.int .i64 b) ∧ Below w.heap.size w w' :=
  (blockOf g3 g2 n rows F row w hn mono s).mono fun e w' ⟨b', he, hb', _, hbel⟩ => ⟨by rw [he, last_unique hb' hl], hbel⟩

/-! ### STEP 1: THE WALK: the Go text returns true, AND WRITES NOTHING THAT WAS THERE: 'Below w.heap.size w w'' (Derived/Below.lean: '.refl', '.alloc', '.drew', '.setCell' at a new block, '.trans'). Open each 'IsRow' by 'rcases' AHEAD of 'go_enter'; part every test ahead of the walk. -/
theorem walk (a0 : Int) (a1 : Option Addr) (len1 cap1 : Nat) (z1 : List Int) (a2 : Int) (w : World) (w0 : (Lit.int .u16 a0).wf = true) (w1 : IsRow .u8 w a1 len1 cap1 z1) (w2 : (Lit.int .i64 a2).wf = true) :
    Calls Yba.prog 4 #[.int .u16 a0, .slice a1 len1 cap1, .int .i64 a2] w fun e w' => e = .returned (.bool true) ∧ Below w.heap.size w w' := by
  have hb0 := bounds_u16 w0
  by_cases hlen : 1024 < len1
  · go_enter Yba.func4, Yba.ntmps4
    go_wp2
    go_ret
    exact ⟨rfl, Below.refl _ _⟩
  · obtain ⟨hz, hl, hB⟩ := build_any a0 a1 len1 cap1 z1 a2 w hb0.1 hb0.2 (by omega) w1
    have hmono : ∀ i j, i ≤ j → j < len1 → cum a0 z1 (i + 1) ≤ cum a0 z1 (j + 1) := fun i j h1 h2 => by
      have := cum_mono a0 z1 hz (i + 1) (j - i) (by omega)
      rw [show i + 1 + (j - i) = j + 1 from by omega] at this
      exact this
    have hbd : ∀ i, i < len1 → 0 ≤ cum a0 z1 (i + 1) ∧ cum a0 z1 (i + 1) ≤ 1000000 := fun i hi => by
      have h1 := cum_le a0 z1 hz (i + 1) (by omega)
      have h2 := cum_mono a0 z1 hz 0 (i + 1) (by omega)
      rw [cum_zero, Nat.zero_add] at h2
      omega
    have HM : Hid _ := hmono
    have HB : Hid _ := hbd
    clear w1 hz hmono hbd
    by_cases h0 : len1 = 0
    · subst h0
      go_enter Yba.func4, Yba.ntmps4
      go_wp2_with (go_at_call 5; refine hB.mono ?_; rintro e wb ⟨g1, g2, g3, rfl, hs, r1, hb⟩)
      refine (blockOf_is g3 g2 0 a2 _ 0 0 wb (by omega) HM.out hs ⟨Or.inl rfl, fun i h1 h2 => by omega⟩).mono ?_
      rintro e wc ⟨rfl, hb2⟩
      go_wp2_with fail
      refine (blockOf_is g3 g2 0 a2 _ a2 0 wc (by omega) HM.out (hs.below hb2) ⟨Or.inl rfl, fun i h1 h2 => by omega⟩).mono ?_
      rintro e wd ⟨rfl, hb3⟩
      go_wp2_with fail
      go_ret
      exact ⟨rfl, hb.trans ((hb2.mono hb.size).trans (hb3.mono (by have := hb.size; have := hb2.size; omega)))⟩
    · have hq0 : ((len1 : Int) == 0) = false := by simp; omega
      have hq1 : decide (1024 < (len1 : Int)) = false := by simp; omega
      go_enter Yba.func4, Yba.ntmps4
      go_wp2_with (go_at_call 5; refine hB.mono ?_; rintro e wb ⟨g1, g2, g3, rfl, hs, r1, hb⟩)
      clear hB
      have HS : Hid _ := hs
      have HR : Hid (wb.rowIs g1 3 len1 (fun i => .int .i64 (cum a0 z1 (i + 1)))) := r1
      clear hs r1
      go_loopw [10] (fun b wr => ∃ k : Nat, b = .int .i64 k ∧ k + 1 ≤ len1 ∧ Below wb.heap.size wb wr) (fun b _ => len1 - (intOf b).toNat)
      case atStart => exact ⟨0, rfl, by omega, Below.refl _ _⟩
      case round =>
        obtain ⟨k, rfl, hk, hbr⟩ := hrel
        have hsr := HS.out.below hbr
        have hrr : ∀ i, i < len1 → wr.cell? ⟨g1, i, none⟩ = some (.int .i64 (cum a0 z1 (i + 1))) := fun i hi => (hbr.cell (by exact HR.out.lt)).trans (HR.out.cell hi)
        by_cases hlt : k + 1 < len1
        · have c0 := hrr k (by omega)
          have c1 := hrr (k + 1) (by omega)
          have hm := HM.out k (k + 1) (by omega) hlt
          obtain ⟨p0, p1⟩ := HB.out k (by omega)
          obtain ⟨p2, p3⟩ := HB.out (k + 1) (by omega)
          have i0 : (k : Int) < (len1 : Int) := by omega
          have i1 : (k : Int) + 1 < (len1 : Int) := by omega
          have HS2 : Hid _ := hsr
          clear hrr hsr
          by_cases hq : cum a0 z1 (k + 1) < cum a0 z1 (k + 1 + 1)
          · go_wp2
            go_quiet (fail)
            go_wp2_with fail
            refine (blockOf_is g3 g2 len1 a2 (fun i => cum a0 z1 (i + 1)) (cum a0 z1 (k + 1)) k (wr.drewN nq) (by omega) HM.out (HS2.out.below (below_drewN (Below.refl _ _) nq)) (last_in HM.out (by omega) (Int.le_refl _) (fun _ => hq))).mono ?_
            rintro e wc ⟨rfl, hb2⟩
            have hbc : Below wr.heap.size wr wc := (below_drewN (Below.refl _ wr) nq).trans hb2
            have c2 : wc.cell? ⟨g1, k + 1, none⟩ = some (.int .i64 (cum a0 z1 (k + 1 + 1))) := (hbc.cell (by exact Nat.lt_of_lt_of_le HR.out.lt hbr.size)).trans c1
            go_wp2_with fail
            refine (blockOf_is g3 g2 len1 a2 (fun i => cum a0 z1 (i + 1)) (cum a0 z1 (k + 1 + 1) - 1) k wc (by omega) HM.out (HS2.out.below hbc) (last_in HM.out (by omega) (show cum a0 z1 (k + 1) ≤ _ by omega) (fun _ => show _ < cum a0 z1 (k + 1 + 1) by omega))).mono ?_
            rintro e wd ⟨rfl, hb3⟩
            go_wp2_with fail
            go_roundw
            case rel => exact ⟨k + 1, by go_num, by omega, hbr.trans ((hbc.mono hbr.size).trans (hb3.mono (by have := hbr.size; have := hbc.size; omega)))⟩
            case measure => simp [intOf]; omega
          · go_wp2
            go_quiet (fail)
            go_wp2_with fail
            go_roundw
            case rel => exact ⟨k + 1, by go_num, by omega, below_drewN hbr nq⟩
            case measure => simp [intOf]; omega
        · have cl := hrr (len1 - 1) (by omega)
          have cz : wr.cell? ⟨g1, 0, none⟩ = some (.int .i64 (cum a0 z1 1)) := hrr 0 (by omega)
          obtain ⟨p0, p1⟩ := HB.out (len1 - 1) (by omega)
          obtain ⟨p2, p3⟩ : 0 ≤ cum a0 z1 1 ∧ cum a0 z1 1 ≤ 1000000 := HB.out 0 (by omega)
          have hg1 : g1 < wr.heap.size := Nat.lt_of_lt_of_le HR.out.lt hbr.size
          have i0 : ((len1 - 1 : Nat) : Int) = (len1 : Int) - 1 := by omega
          have A1 := blockOf_is g3 g2 len1 a2 (fun i => cum a0 z1 (i + 1)) (cum a0 z1 (len1 - 1 + 1)) (len1 - 1) wr (by omega) HM.out hsr (last_in HM.out (by omega) (Int.le_refl _) (fun _ => by omega))
          rw [i0] at A1
          have A2 : ∀ w2, Below wr.heap.size wr w2 → _ := fun w2 hb2 => blockOf_is g3 g2 len1 a2 (fun i => cum a0 z1 (i + 1)) (cum a0 z1 (len1 - 1 + 1) + 1000) (len1 - 1) w2 (by omega) HM.out (hsr.below hb2) (last_in HM.out (by omega) (show cum a0 z1 (len1 - 1 + 1) ≤ _ by omega) (fun _ => by omega))
          rw [i0] at A2
          have A3 : ∀ w2, Below wr.heap.size wr w2 → _ := fun w2 hb2 => blockOf_is g3 g2 len1 a2 (fun i => cum a0 z1 (i + 1)) (cum a0 z1 1 - 1) 0 w2 (by omega) HM.out (hsr.below hb2) (last_none HM.out (show _ < cum a0 z1 1 by omega))
          clear hrr hsr i0
          go_wp2_with fail
          refine A1.mono ?_
          rintro e wc ⟨rfl, hb2⟩
          have cl2 : wc.cell? ⟨g1, len1 - 1, none⟩ = some (.int .i64 (cum a0 z1 (len1 - 1 + 1))) := (hb2.cell (by exact hg1)).trans cl
          go_wp2_with fail
          refine (A2 wc hb2).mono ?_
          rintro e wd ⟨rfl, hb3⟩
          have hb4 : Below wr.heap.size wr wd := hb2.trans (hb3.mono hb2.size)
          have cz2 : wd.cell? ⟨g1, 0, none⟩ = some (.int .i64 (cum a0 z1 1)) := (hb4.cell (by exact hg1)).trans cz
          go_wp2_with fail
          refine (A3 wd hb4).mono ?_
          rintro e we ⟨rfl, hb5⟩
          go_wp2_with fail
          go_ret
          exact ⟨rfl, hb.trans ((hbr.mono hb.size).trans ((hb4.mono (by have := hb.size; have := hbr.size; omega)).trans (hb5.mono (by have := hb.size; have := hbr.size; have := hb4.size; omega))))⟩

/-! ### THE ROW's STEP: WRITTEN OUT: LEAVE IT -/
set_option maxRecDepth 100000 in
theorem lifted (os : Os) (started : os.Started) (H : Type) (enc : TypeId × Value → H) :
    ReturnsInHanded {} Yba.checked os 4 .any (Rows.lawS4626BBoundsSpec.pre6 enc Yba.prog Yba.f4 Rows.lawS4626BBoundsRow.domain false) (Rows.lawS4626BBoundsSpec.post enc Yba.prog Yba.f4 false true false false) := by
  refine returnsInHanded_of_change (C := Yba.checked) own started (by kernel_rfl) Yba.func4
    (ChangeSpec.witness6 (enc := enc) (C := Yba.checked) false ⟨#[], #[.int .u16 0, .slice none 0 0, .int .i64 0], []⟩ 8 (by kernel_rfl) (by kernel_rfl) (by kernel_rfl) (by kernel_rfl)) ?_
  intro W base args ds gs before hval0 hW hcnd _
  have hval : ∀ (j : Nat) t v, Yba.f4.params[j]? = some t → args[j]? = some v → Value.okWide Yba.prog W .any base t v := hval0
  have hW' := hW
  obtain ⟨p, q, hA0, hV, rfl, hfz, hnd⟩ := hW
  have hA : DataW.TrodAll enc Yba.prog W 0 (fun _ => true) true Yba.f4.params.toList args.toList ds p := hA0
  rw [Yba.params4] at hA hval
  obtain ⟨v0, vs0, d0, ds0, p0, q0, hargs, rfl, rfl, h0, r0⟩ := trodAll_cons hA
  obtain ⟨v1, vs1, d1, ds1, p1, q1, rfl, rfl, rfl, h1, r1⟩ := trodAll_cons r0
  obtain ⟨v2, vs2, d2, ds2, p2, q2, rfl, rfl, rfl, h2, r2⟩ := trodAll_cons r1
  obtain ⟨rfl, rfl, rfl⟩ := trodAll_nil r2
  obtain rfl : args = #[v0, v1, v2] := by cases args; simp_all
  obtain ⟨rfl, rfl⟩ := trodVars_none hV
  obtain ⟨a0, rfl, rfl, rfl, w0⟩ := open_int Yba.underlying22 (hval 0 22 v0 rfl rfl) h0
  obtain ⟨a1, len1, cap1, rfl⟩ := okWide_slice Yba.underlying23 (hval 1 23 v1 rfl rfl)
  have k1 := h1
  have lt1 : ∀ x ∈ p1, x.block < W.heap.size := by obtain ⟨m, hm⟩ := k1; exact DataW.trod_lt m _ _ _ hm
  obtain ⟨z1, w1⟩ : ∃ zs, IsRow .u8 W a1 len1 cap1 zs := by
    obtain ⟨fuel, hf⟩ := h1
    rcases open_ints Yba.underlying23 Yba.underlying5 (by kernel_rfl) hf with ⟨hcs, _⟩ | ⟨x, l, c, zs, hcs, _, hl, hm, hz, _, hcell, hwz⟩
    · simp [Value.cells] at hcs
      obtain ⟨rfl, rfl, rfl⟩ := hcs
      exact ⟨[], .inl ⟨rfl, rfl, rfl, rfl⟩⟩
    · simp [Value.cells] at hcs
      obtain ⟨rfl, rfl, rfl⟩ := hcs
      exact ⟨zs, .inr ⟨_, rfl, hl, hm, by simpa using hz, hcell, hwz⟩⟩
  obtain ⟨a2, rfl, rfl, rfl, w2⟩ := open_int Yba.underlying3 (hval 2 3 v2 rfl rfl) h2
  clear hA0 hval0
  refine (walk a0 a1 len1 cap1 z1 a2 W w0 w1 w2).mono fun e W' ⟨he, bel⟩ => ?_
  subst he
  exact ⟨_, rfl, _, _, _, [], _, [], hW', trodAll_mk1 (shut_bool Yba.underlying4 _), (trodAll_cons_mk (shut_int Yba.underlying22 w0) (trodAll_cons_mk (Below.trod laidOut (by kernel_rfl) (of_decide_eq_true (by kernel_rfl)) k1 bel lt1) (trodAll_cons_mk (shut_int Yba.underlying3 w2) trodAll_mk0))), rfl, bel.frame _, fun h => by cases h⟩

theorem over : Rows.lawS4626BBoundsRow.holds Yba.pinned (OpenSpec.ofChange Rows.lawS4626BBoundsSpec) :=
  OpenClaim.holds_of_wide 4 Yba.f4 rfl rfl rfl rfl rfl rfl rfl ⟨rfl, rfl, rfl, rfl, rfl⟩ rfl rfl rfl rfl rfl (by kernel_rfl) Yba.func4 (by kernel_rfl)
    (of_decide_eq_true (by kernel_rfl)) (by unfold Func.isWrapper; first | (rw [if_pos (by decide +kernel)]; kernel_rfl) | (rw [if_neg (by decide +kernel)]; exact ⟨rfl, rfl⟩))
    (fun os started H enc _ => lifted os started H enc)

/-- ████ THE STATEMENT ████ -/
theorem proved : Rows.LawS4626BBoundsSaid := over
end Go.Proofs.Ybulkcqty.lawS4626BBounds
