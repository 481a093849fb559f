/- Proof of 'Rows.LawS4626BExactSaid': the shell's frame, the walk filled in. -/
import Derived.Test.YbulkcqtyRows
import Derived.Test.YbulkcqtyC
import Derived.WalkKit
import Derived.ProofKit
import Derived.OpenShut
import Derived.ShutString
import Derived.ChangeOld
import Derived.Below
namespace Go.Proofs.Ybulkcqty.lawS4626BExact
open Go.ChangeShapes Go.WideShapes Go.ChangeAt Go.RowKit
open Go.ChangeMaps (open_string shut_string)
set_option linter.unusedVariables false

theorem own : ownKnob Yba.prog.godebug = none := by kernel_rfl
theorem laidOut : laidOutB Yba.prog = true := by kernel_rfl

/-- WHAT THE WALK IS TOLD OF A SLICE OF INTEGERS THAT CAME IN: it is nil; or it leads to a row of 'cap' cells, the numbers 'zs' (the first 'len' are its elements, the rest its spare room), each fitting its kind. -/
def IsRow (k : IntKind) (w : World) (a : Option Addr) (len cap : Nat) (zs : List Int) : Prop :=
  (a = none ∧ len = 0 ∧ cap = 0 ∧ zs = []) ∨
  ∃ x, a = some x ∧ len ≤ cap ∧ cap ≤ maxLen ∧ zs.length = cap ∧ (∀ i, i < zs.length → w.cell? (x.add i) = some (.int k (zs.getD i 0))) ∧ ∀ n ∈ zs, (Lit.int k n).wf = true

/-! ### STEP 1: THE WALK: the Go text returns true, AND WRITES NOTHING THAT WAS THERE: 'Below w.heap.size w w'' (Derived/Below.lean: '.refl', '.alloc', '.drew', '.setCell' at a new block, '.trans'). Open each 'IsRow' by 'rcases' AHEAD of 'go_enter'; part every test ahead of the walk. -/
theorem walk (a0 : Int) (a1 : Option Addr) (len1 cap1 : Nat) (z1 : List Int) (a2 : Int) (a3 : Int) (w : World) (w0 : (Lit.int .u16 a0).wf = true) (w1 : IsRow .u8 w a1 len1 cap1 z1) (w2 : (Lit.int .i64 a2).wf = true) (w3 : (Lit.int .i64 a3).wf = true) :
    Calls Yba.prog 3 #[.int .u16 a0, .slice a1 len1 cap1, .int .i64 a2, .int .i64 a3] w fun e w' => e = .returned (.bool true) ∧ Below w.heap.size w w' := by
  have hb0 := bounds_u16 w0
  by_cases hlen : 1024 < len1
  · go_enter Yba.func3, Yba.ntmps3
    go_wp2
    go_ret
    exact ⟨rfl, Below.refl _ _⟩
  · obtain ⟨hz, hl, hB⟩ := build_any a0 a1 len1 cap1 z1 a2 w hb0.1 hb0.2 (by omega) w1
    have hmono : Hid (∀ i j, i ≤ j → j < len1 → cum a0 z1 (i + 1) ≤ cum a0 z1 (j + 1)) := fun i j h1 h2 => by
      have := cum_mono a0 z1 hz (i + 1) (j - i) (by omega)
      rw [show i + 1 + (j - i) = j + 1 from by omega] at this
      exact this
    clear w1 hz
    go_enter Yba.func3, Yba.ntmps3
    go_wp2_with (go_at_call 5; refine hB.mono ?_; rintro e wb ⟨g1, g2, g3, rfl, hs, r1, hb⟩)
    clear hB
    go_loop [11, 12] (fun want b => ∃ m k : Nat, want = .int .i64 m ∧ b = .int .i64 k ∧ 1 ≤ k ∧ k ≤ 1024 ∧ m ≤ 1024 ∧ (k ≤ len1 ∨ k = 1) ∧ (m = 0 ∨ (m < len1 ∧ cum a0 z1 (m + 1) ≤ a3)) ∧ ∀ i, m < i → i < k → a3 < cum a0 z1 (i + 1))
      (fun _ b => len1 - (intOf b).toNat)
    case atStart => exact ⟨0, 1, rfl, rfl, by omega, by omega, by omega, Or.inr rfl, Or.inl rfl, fun i h1 h2 => by omega⟩
    case round =>
      obtain ⟨m, k, rfl, rfl, hk1, hk2, hm1, hk3, hm, ha⟩ := hrel
      by_cases hlt : k < len1
      · have hcell := r1.cell hlt
        have HM : Hid _ := hm
        have HA : Hid _ := ha
        clear hm ha
        by_cases hq : cum a0 z1 (k + 1) ≤ a3
        · go_wp2
          go_round
          case rel => exact ⟨k, k + 1, by go_num, by go_num, by omega, by omega, by omega, Or.inl (by omega), Or.inr ⟨hlt, hq⟩, fun i h1 h2 => by omega⟩
          case measure => simp [intOf]; omega
        · go_wp2
          go_round
          case rel => exact ⟨m, k + 1, by go_num, by go_num, by omega, by omega, by omega, Or.inl (by omega), HM.out, fun i h1 h2 => by
            by_cases e : i = k
            · subst e; omega
            · exact HA.out i h1 (by omega)⟩
          case measure => simp [intOf]; omega
      · have hM : Hid (Last len1 (fun i => cum a0 z1 (i + 1)) a3 m) := ⟨hm, fun i h1 h2 => ha i h1 (by omega)⟩
        have hO := blockOf g3 g2 len1 a2 (fun i => cum a0 z1 (i + 1)) a3 wb (by omega) hmono.out hs
        clear hm ha hs r1
        go_wp2_with (go_at_call 6; refine hO.mono ?_; rintro e w2 ⟨b, rfl, hlast, hbb, hb2⟩; have hbm : ((b : Int) == (m : Int)) = true := (by simp [last_unique hlast hM.out]); clear hlast)
        go_ret
        exact ⟨rfl, hb.trans (hb2.mono hb.size)⟩

/-! ### THE ROW's STEP: WRITTEN OUT: LEAVE IT -/
set_option maxRecDepth 100000 in
theorem lifted (os : Os) (started : os.Started) (H : Type) (enc : TypeId × Value → H) :
    ReturnsInHanded {} Yba.checked os 3 .any (Rows.lawS4626BExactSpec.pre6 enc Yba.prog Yba.f3 Rows.lawS4626BExactRow.domain false) (Rows.lawS4626BExactSpec.post enc Yba.prog Yba.f3 false true false false) := by
  refine returnsInHanded_of_change (C := Yba.checked) own started (by kernel_rfl) Yba.func3
    (ChangeSpec.witness6 (enc := enc) (C := Yba.checked) false ⟨#[], #[.int .u16 0, .slice none 0 0, .int .i64 0, .int .i64 0], []⟩ 8 (by kernel_rfl) (by kernel_rfl) (by kernel_rfl) (by kernel_rfl)) ?_
  intro W base args ds gs before hval0 hW hcnd _
  have hval : ∀ (j : Nat) t v, Yba.f3.params[j]? = some t → args[j]? = some v → Value.okWide Yba.prog W .any base t v := hval0
  have hW' := hW
  obtain ⟨p, q, hA0, hV, rfl, hfz, hnd⟩ := hW
  have hA : DataW.TrodAll enc Yba.prog W 0 (fun _ => true) true Yba.f3.params.toList args.toList ds p := hA0
  rw [Yba.params3] at hA hval
  obtain ⟨v0, vs0, d0, ds0, p0, q0, hargs, rfl, rfl, h0, r0⟩ := trodAll_cons hA
  obtain ⟨v1, vs1, d1, ds1, p1, q1, rfl, rfl, rfl, h1, r1⟩ := trodAll_cons r0
  obtain ⟨v2, vs2, d2, ds2, p2, q2, rfl, rfl, rfl, h2, r2⟩ := trodAll_cons r1
  obtain ⟨v3, vs3, d3, ds3, p3, q3, rfl, rfl, rfl, h3, r3⟩ := trodAll_cons r2
  obtain ⟨rfl, rfl, rfl⟩ := trodAll_nil r3
  obtain rfl : args = #[v0, v1, v2, v3] := by cases args; simp_all
  obtain ⟨rfl, rfl⟩ := trodVars_none hV
  obtain ⟨a0, rfl, rfl, rfl, w0⟩ := open_int Yba.underlying22 (hval 0 22 v0 rfl rfl) h0
  obtain ⟨a1, len1, cap1, rfl⟩ := okWide_slice Yba.underlying23 (hval 1 23 v1 rfl rfl)
  have k1 := h1
  have lt1 : ∀ x ∈ p1, x.block < W.heap.size := by obtain ⟨m, hm⟩ := k1; exact DataW.trod_lt m _ _ _ hm
  obtain ⟨z1, w1⟩ : ∃ zs, IsRow .u8 W a1 len1 cap1 zs := by
    obtain ⟨fuel, hf⟩ := h1
    rcases open_ints Yba.underlying23 Yba.underlying5 (by kernel_rfl) hf with ⟨hcs, _⟩ | ⟨x, l, c, zs, hcs, _, hl, hm, hz, _, hcell, hwz⟩
    · simp [Value.cells] at hcs
      obtain ⟨rfl, rfl, rfl⟩ := hcs
      exact ⟨[], .inl ⟨rfl, rfl, rfl, rfl⟩⟩
    · simp [Value.cells] at hcs
      obtain ⟨rfl, rfl, rfl⟩ := hcs
      exact ⟨zs, .inr ⟨_, rfl, hl, hm, by simpa using hz, hcell, hwz⟩⟩
  obtain ⟨a2, rfl, rfl, rfl, w2⟩ := open_int Yba.underlying3 (hval 2 3 v2 rfl rfl) h2
  obtain ⟨a3, rfl, rfl, rfl, w3⟩ := open_int Yba.underlying3 (hval 3 3 v3 rfl rfl) h3
  clear hA0 hval0
  refine (walk a0 a1 len1 cap1 z1 a2 a3 W w0 w1 w2 w3).mono fun e W' ⟨he, bel⟩ => ?_
  subst he
  exact ⟨_, rfl, _, _, _, [], _, [], hW', trodAll_mk1 (shut_bool Yba.underlying4 _), (trodAll_cons_mk (shut_int Yba.underlying22 w0) (trodAll_cons_mk (Below.trod laidOut (by kernel_rfl) (of_decide_eq_true (by kernel_rfl)) k1 bel lt1) (trodAll_cons_mk (shut_int Yba.underlying3 w2) (trodAll_cons_mk (shut_int Yba.underlying3 w3) trodAll_mk0)))), rfl, bel.frame _, fun h => by cases h⟩

theorem over : Rows.lawS4626BExactRow.holds Yba.pinned (OpenSpec.ofChange Rows.lawS4626BExactSpec) :=
  OpenClaim.holds_of_wide 3 Yba.f3 rfl rfl rfl rfl rfl rfl rfl ⟨rfl, rfl, rfl, rfl, rfl⟩ rfl rfl rfl rfl rfl (by kernel_rfl) Yba.func3 (by kernel_rfl)
    (of_decide_eq_true (by kernel_rfl)) (by unfold Func.isWrapper; first | (rw [if_pos (by decide +kernel)]; kernel_rfl) | (rw [if_neg (by decide +kernel)]; exact ⟨rfl, rfl⟩))
    (fun os started H enc _ => lifted os started H enc)

/-- ████ THE STATEMENT ████ -/
theorem proved : Rows.LawS4626BExactSaid := over
end Go.Proofs.Ybulkcqty.lawS4626BExact
