/- Proof of 'Rows.LawS4634CExactSaid': the shell's frame with 'Below' in the place of 'Grown'; the walk filled in. -/
import Derived.Test.YbulkcqygRows
import Derived.Test.YbulkcqygA
import Derived.WalkKit
import Derived.ProofKit
import Derived.OpenShut
import Derived.ShutString
namespace Go.Proofs.Ybulkcqyg.lawS4634CExact
open Go.ChangeShapes Go.WideShapes Go.ChangeAt Go.RowKit
open Go.ChangeMaps (open_string shut_string)
set_option linter.unusedVariables false      -- a walk need not use every 'w<i>' (that an integer argument fits its kind)

theorem own : ownKnob Yba.prog.godebug = none := by kernel_rfl

theorem one_all (s : ByteArray) (cs : Array Value) (hsz : cs.size = 256) (hcs : ∀ j, j < 256 → cs[j]? = some (.bool (inTo s s.size j))) : cs.all (·.oneCell') = true := by
  rw [Array.all_eq_true]
  intro i hi
  have := hcs i (by omega)
  rw [Array.getElem?_eq_getElem hi] at this
  rw [Option.some.inj this]
  rfl

set_option maxRecDepth 100000 in
set_option maxHeartbeats 400000 in
theorem walk (a0 : ByteArray) (w : World) :
    Calls Yba.prog 3 #[.string a0] w fun e w' => e = .returned (.bool true) ∧ Below w.heap.size w w' := by
  by_cases hbig : 4096 < a0.size
  · go_enter Yba.func3, Yba.ntmps3
    go_wp2
    go_ret
    exact ⟨rfl, Below.refl _ _⟩
  · have hB := byteSet_any a0 w (by omega)
    have hz := zero22
    have hq1 : decide (4096 < (a0.size : Int)) = false := by simp; omega
    go_enter Yba.func3, Yba.ntmps3
    go_wp2_with (first | (go_at_call 5; refine hB.mono ?_; rintro e wb ⟨cs, rfl, hsz, hcs, hb⟩) | (refine wpList_store_row rfl 22 _ _ rfl wb.heap.size cs rfl rfl 22 zeros (Go.Deep.blk_alloc_new _ _) (by rw [hsz]; exact size22) (by rw [hsz]; exact Array.size_replicate) (one_all a0 cs hsz hcs) ?_))
    have hR : ((wb.alloc (.cells zeros 22)).setRow wb.heap.size cs).rowIs wb.heap.size 22 256 (fun j => .bool (inTo a0 a0.size j)) :=
      ⟨cs, setRow_heap _ _ zeros cs 22 (0, 0) (Go.Deep.blk_alloc_new _ _), hsz, hcs⟩
    have hBel : Below w.heap.size w ((wb.alloc (.cells zeros 22)).setRow wb.heap.size cs) := below_setRow (hb.alloc hb.size _) hb.size cs
    have HR : Hid (_ ∧ _) := ⟨hR, hBel⟩
    clear hB hR hBel hcs
    go_loopw [4] (fun c wr => ∃ k : Nat, k ≤ 256 ∧ c = .int .i64 k ∧ wr.rowIs wb.heap.size 22 256 (fun j => .bool (inTo a0 a0.size j)) ∧ Below w.heap.size w wr) (fun c _ => 256 - (intOf c).toNat)
    case atStart => exact ⟨0, by omega, rfl, HR.out.1, HR.out.2⟩
    case round =>
      obtain ⟨k, hk, rfl, hr, hbr⟩ := hrel
      by_cases hlt : k < 256
      · have hce := hr.cell hlt
        have HK : Hid (_ ∧ _) := ⟨hr, hbr⟩
        have hi : (k : Int) < 256 := by omega
        clear hr
        go_wp2
        go_quiet ((go_at_call 6; exact Calls.quiet_of_same (has_any a0 k _ (by omega))))
        go_wp2
        go_roundw
        case rel => exact ⟨k + 1, by omega, by go_num, HK.out.1, below_drewN HK.out.2 nq⟩
        case measure => simp [intOf]; omega
      · go_wp2
        go_ret
        exact ⟨rfl, hbr⟩

/-! ### THE ROW's STEP: WRITTEN OUT: LEAVE IT -/
set_option maxRecDepth 100000 in
theorem lifted (os : Os) (started : os.Started) (H : Type) (enc : TypeId × Value → H) :
    ReturnsInHanded {} Yba.checked os 3 .any (Rows.lawS4634CExactSpec.pre6 enc Yba.prog Yba.f3 Rows.lawS4634CExactRow.domain false) (Rows.lawS4634CExactSpec.post enc Yba.prog Yba.f3 false true false false) := by
  refine returnsInHanded_of_change (C := Yba.checked) own started (by kernel_rfl) Yba.func3
    (ChangeSpec.witness6 (enc := enc) (C := Yba.checked) false ⟨#[], #[.string ByteArray.empty], []⟩ 8 (by kernel_rfl) (by kernel_rfl) (by kernel_rfl) (by kernel_rfl)) ?_
  intro W base args ds gs before hval0 hW hcnd _
  have hval : ∀ (j : Nat) t v, Yba.f3.params[j]? = some t → args[j]? = some v → Value.okWide Yba.prog W .any base t v := hval0
  have hW' := hW
  obtain ⟨p, q, hA0, hV, rfl, hfz, hnd⟩ := hW
  have hA : DataW.TrodAll enc Yba.prog W 0 (fun _ => true) true Yba.f3.params.toList args.toList ds p := hA0
  rw [Yba.params3] at hA hval
  obtain ⟨v0, vs0, d0, ds0, p0, q0, hargs, rfl, rfl, h0, r0⟩ := trodAll_cons hA
  obtain ⟨rfl, rfl, rfl⟩ := trodAll_nil r0
  obtain rfl : args = #[v0] := by cases args; simp_all
  obtain ⟨rfl, rfl⟩ := trodVars_none hV
  obtain ⟨a0, rfl, rfl, rfl, w0⟩ := open_string Yba.underlying9 (hval 0 9 v0 rfl rfl) h0
  clear hA0 hval0
  refine (walk a0 W).mono fun e W' ⟨he, bel⟩ => ?_
  subst he
  exact ⟨_, rfl, _, _, _, [], _, [], hW', trodAll_mk1 (shut_bool Yba.underlying4 _), (trodAll_cons_mk (shut_string Yba.underlying9 w0) trodAll_mk0), rfl, bel.frame _, fun h => by cases h⟩

theorem over : Rows.lawS4634CExactRow.holds Yba.pinned (OpenSpec.ofChange Rows.lawS4634CExactSpec) :=
  OpenClaim.holds_of_wide 3 Yba.f3 rfl rfl rfl rfl rfl rfl rfl ⟨rfl, rfl, rfl, rfl, rfl⟩ rfl rfl rfl rfl rfl (by kernel_rfl) Yba.func3 (by kernel_rfl)
    (of_decide_eq_true (by kernel_rfl)) (by unfold Func.isWrapper; first | (rw [if_pos (by decide +kernel)]; kernel_rfl) | (rw [if_neg (by decide +kernel)]; exact ⟨rfl, rfl⟩))
    (fun os started H enc _ => lifted os started H enc)

/-- ████ THE STATEMENT ████ -/
theorem proved : Rows.LawS4634CExactSaid :=
  over
end Go.Proofs.Ybulkcqyg.lawS4634CExact
