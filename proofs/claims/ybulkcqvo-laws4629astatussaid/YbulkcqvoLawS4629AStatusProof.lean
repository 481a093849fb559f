/- Proof of 'Rows.LawS4629AStatusSaid': the shell's frame, the walk filled in. -/
import Derived.Test.YbulkcqvoRows
import Derived.Test.YbulkcqvoA
import Derived.WalkKit
import Derived.ProofKit
import Derived.OpenShut
import Derived.ShutString
namespace Go.Proofs.Ybulkcqvo.lawS4629AStatus
open Go.ChangeShapes Go.WideShapes Go.ChangeAt Go.RowKit
open Go.ChangeMaps (open_string shut_string)
set_option linter.unusedVariables false      -- a walk need not use every 'w<i>' (that an integer argument fits its kind)

theorem own : ownKnob Yba.prog.godebug = none := by kernel_rfl

theorem byte_ne {b c : UInt8} {n : Int} (h : ¬ b = c) (hc : (c.toNat : Int) = n) : ((b.toNat : Int) == n) = false := by
  simp only [beq_eq_false_iff_ne, ne_eq]
  intro e
  exact h (UInt8.toNat_inj.1 (by omega))

theorem byte_eq {b c : UInt8} {n : Int} (h : b = c) (hc : (c.toNat : Int) = n) : ((b.toNat : Int) == n) = true := by
  simp only [beq_iff_eq]
  rw [h, hc]

/-- Which test says no first, in the walk's spelling. -/
theorem ways (b0 b1 b2 b3 b4 : UInt8) (h : ¬(b0 = 99 ∧ b1 = 108 ∧ b2 = 101 ∧ b3 = 97 ∧ b4 = 110)) :
    (((((ByteArray.mk #[b0, b1, b2, b3, b4])[0]'(by show 0 < 5; omega)).toNat : Int) == 99) = false) ∨
    (((((ByteArray.mk #[b0, b1, b2, b3, b4])[0]'(by show 0 < 5; omega)).toNat : Int) == 99) = true ∧ ((((ByteArray.mk #[b0, b1, b2, b3, b4])[1]'(by show 1 < 5; omega)).toNat : Int) == 108) = false) ∨
    (((((ByteArray.mk #[b0, b1, b2, b3, b4])[0]'(by show 0 < 5; omega)).toNat : Int) == 99) = true ∧ ((((ByteArray.mk #[b0, b1, b2, b3, b4])[1]'(by show 1 < 5; omega)).toNat : Int) == 108) = true ∧ ((((ByteArray.mk #[b0, b1, b2, b3, b4])[2]'(by show 2 < 5; omega)).toNat : Int) == 101) = false) ∨
    (((((ByteArray.mk #[b0, b1, b2, b3, b4])[0]'(by show 0 < 5; omega)).toNat : Int) == 99) = true ∧ ((((ByteArray.mk #[b0, b1, b2, b3, b4])[1]'(by show 1 < 5; omega)).toNat : Int) == 108) = true ∧ ((((ByteArray.mk #[b0, b1, b2, b3, b4])[2]'(by show 2 < 5; omega)).toNat : Int) == 101) = true ∧ ((((ByteArray.mk #[b0, b1, b2, b3, b4])[3]'(by show 3 < 5; omega)).toNat : Int) == 97) = false) ∨
    (((((ByteArray.mk #[b0, b1, b2, b3, b4])[0]'(by show 0 < 5; omega)).toNat : Int) == 99) = true ∧ ((((ByteArray.mk #[b0, b1, b2, b3, b4])[1]'(by show 1 < 5; omega)).toNat : Int) == 108) = true ∧ ((((ByteArray.mk #[b0, b1, b2, b3, b4])[2]'(by show 2 < 5; omega)).toNat : Int) == 101) = true ∧ ((((ByteArray.mk #[b0, b1, b2, b3, b4])[3]'(by show 3 < 5; omega)).toNat : Int) == 97) = true ∧ ((((ByteArray.mk #[b0, b1, b2, b3, b4])[4]'(by show 4 < 5; omega)).toNat : Int) == 110) = false) := by
  by_cases e0 : b0 = 99
  · by_cases e1 : b1 = 108
    · by_cases e2 : b2 = 101
      · by_cases e3 : b3 = 97
        · exact .inr (.inr (.inr (.inr ⟨byte_eq e0 rfl, byte_eq e1 rfl, byte_eq e2 rfl, byte_eq e3 rfl, byte_ne (fun e4 => h ⟨e0, e1, e2, e3, e4⟩) rfl⟩)))
        · exact .inr (.inr (.inr (.inl ⟨byte_eq e0 rfl, byte_eq e1 rfl, byte_eq e2 rfl, byte_ne e3 rfl⟩)))
      · exact .inr (.inr (.inl ⟨byte_eq e0 rfl, byte_eq e1 rfl, byte_ne e2 rfl⟩))
    · exact .inr (.inl ⟨byte_eq e0 rfl, byte_ne e1 rfl⟩)
  · exact .inl (byte_ne e0 rfl)

/-! ### STEP 1: THE WALK: the Go text returns true. 'Grown w w'': the world has at most new blocks (Derived/RowKit3.lean). Part the cases AHEAD of 'go_enter' where a test parts the walk; take each callee by a contract of your own. -/
theorem walk (a0 : ByteArray) (w0 : a0.size ≤ maxLen) (w : World) :
    Calls Yba.prog 3 #[.string a0] w fun e w' => e = .returned (.bool true) ∧ Grown w w' := by
  by_cases hlen : 4096 < a0.size
  · go_enter Yba.func3, Yba.ntmps3
    go_wp2
    go_ret
    exact ⟨rfl, Grown.refl _⟩
  · by_cases h5 : a0.size = 5
    · obtain ⟨b0, b1, b2, b3, b4, rfl⟩ := five a0 h5
      clear hlen h5 w0
      have hl := list_five b0 b1 b2 b3 b4
      by_cases hall : [b0, b1, b2, b3, b4] = [99, 108, 101, 97, 110]
      · simp only [List.cons.injEq, and_true] at hall
        obtain ⟨rfl, rfl, rfl, rfl, rfl⟩ := hall
        have hy : ((ByteArray.mk #[99, 108, 101, 97, 110]).toList == [99, 108, 101, 97, 110]) = true := by rw [hl]; rfl
        clear hl
        go_enter Yba.func3, Yba.ntmps3
        go_wp2_with (go_at_call 8; refine (exit_yes _ _ hy).mono ?_; rintro e w' ⟨rfl, rfl⟩)
        go_ret
        exact ⟨rfl, Grown.refl _⟩
      · have hn : ((ByteArray.mk #[b0, b1, b2, b3, b4]).toList == [99, 108, 101, 97, 110]) = false := by rw [hl]; simpa using hall
        simp only [List.cons.injEq, and_true] at hall
        clear hl
        have hw := ways b0 b1 b2 b3 b4 hall
        clear hall
        rcases hw with t0 | ⟨t0, t1⟩ | ⟨t0, t1, t2⟩ | ⟨t0, t1, t2, t3⟩ | ⟨t0, t1, t2, t3, t4⟩
        all_goals
          go_enter Yba.func3, Yba.ntmps3
          go_wp2_with (go_at_call 8; refine (exit_no _ _ hn).mono ?_; rintro e w' ⟨rfl, rfl⟩)
          go_ret
          exact ⟨rfl, Grown.refl _⟩
    · have hne : (a0.toList == [99, 108, 101, 97, 110]) = false := by
        simp only [beq_eq_false_iff_ne, ne_eq]
        intro h
        have := congrArg List.length h
        simp [ByteArray.toList_eq] at this
        exact h5 this
      have h5' : ((a0.size : Int) == 5) = false := by simp; omega
      go_enter Yba.func3, Yba.ntmps3
      go_wp2_with (go_at_call 8; refine (exit_no _ _ hne).mono ?_; rintro e w' ⟨rfl, rfl⟩)
      go_ret
      exact ⟨rfl, Grown.refl _⟩

/-! ### THE ROW's STEP: WRITTEN OUT: LEAVE IT -/
set_option maxRecDepth 100000 in
theorem lifted (os : Os) (started : os.Started) (H : Type) (enc : TypeId × Value → H) :
    ReturnsInHanded {} Yba.checked os 3 .any (Rows.lawS4629AStatusSpec.pre6 enc Yba.prog Yba.f3 Rows.lawS4629AStatusRow.domain false) (Rows.lawS4629AStatusSpec.post enc Yba.prog Yba.f3 false true false false) := by
  refine returnsInHanded_of_change (C := Yba.checked) own started (by kernel_rfl) Yba.func3
    (ChangeSpec.witness6 (enc := enc) (C := Yba.checked) false ⟨#[], #[.string ByteArray.empty], []⟩ 8 (by kernel_rfl) (by kernel_rfl) (by kernel_rfl) (by kernel_rfl)) ?_
  intro W base args ds gs before hval0 hW hcnd _
  have hval : ∀ (j : Nat) t v, Yba.f3.params[j]? = some t → args[j]? = some v → Value.okWide Yba.prog W .any base t v := hval0
  have hW' := hW
  obtain ⟨p, q, hA0, hV, rfl, hfz, hnd⟩ := hW
  have hA : DataW.TrodAll enc Yba.prog W 0 (fun _ => true) true Yba.f3.params.toList args.toList ds p := hA0
  rw [Yba.params3] at hA hval
  obtain ⟨v0, vs0, d0, ds0, p0, q0, hargs, rfl, rfl, h0, r0⟩ := trodAll_cons hA
  obtain ⟨rfl, rfl, rfl⟩ := trodAll_nil r0
  obtain rfl : args = #[v0] := by cases args; simp_all
  obtain ⟨rfl, rfl⟩ := trodVars_none hV
  obtain ⟨a0, rfl, rfl, rfl, w0⟩ := open_string Yba.underlying9 (hval 0 9 v0 rfl rfl) h0
  clear hA0 hval0
  simp only [List.append_nil] at hW'
  refine (walk a0 w0 W).mono fun e W' ⟨he, hg⟩ => ?_
  subst he
  exact ⟨_, rfl, post_of_same (pa := []) (pv := []) hW' (fun _ _ _ => (trodAll_cons_mk (shut_bool Yba.underlying4 _) trodAll_mk0)) (fun sp _ => (trodAll_cons_mk (shut_string Yba.underlying9 w0) trodAll_mk0)) (fun _ _ => rfl) rfl
    (hg.frame _) hg.2.1 (ok_one (by kernel_rfl) rfl (okWide_bool_mk Yba.underlying4 _))⟩

theorem over : Rows.lawS4629AStatusRow.holds Yba.pinned (OpenSpec.ofChange Rows.lawS4629AStatusSpec) :=
  OpenClaim.holds_of_wide 3 Yba.f3 rfl rfl rfl rfl rfl rfl rfl ⟨rfl, rfl, rfl, rfl, rfl⟩ rfl rfl rfl rfl rfl (by kernel_rfl) Yba.func3 (by kernel_rfl)
    (of_decide_eq_true (by kernel_rfl)) (by unfold Func.isWrapper; first | (rw [if_pos (by decide +kernel)]; kernel_rfl) | (rw [if_neg (by decide +kernel)]; exact ⟨rfl, rfl⟩))
    (fun os started H enc _ => lifted os started H enc)

/-- ████ THE STATEMENT ████ -/
theorem proved : Rows.LawS4629AStatusSaid :=
  over
end Go.Proofs.Ybulkcqvo.lawS4629AStatus
