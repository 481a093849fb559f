import Derived.Test.YbulkcqvoC
namespace Go.Proofs.Ybulkcqvo
open Go.RowKit Go.MuLone Go.Conc

/-- What inflight's row holds after add. -/
def added (f : Nat → Value) (m : Int) (o : Option Nat) : Nat → Value := fun i => if i = 4 then .int .i64 m else if i = 5 then .chan (if m = 0 then none else o) else f i

/-- The channel in the field, where there is one, is open and lies elsewhere. -/
def Open (w : World) (q : Nat) (o : Option Nat) : Prop := ∀ r, o = some r → q ≠ r ∧ ∃ room buf sn rc tm, w.heap[r]? = some (.chan room buf false sn rc tm)

theorem Open.of {w w' : World} {q : Nat} {o : Option Nat} (h : Open w q o) {S : Nat → Prop} (hs : Only S w w') (hn : ∀ r, o = some r → ¬ S r) : Open w' q o := fun r hr => by
  obtain ⟨h1, room, buf, sn, rc, tm, h2⟩ := h r hr
  exact ⟨h1, room, buf, sn, rc, tm, (hs.block r (hn r hr)).trans h2⟩

theorem add_any (q : Nat) (f : Nat → Value) (n d : Int) (o : Option Nat) (w : World) (hr : w.rowIs q 46 11 f) (f2 : f 2 = .int .i32 0) (f4 : f 4 = .int .i64 n) (f5 : f 5 = .chan o) (ho : Open w q o) :
    Calls Yba.prog 20 #[.pointer (some ⟨q, 2, none⟩), .int .i64 d] w fun e w' => e = .returned (.tuple #[]) ∧
      w'.rowIs q 46 11 (added f (wrap64 (n + d)) o) ∧ Only (fun b => b = q ∨ o = some b) w w' := by
  by_cases hz : wrap64 (n + d) = 0
  · cases o with
    | none =>
      refine (add_plain q f n d none w hr f2 f4 f5 (Or.inr rfl)).mono ?_
      rintro e w' ⟨he, h1, h2⟩
      refine ⟨he, h1.congr fun i _ => ?_, h2.wider fun x hx => Or.inl hx⟩
      unfold added
      by_cases e4 : i = 4
      · simp [e4]
      · by_cases e5 : i = 5
        · subst e5; simp [f5]
        · simp [e4, e5]
    | some r =>
      obtain ⟨hq, room, buf, sn, rc, tm, hch⟩ := ho r rfl
      refine (add_wake q r room sn rc buf tm f n d w hr f2 f4 f5 hz hq hch).mono ?_
      rintro e w' ⟨he, h1, h2⟩
      refine ⟨he, h1.congr fun i _ => ?_, h2.wider fun x hx => ?_⟩
      · simp [added, hz]
      · rcases hx with h | h
        · exact Or.inl h
        · exact Or.inr (by rw [h])
  · refine (add_plain q f n d o w hr f2 f4 f5 (Or.inl (by simpa using hz))).mono ?_
    rintro e w' ⟨he, h1, h2⟩
    refine ⟨he, h1.congr fun i _ => ?_, h2.wider fun x hx => Or.inl hx⟩
    unfold added
    by_cases e4 : i = 4
    · simp [e4]
    · by_cases e5 : i = 5
      · subst e5; simp [f5, hz]
      · simp [e4, e5]

theorem drop_any (q k : Nat) (f : Nat → Value) (n : Int) (o : Option Nat) (w : World) (hk : k ≤ 1024) (hr : w.rowIs q 46 11 f) (f2 : f 2 = .int .i32 0) (f4 : f 4 = .int .i64 n) (f5 : f 5 = .chan o) (ho : Open w q o) :
    Calls Yba.prog 15 #[.pointer (some ⟨q, 0, none⟩), .int .i64 k] w fun e w' => e = .returned (.tuple #[]) ∧
      w'.rowIs q 46 11 (added f (wrap64 (n + -(k : Int))) o) ∧ Only (fun b => b = q ∨ o = some b) w w' := by
  have hA := add_any q f n (-(k : Int)) o w hr f2 f4 f5 ho
  clear hr f2 f4 f5 ho
  go_enter Yba.func15, Yba.ntmps15
  go_wp2_with (go_at_call 20; refine hA.mono ?_; rintro e w' ⟨rfl, h1, h2⟩)
  go_end0
  exact ⟨rfl, h1, h2⟩

/-- What the pool's row holds after closeQueue. -/
def shutRow (g : Nat → Value) : Nat → Value := fun i => if i = 10 then .slice none 0 0 else if i = 11 then .bool true else g i

set_option maxHeartbeats 400000 in
theorem closeQueue (p q c k cap : Nat) (a : Option Addr) (g f h : Nat → Value) (n : Int) (o : Option Nat) (w : World) (hk : k ≤ 1024)
    (rp : w.rowIs p 51 12 g) (rq : w.rowIs q 46 11 f) (rc : w.rowIs c 60 7 h) (hpq : p ≠ q) (hpc : p ≠ c) (hqc : q ≠ c)
    (g5 : g 5 = .pointer (some ⟨q, 0, none⟩)) (g7 : g 7 = .int .i32 0) (g9 : g 9 = .pointer (some ⟨c, 0, none⟩)) (g10 : g 10 = .slice a k cap)
    (f2 : f 2 = .int .i32 0) (f4 : f 4 = .int .i64 n) (f5 : f 5 = .chan o) (h1 : h 1 = .int .u32 0) (h2 : h 2 = .int .u32 0) (h6 : h 6 = .int .u64 0)
    (ho : Open w q o) (hop : ∀ r, o = some r → r ≠ p ∧ r ≠ c) :
    Calls Yba.prog 10 #[.pointer (some ⟨p, 0, none⟩)] w fun e w' => e = .returned (.int .i64 k) ∧
      w'.rowIs p 51 12 (shutRow g) ∧ w'.rowIs q 46 11 (added f (wrap64 (n + -(k : Int))) o) ∧ Only (fun b => b = p ∨ b = q ∨ b = c ∨ o = some b) w w' := by
  have c5 := rp.cell (show 5 < 12 by omega)
  have c7 := rp.cell (show 7 < 12 by omega)
  have c9 := rp.cell (show 9 < 12 by omega)
  have c10 := rp.cell (show 10 < 12 by omega)
  have c11 := rp.cell (show 11 < 12 by omega)
  rw [g5] at c5
  rw [g7] at c7
  rw [g9] at c9
  rw [g10] at c10
  have z7 := rp.frozen 7
  have z10 := rp.frozen 10
  have z11 := rp.frozen 11
  -- the world ahead of drop
  have P2 : (((w.setCell ⟨p, 7, none⟩ (.int .i32 1)).setCell ⟨p, 10, none⟩ (.slice none 0 0)).setCell ⟨p, 11, none⟩ (.bool true)).rowIs p 51 12 (fun i => if i = 7 then .int .i32 1 else shutRow g i) := by
    refine (((rp.set 7 _).set 10 _).set 11 _).congr fun i _ => ?_
    unfold shutRow
    by_cases e7 : i = 7
    · subst e7; simp
    · by_cases e10 : i = 10
      · subst e10; simp
      · simp [e7, e10]
  have O2 : Only (· = p) w (((w.setCell ⟨p, 7, none⟩ (.int .i32 1)).setCell ⟨p, 10, none⟩ (.slice none 0 0)).setCell ⟨p, 11, none⟩ (.bool true)) :=
    (((Only.refl (· = p) w).setCell (p := ⟨p, 7, none⟩) rfl _).setCell (p := ⟨p, 10, none⟩) rfl _).setCell (p := ⟨p, 11, none⟩) rfl _
  have hD := drop_any q k f n o _ hk (O2.row (fun e => hpq e.symm) rq) f2 f4 f5 (ho.of O2 (fun r hr e => (hop r hr).1 e))
  have AFT : Hid (∀ w3, Only (fun b => b = q ∨ o = some b) (((w.setCell ⟨p, 7, none⟩ (.int .i32 1)).setCell ⟨p, 10, none⟩ (.slice none 0 0)).setCell ⟨p, 11, none⟩ (.bool true)) w3 → w3.rowIs p 51 12 (fun i => if i = 7 then .int .i32 1 else shutRow g i) ∧ w3.rowIs c 60 7 h) := fun w3 h3 =>
    ⟨h3.row (fun e => e.elim hpq (fun e => (hop p e).1 rfl)) P2, h3.row (fun e => e.elim (fun e => hqc e.symm) (fun e => (hop c e).2 rfl)) (O2.row (fun e => hpc e.symm) rc)⟩
  have HG : Hid (g 7 = .int .i32 0 ∧ g 9 = .pointer (some ⟨c, 0, none⟩) ∧ h 1 = .int .u32 0 ∧ h 2 = .int .u32 0 ∧ h 6 = .int .u64 0) := ⟨g7, g9, h1, h2, h6⟩
  have HO : Hid (Only (· = p) w (((w.setCell ⟨p, 7, none⟩ (.int .i32 1)).setCell ⟨p, 10, none⟩ (.slice none 0 0)).setCell ⟨p, 11, none⟩ (.bool true))) := O2
  clear P2 O2 rp rq rc g5 g7 g9 g10 f2 f4 f5 h1 h2 h6 ho hop
  go_enter_defers Yba.func10, Yba.ntmps10
  go_wp2_with (first | (go_at_call 14; refine (lock_free muLib ⟨p, 7, none⟩ _ c7 z7).mono ?_; rintro e w' ⟨rfl, rfl⟩) | (go_at_call 15; refine hD.mono ?_; rintro e w3 ⟨rfl, q1, q2⟩; have p9 : w3.cell? ⟨p, 9, none⟩ = some (.pointer (some ⟨c, 0, none⟩)) := ((AFT.out w3 q2).1.cell (show 9 < 12 by omega)).trans (congrArg some HG.out.2.1)))
  have r1 := (AFT.out w3 q2).2.cell (show 1 < 7 by omega)
  rw [HG.out.2.2.1] at r1
  have r2 := (AFT.out w3 q2).2.cell (show 2 < 7 by omega)
  rw [HG.out.2.2.2.1] at r2
  have r6 := (AFT.out w3 q2).2.cell (show 6 < 7 by omega)
  rw [HG.out.2.2.2.2] at r6
  have r7 : (w3.setCell ⟨c, 6, none⟩ (.pointer (some ⟨c, 6, none⟩))).cell? ⟨p, 7, none⟩ = some (.int .i32 1) :=
    (World.cell?_setCell_other _ _ _ _ (by simp)).trans ((AFT.out w3 q2).1.cell (show 7 < 12 by omega))
  have y7 : (w3.setCell ⟨c, 6, none⟩ (.pointer (some ⟨c, 6, none⟩))).frozen? ⟨p, 7, none⟩ = false := by
    rw [World.frozen?_setCell]; exact (AFT.out w3 q2).1.frozen 7
  refine (broadcast c w3 r1 r2 r6 ((AFT.out w3 q2).2.frozen 6)).mono ?_
  rintro e w4 ⟨rfl, rfl⟩
  clear r1 r2 r6
  go_wp2
  refine leaves_cons (f := 12) (args := #[.pointer (some ⟨p, 7, none⟩)]) (by simp) (by simp [go_sem]) ?_
  refine (unlock_deferred muLib ⟨p, 7, none⟩ .returning _ ?_ ?_).mono ?_
  · exact r7
  · exact y7
  rintro e u' w'' ⟨rfl, rfl, rfl⟩
  refine ⟨_, results_tmp rfl _ _ _, rfl, ?_, ?_, ?_⟩
  · refine ((((AFT.out w3 q2).1.setOther (a := ⟨c, 6, none⟩) hpc _).set 7 _).congr fun i _ => ?_)
    by_cases e7 : i = 7
    · subst e7; simp [shutRow, HG.out.1]
    · simp [e7]
  · exact (q1.setOther (a := ⟨c, 6, none⟩) hqc _).setOther (a := ⟨p, 7, none⟩) (fun e => hpq e.symm) _
  · refine ((((HO.out.trans q2).wider (T := fun b => b = p ∨ b = q ∨ b = c ∨ o = some b) (fun x hx => ?_)).setCell (p := ⟨c, 6, none⟩) (Or.inr (Or.inr (Or.inl rfl))) _).setCell (p := ⟨p, 7, none⟩) (Or.inl rfl) _)
    rcases hx with h | h | h
    · exact Or.inl h
    · exact Or.inr (Or.inl h)
    · exact Or.inr (Or.inr (Or.inr h))
end Go.Proofs.Ybulkcqvo
