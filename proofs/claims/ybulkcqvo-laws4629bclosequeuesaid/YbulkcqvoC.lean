import Derived.Test.YbulkcqvoB
namespace Go.Proofs.Ybulkcqvo
open Go.RowKit Go.MuLone Go.Conc

/-- Outside the blocks S nothing has turned. -/
structure Only (S : Nat → Prop) (w w' : World) : Prop where
  os : w'.os = w.os
  tape : w'.tape = w.tape
  output : w'.output = w.output
  size : w'.heap.size = w.heap.size
  block : ∀ b, ¬ S b → w'.heap[b]? = w.heap[b]?

theorem Only.refl (S : Nat → Prop) (w : World) : Only S w w := ⟨rfl, rfl, rfl, rfl, fun _ _ => rfl⟩

theorem Only.trans {S T : Nat → Prop} {a b c : World} (h : Only S a b) (k : Only T b c) : Only (fun x => S x ∨ T x) a c :=
  ⟨k.os.trans h.os, k.tape.trans h.tape, k.output.trans h.output, k.size.trans h.size, fun x hx => (k.block x (fun t => hx (Or.inr t))).trans (h.block x (fun t => hx (Or.inl t)))⟩

theorem Only.wider {S T : Nat → Prop} {a b : World} (h : Only S a b) (hs : ∀ x, S x → T x) : Only T a b :=
  ⟨h.os, h.tape, h.output, h.size, fun x hx => h.block x (fun t => hx (hs x t))⟩

theorem Only.setCell {S : Nat → Prop} {a b : World} (h : Only S a b) {p : Addr} (hp : S p.block) (v : Value) : Only S a (b.setCell p v) :=
  ⟨h.os, h.tape, h.output, by rw [← h.size]; simp [World.setCell], fun x hx => (Below.heap_setCell _ _ _ _ (fun e => hx (by rw [e]; exact hp))).trans (h.block x hx)⟩

theorem Only.below {S : Nat → Prop} {B : Nat} {w0 w w' : World} (h : Only S w w') (hs : ∀ x, S x → B ≤ x) (hb : Below B w0 w) : Below B w0 w' :=
  hb.trans ⟨h.os, h.tape, h.output, by rw [h.size]; exact Nat.le_refl _, fun k hk => h.block k (fun t => by have := hs k t; omega)⟩

theorem Only.row {S : Nat → Prop} {w w' : World} (h : Only S w w') {b : Nat} (hb : ¬ S b) {t : TypeId} {n : Nat} {f : Nat → Value} (r : w.rowIs b t n f) : w'.rowIs b t n f := r.of_block (h.block b hb)

theorem run_equalIn_chan (d : Nat) (a b : Option Nat) (w : World) : (Op.equalIn (d + 1) 32 (.chan a) (.chan b)).run Yba.prog w = .ok (a == b) w := by
  simp [Op.equalIn, run_underlying Yba.underlying32]

theorem run_neq_chan (a b : Option Nat) (w : World) : (binOp .neq 32 (.chan a) (.chan b)).run Yba.prog w = .ok (.bool (!(a == b))) w := by
  simp only [binOp]
  simp [Op.equal, Op.maxDepth, run_equalIn_chan 9999 a b w]

/-- A world with another object in block r. -/
def setObj (w : World) (r : Nat) (o : Obj) : World := { w with heap := w.heap.setIfInBounds r o }

theorem setObj_cell (w : World) (r : Nat) (o : Obj) (a : Addr) (h : a.block ≠ r) : (setObj w r o).cell? a = w.cell? a :=
  World.cell?_of_block (w := w) (by show (w.heap.setIfInBounds r o)[a.block]? = _; rw [Array.getElem?_setIfInBounds_ne (fun e => h e.symm)])

theorem setObj_frozen (w : World) (r : Nat) (o : Obj) (a : Addr) (h : a.block ≠ r) : (setObj w r o).frozen? a = w.frozen? a :=
  World.frozen?_of_block (w := w) (by show (w.heap.setIfInBounds r o)[a.block]? = _; rw [Array.getElem?_setIfInBounds_ne (fun e => h e.symm)])

theorem Only.setObj {S : Nat → Prop} {a b : World} (h : Only S a b) {r : Nat} (hr : S r) (o : Obj) : Only S a (setObj b r o) :=
  ⟨h.os, h.tape, h.output, by rw [← h.size]; show (b.heap.setIfInBounds r o).size = _; simp, fun x hx => by show (b.heap.setIfInBounds r o)[x]? = _; rw [Array.getElem?_setIfInBounds_ne (fun e => hx (by rw [← e]; exact hr))]; exact h.block x hx⟩

/-- An object laid anew keeps the rows of cells elsewhere. -/
theorem row_setObj {w : World} {b r t n : Nat} {f : Nat → Value} (h : w.rowIs b t n f) (hr : b ≠ r) (o : Obj) : (setObj w r o).rowIs b t n f :=
  h.of_block (Array.getElem?_setIfInBounds_ne (fun e => hr e.symm))

/-- gauge.add, where nobody is to be woken. -/
theorem add_plain (q : Nat) (f : Nat → Value) (n d : Int) (o : Option Nat) (w : World) (hr : w.rowIs q 46 11 f) (f2 : f 2 = .int .i32 0) (f4 : f 4 = .int .i64 n) (f5 : f 5 = .chan o)
    (hno : (wrap64 (n + d) == 0) = false ∨ o = none) :
    Calls Yba.prog 20 #[.pointer (some ⟨q, 2, none⟩), .int .i64 d] w fun e w' => e = .returned (.tuple #[]) ∧
      w'.rowIs q 46 11 (fun i => if i = 4 then .int .i64 (wrap64 (n + d)) else f i) ∧ Only (· = q) w w' := by
  have c2 := hr.cell (show 2 < 11 by omega)
  have c4 := hr.cell (show 4 < 11 by omega)
  have c5 := hr.cell (show 5 < 11 by omega)
  rw [f2] at c2
  rw [f4] at c4
  rw [f5] at c5
  have z2 := hr.frozen 2
  have z4 := hr.frozen 4
  have z5 := hr.frozen 5
  have hne := run_neq_chan
  have HR : Hid (w.rowIs q 46 11 f) := hr
  have HF : Hid (f 2 = .int .i32 0) := f2
  clear hr f2 f4 f5
  have fin : ∀ v, v = Value.int .i64 (wrap64 (n + d)) → (((w.setCell ⟨q, 2, none⟩ (.int .i32 1)).setCell ⟨q, 4, none⟩ v).setCell ⟨q, 2, none⟩ (.int .i32 0)).rowIs q 46 11 (fun i => if i = 4 then .int .i64 (wrap64 (n + d)) else f i) ∧
      Only (· = q) w (((w.setCell ⟨q, 2, none⟩ (.int .i32 1)).setCell ⟨q, 4, none⟩ v).setCell ⟨q, 2, none⟩ (.int .i32 0)) := by
    rintro v rfl
    refine ⟨(((HR.out.set 2 _).set 4 _).set 2 _).congr fun i _ => ?_, (((Only.refl (· = q) w).setCell (p := ⟨q, 2, none⟩) rfl _).setCell (p := ⟨q, 4, none⟩) rfl _).setCell (p := ⟨q, 2, none⟩) rfl _⟩
    by_cases e2 : i = 2
    · subst e2; simp [HF.out]
    · simp [e2]
  have FIN : Hid _ := fin
  clear fin
  have cc : ∀ v, ((w.setCell ⟨q, 2, none⟩ (.int .i32 1)).setCell ⟨q, 4, none⟩ v).cell? ⟨q, 2, none⟩ = some (.int .i32 1) := fun v =>
    (World.cell?_setCell_other _ ⟨q, 4, none⟩ ⟨q, 2, none⟩ _ (by simp)).trans (World.cell?_setCell_same w ⟨q, 2, none⟩ (.int .i32 1) c2)
  have CC : Hid _ := cc
  clear cc
  by_cases hz0 : wrap64 (n + d) = 0
  · obtain rfl : o = none := by
      rcases hno with h | h
      · simp [hz0] at h
      · exact h
    clear hno
    go_enter_defers Yba.func20, Yba.ntmps20
    go_wp2_with (go_at_call 14; refine (lock_free muLib ⟨q, 2, none⟩ _ c2 z2).mono ?_; rintro e w' ⟨rfl, rfl⟩)
    refine leaves_cons (f := 12) (args := #[.pointer (some ⟨q, 2, none⟩)]) (by simp) (by simp [go_sem]) ?_
    refine (unlock_deferred muLib ⟨q, 2, none⟩ .returning _ ?_ ?_).mono ?_
    · exact CC.out _
    · simp [z2]
    rintro e u' w'' ⟨rfl, rfl, rfl⟩
    exact ⟨_, results_none rfl _ _ _, rfl, FIN.out _ (by rw [hz0])⟩
  · have hb0 : (wrap64 (n + d) == 0) = false := by simpa using hz0
    clear hno
    go_enter_defers Yba.func20, Yba.ntmps20
    go_wp2_with (go_at_call 14; refine (lock_free muLib ⟨q, 2, none⟩ _ c2 z2).mono ?_; rintro e w' ⟨rfl, rfl⟩)
    refine leaves_cons (f := 12) (args := #[.pointer (some ⟨q, 2, none⟩)]) (by simp) (by simp [go_sem]) ?_
    refine (unlock_deferred muLib ⟨q, 2, none⟩ .returning _ ?_ ?_).mono ?_
    · exact CC.out _
    · simp [z2]
    rintro e u' w'' ⟨rfl, rfl, rfl⟩
    exact ⟨_, results_none rfl _ _ _, rfl, FIN.out _ rfl⟩

/-- gauge.add, where nothing is left and somebody waits: the channel is closed, the field is nil. -/
theorem add_wake (q r room sn rc : Nat) (buf : Array Value) (tm : Bool) (f : Nat → Value) (n d : Int) (w : World) (hr : w.rowIs q 46 11 f) (f2 : f 2 = .int .i32 0) (f4 : f 4 = .int .i64 n) (f5 : f 5 = .chan (some r))
    (hz0 : wrap64 (n + d) = 0) (hqr : q ≠ r) (hch : w.heap[r]? = some (.chan room buf false sn rc tm)) :
    Calls Yba.prog 20 #[.pointer (some ⟨q, 2, none⟩), .int .i64 d] w fun e w' => e = .returned (.tuple #[]) ∧
      w'.rowIs q 46 11 (fun i => if i = 4 then .int .i64 0 else if i = 5 then .chan none else f i) ∧ Only (fun b => b = q ∨ b = r) w w' := by
  have c2 := hr.cell (show 2 < 11 by omega)
  have c4 := hr.cell (show 4 < 11 by omega)
  have c5 := hr.cell (show 5 < 11 by omega)
  rw [f2] at c2
  rw [f4] at c4
  rw [f5] at c5
  have z2 := hr.frozen 2
  have z4 := hr.frozen 4
  have z5 := hr.frozen 5
  have hne := run_neq_chan
  have hcl : ∀ ats ty, (Builtin.close_ ats ty #[.chan (some r)]).run Yba.prog ((w.setCell ⟨q, 2, none⟩ (.int .i32 1)).setCell ⟨q, 4, none⟩ (.int .i64 0)) =
      .ok (.tuple #[]) (setObj ((w.setCell ⟨q, 2, none⟩ (.int .i32 1)).setCell ⟨q, 4, none⟩ (.int .i64 0)) r (.chan room buf true sn rc tm)) := fun ats ty =>
    run_close_open (P := Yba.prog) ats ty ((Below.heap_setCell _ _ _ _ (fun e => hqr e.symm)).trans ((Below.heap_setCell _ _ _ _ (fun e => hqr e.symm)).trans hch))
  have k5 : (setObj ((w.setCell ⟨q, 2, none⟩ (.int .i32 1)).setCell ⟨q, 4, none⟩ (.int .i64 0)) r (.chan room buf true sn rc tm)).cell? ⟨q, 5, none⟩ = some (.chan (some r)) :=
    (setObj_cell _ _ _ _ hqr).trans ((World.cell?_setCell_other _ ⟨q, 4, none⟩ ⟨q, 5, none⟩ _ (by simp)).trans ((World.cell?_setCell_other _ ⟨q, 2, none⟩ ⟨q, 5, none⟩ _ (by simp)).trans c5))
  have y5 : (setObj ((w.setCell ⟨q, 2, none⟩ (.int .i32 1)).setCell ⟨q, 4, none⟩ (.int .i64 0)) r (.chan room buf true sn rc tm)).frozen? ⟨q, 5, none⟩ = false :=
    (setObj_frozen _ _ _ _ hqr).trans (by simp [z5])
  have k2 : ((setObj ((w.setCell ⟨q, 2, none⟩ (.int .i32 1)).setCell ⟨q, 4, none⟩ (.int .i64 0)) r (.chan room buf true sn rc tm)).setCell ⟨q, 5, none⟩ (.chan none)).cell? ⟨q, 2, none⟩ = some (.int .i32 1) :=
    (World.cell?_setCell_other _ ⟨q, 5, none⟩ ⟨q, 2, none⟩ _ (by simp)).trans ((setObj_cell _ _ _ _ hqr).trans ((World.cell?_setCell_other _ ⟨q, 4, none⟩ ⟨q, 2, none⟩ _ (by simp)).trans (World.cell?_setCell_same w ⟨q, 2, none⟩ (.int .i32 1) c2)))
  have y2 : ((setObj ((w.setCell ⟨q, 2, none⟩ (.int .i32 1)).setCell ⟨q, 4, none⟩ (.int .i64 0)) r (.chan room buf true sn rc tm)).setCell ⟨q, 5, none⟩ (.chan none)).frozen? ⟨q, 2, none⟩ = false := by
    rw [World.frozen?_setCell]; exact (setObj_frozen _ _ _ _ hqr).trans (by simp [z2])
  have FIN : Hid (_ ∧ _) := (show (((setObj ((w.setCell ⟨q, 2, none⟩ (.int .i32 1)).setCell ⟨q, 4, none⟩ (.int .i64 0)) r (.chan room buf true sn rc tm)).setCell ⟨q, 5, none⟩ (.chan none)).setCell ⟨q, 2, none⟩ (.int .i32 0)).rowIs q 46 11 (fun i => if i = 4 then .int .i64 0 else if i = 5 then .chan none else f i) ∧
      Only (fun b => b = q ∨ b = r) w (((setObj ((w.setCell ⟨q, 2, none⟩ (.int .i32 1)).setCell ⟨q, 4, none⟩ (.int .i64 0)) r (.chan room buf true sn rc tm)).setCell ⟨q, 5, none⟩ (.chan none)).setCell ⟨q, 2, none⟩ (.int .i32 0)) from by
    refine ⟨((((row_setObj ((hr.set 2 _).set 4 _) hqr _).set 5 _).set 2 _).congr fun i _ => ?_), ((((((Only.refl (fun b => b = q ∨ b = r) w).setCell (p := ⟨q, 2, none⟩) (Or.inl rfl) _).setCell (p := ⟨q, 4, none⟩) (Or.inl rfl) _).setObj (Or.inr rfl) _).setCell (p := ⟨q, 5, none⟩) (Or.inl rfl) _).setCell (p := ⟨q, 2, none⟩) (Or.inl rfl) _)⟩
    by_cases e2 : i = 2
    · subst e2; simp [f2]
    · by_cases e5 : i = 5
      · subst e5; simp
      · simp [e2, e5])
  clear hr f2 f4 f5 hch
  go_enter_defers Yba.func20, Yba.ntmps20
  go_wp2_with (go_at_call 14; refine (lock_free muLib ⟨q, 2, none⟩ _ c2 z2).mono ?_; rintro e w' ⟨rfl, rfl⟩)
  refine leaves_cons (f := 12) (args := #[.pointer (some ⟨q, 2, none⟩)]) (by simp) (by simp [go_sem]) ?_
  refine (unlock_deferred muLib ⟨q, 2, none⟩ .returning _ ?_ ?_).mono ?_
  · exact k2
  · exact y2
  rintro e u' w'' ⟨rfl, rfl, rfl⟩
  exact ⟨_, results_none rfl _ _ _, rfl, FIN.out⟩
end Go.Proofs.Ybulkcqvo
