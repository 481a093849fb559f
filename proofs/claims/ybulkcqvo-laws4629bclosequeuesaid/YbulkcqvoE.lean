import Derived.Test.YbulkcqvoD
import Derived.ProofKit
import Derived.OpenShut
namespace Go.Proofs.Ybulkcqvo
open Go.RowKit Go.MuLone Go.Conc

theorem info31 : (Yba.prog.info? 31).map (fun i => (i.zero, i.size, i.bytes)) = some (some .nilFunc, 1, 8) := by kernel_rfl

theorem row_grown {w w' : World} {row : Option Nat} {b t n : Nat} {f : Nat → Value} (h : w.rowIs b t n f) (hg : w.grownBy w' row) (hne : some b ≠ row) : w'.rowIs b t n f :=
  h.of_block (hg.block b h.lt hne)

theorem make_queue (n : Nat) (hn : n ≤ 1024) (w : World) :
    (Instr.makeSlice 28 (.int .i64 0) (.int .i64 (n : Int))).run Yba.prog w = .ok (.slice (some ⟨w.heap.size, 0, none⟩) 0 n) (w.alloc (.cells (madeCells #[.nilFunc] n) 31)) := by
  obtain ⟨i, hi, hz0, hz1, hz2⟩ := info_parts info31
  have hr := run_make (P := Yba.prog) w 28 31 i .nilFunc Yba.underlying28 hi hz0 .i64 .i64 0 n (by omega) (by omega) (by rw [hz2]; omega) (by omega)
  simpa [hz1, Value.cells] using hr

theorem owns_queue (n : Nat) (hn : n ≤ 1024) (w : World) (base : Nat) (hb : base ≤ w.heap.size) :
    (w.alloc (.cells (madeCells #[.nilFunc] n) 31)).ownsRow base 31 1 (.slice (some ⟨w.heap.size, 0, none⟩) 0 n) 0 [] :=
  ⟨rfl, Or.inr ⟨w.heap.size, n, madeCells #[.nilFunc] n, rfl, hb, Go.Deep.blk_alloc_new _ _, Nat.zero_le _, by unfold maxLen; omega, by rw [size_madeCells]; omega, by simp⟩⟩

theorem info35 : (Yba.prog.info? 35).map (fun i => (i.zero, i.size, i.bytes)) = some (some (.agg #[]), 0, 0) := by kernel_rfl
theorem make_idle (w : World) : (Instr.makeChan 32 (.int .i64 0)).run Yba.prog w = .ok (.chan (some w.heap.size)) (w.alloc (.chan 0 #[] false 0 0 false)) := by
  obtain ⟨i, hi, hz0, hz1, hz2⟩ := info_parts info35
  exact run_makeChan (P := Yba.prog) Yba.underlying32 hi .i64 0 (by omega) (by rw [hz2]; omega)

/-- The three structs as the law's text lays them: the inflight in block N, the pool in N + 1, the Cond in N + 2. -/
def inflA (h : Int) (o : Option Nat) : Array Value := #[.nilIface, .nilFunc, .int .i32 0, .int .u32 0, .int .i64 h, .chan o, .int .i32 0, .int .u32 0, .int .i64 0, .int .i64 0, .int .i64 0]
def poolA (n k B N : Nat) (b : Bool) : Array Value := #[.string ⟨#[112]⟩, .int .i64 1, .int .i64 n, .chan none, .chan none, .pointer (some ⟨N, 0, none⟩), .nilFunc, .int .i32 0, .int .u32 0, .pointer (some ⟨N + 1 + 1, 0, none⟩), .slice (some ⟨B, 0, none⟩) k n, .bool b]
def condA (N : Nat) : Array Value := #[.iface 52 (.pointer (some ⟨N + 1, 7, none⟩)), .int .u32 0, .int .u32 0, .int .u64 0, .pointer none, .pointer none, .int .u64 0]
def laid (W : World) (N n k B : Nat) (h : Int) (o : Option Nat) (b : Bool) : World := ((W.alloc (.cells (inflA h o) 46)).alloc (.cells (poolA n k B N b) 51)).alloc (.cells (condA N) 60)

theorem row_new (w : World) (c : Array Value) (t n : Nat) (hn : c.size = n) : (w.alloc (.cells c t)).rowIs w.heap.size t n (fun i => c.getD i undef) := by
  subst hn
  exact World.rowIs_alloc w c t _ (fun i hi => by simp [Array.getD, hi])

theorem close_laid (W : World) (N n k B : Nat) (h : Int) (o : Option Nat) (b : Bool) (hN : W.heap.size = N) (hn : n ≤ 1024) (hkn : k = n) (ho : ∀ r, o = some r → r < N ∧ W.heap[r]? = some (.chan 0 #[] false 0 0 false)) :
    Calls Yba.prog 10 #[.pointer (some ⟨N + 1, 0, none⟩)] (laid W N n k B h o b) fun e w' => e = .returned (.int .i64 n) ∧
      w'.rowIs (N + 1) 51 12 (shutRow (fun i => (poolA n k B N b).getD i undef)) ∧ w'.rowIs N 46 11 (added (fun i => (inflA h o).getD i undef) (wrap64 (h - n)) o) ∧
      Only (fun x => x = N + 1 ∨ x = N ∨ x = N + 1 + 1 ∨ o = some x) (laid W N n k B h o b) w' := by
  subst hkn
  have e1 : (W.alloc (.cells (inflA h o) 46)).heap.size = N + 1 := by rw [World.size_alloc, hN]
  have e2 : ((W.alloc (.cells (inflA h o) 46)).alloc (.cells (poolA k k B N b) 51)).heap.size = N + 1 + 1 := by rw [World.size_alloc, e1]
  have rq : (laid W N k k B h o b).rowIs N 46 11 (fun i => (inflA h o).getD i undef) := by
    have := row_new W (inflA h o) 46 11 rfl
    rw [hN] at this
    exact (this.alloc _).alloc _
  have rp : (laid W N k k B h o b).rowIs (N + 1) 51 12 (fun i => (poolA k k B N b).getD i undef) := by
    have := row_new (W.alloc (.cells (inflA h o) 46)) (poolA k k B N b) 51 12 rfl
    rw [e1] at this
    exact this.alloc _
  have rc : (laid W N k k B h o b).rowIs (N + 1 + 1) 60 7 (fun i => (condA N).getD i undef) := by
    have := row_new ((W.alloc (.cells (inflA h o) 46)).alloc (.cells (poolA k k B N b) 51)) (condA N) 60 7 rfl
    rw [e2] at this
    exact this
  have hO : Open (laid W N k k B h o b) N o := fun r hr => by
    obtain ⟨h1, h2⟩ := ho r hr
    refine ⟨by omega, 0, #[], 0, 0, false, ?_⟩
    show ((((W.alloc (.cells (inflA h o) 46)).alloc (.cells (poolA k k B N b) 51)).alloc (.cells (condA N) 60)).heap[r]?) = _
    rw [Below.heap_alloc _ _ _ (by rw [e2]; omega), Below.heap_alloc _ _ _ (by rw [e1]; omega), Below.heap_alloc _ _ _ (by rw [hN]; omega), h2]
  have hc := closeQueue (N + 1) N (N + 1 + 1) k k (some ⟨B, 0, none⟩) _ _ _ h o (laid W N k k B h o b) hn rp rq rc (by omega) (by omega) (by omega) rfl rfl rfl rfl rfl rfl rfl rfl rfl rfl hO
    (fun r hr => by have := (ho r hr).1; omega)
  rw [show h + -(k : Int) = h - (k : Int) from by omega] at hc
  exact hc

set_option maxHeartbeats 1000000 in
theorem closeWalk (a0 : Int) (a1 : Int) (a2 : Bool) (a3 : Bool) (w0 : (Lit.int .u16 a0).wf = true) (w : World) :
    Calls Yba.prog 5 #[.int .u16 a0, .int .i64 a1, .bool a2, .bool a3] w fun e w' => e = .returned (.bool true) ∧ Below w.heap.size w w' := by
  obtain ⟨l0, l1⟩ := bounds_u16 w0
  by_cases hbig : 1024 < a0
  · go_enter Yba.func5, Yba.ntmps5
    go_wp2
    go_ret
    exact ⟨rfl, Below.refl _ _⟩
  · obtain ⟨n, rfl⟩ : ∃ n : Nat, a0 = n := ⟨a0.toNat, by omega⟩
    obtain ⟨i0, hi, hz0, hz1, hz2⟩ := info_parts info31
    have hmk := make_queue n (by omega)
    have hq1 : decide (1024 < (n : Int)) = false := by simp; omega
    have H0 : Hid (((w.alloc (.cells #[.int .i64 0] 3)).alloc (.cells (madeCells #[.nilFunc] n) 31)).ownsRow (w.heap.size + 1) 31 1 (.slice (some ⟨w.heap.size + 1, 0, none⟩) 0 n) 0 []) := by
      have := owns_queue n (by omega) (w.alloc (.cells #[.int .i64 0] 3)) (w.heap.size + 1) (by simp)
      rw [World.size_alloc] at this
      exact this
    cases a2
    · go_enter Yba.func5, Yba.ntmps5
      go_wp2
      go_loopw [11, 12] (fun q i wr => ∃ (k : Nat) (xs : List Value), k ≤ n ∧ i = .int .i64 k ∧ q = .slice (some ⟨w.heap.size + 1, 0, none⟩) k n ∧ wr.ownsRow (w.heap.size + 1) 31 1 (.slice (some ⟨w.heap.size + 1, 0, none⟩) k n) k xs ∧
          wr.rowIs w.heap.size 3 1 (fun _ => .int .i64 0) ∧ Below w.heap.size w wr) (fun _ i _ => n - (intOf i).toNat)
      case atStart => exact ⟨0, [], Nat.zero_le _, rfl, rfl, H0.out, (World.rowIs_alloc w #[.int .i64 0] 3 (fun _ => .int .i64 0) (fun i hi => by simp at hi; subst hi; rfl)).alloc _, ((Below.refl _ w).alloc (Nat.le_refl _) _).alloc (by simp) _⟩
      case round =>
        obtain ⟨k, xs, hk, rfl, rfl, hown, hrow, hb⟩ := hrel
        by_cases hlt : k < n
        · have HR : Hid (wr.rowIs w.heap.size 3 1 (fun _ => .int .i64 0)) := hrow
          clear hrow
          go_wp2_with (at_builtin; refine wpList_append_fits _ rfl _ _ 28 rfl (w.heap.size + 1) 31 i0 1 Yba.underlying28 hi hz1 (w.heap.size + 1) k n xs rfl (hown.alloc _) ⟨wr.heap.size, 0, none⟩ 1 1 [.func (Fn.func 9) #[] #[.pointer (some ⟨w.heap.size, 0, none⟩)]] rfl rfl ?c1 ?c2 ?c3 ?_)
          case c1 => exact cell_one_new _ _ _
          case c2 => intro u hu; simp at hu; subst hu; rfl
          case c3 => omega
          intro w2 hown2 hgrow2
          clear hown
          go_wp2
          go_roundw
          case rel => exact ⟨k + 1, _, by omega, by go_num, rfl, hown2, row_grown (HR.out.alloc _) hgrow2 (by simp), (hb.alloc hb.size _).grown hgrow2 (Nat.le_trans hb.size (by simp)) (fun j hj => by simp at hj; omega)⟩
          case measure => simp [intOf]; omega
        · have HR : Hid (wr.rowIs w.heap.size 3 1 (fun _ => .int .i64 0)) := hrow
          have hmc : ∀ w, (Instr.makeChan 32 (.int .i64 0)).run Yba.prog w = .ok (.chan (some w.heap.size)) (w.alloc (.chan 0 #[] false 0 0 false)) := make_idle
          have hne := run_neq_chan
          clear hown hrow
          have hC := close_laid wr wr.heap.size n k (w.heap.size + 1) a1 none a3 rfl (by omega) (by omega) (fun r hr => by cases hr)
          have HR0 := HR.out
          have hb0 := hb
          have hlw := HR0.lt
          go_wp2_with fail
          refine hC.mono ?_
          rintro e w5 ⟨rfl, rp, rq, hO⟩
          have cp0 : w5.cell? ⟨wr.heap.size + 1, 0, none⟩ = some (.string ⟨#[112]⟩) := rp.cell (show 0 < 12 by omega)
          have cp1 : w5.cell? ⟨wr.heap.size + 1, 1, none⟩ = some (.int .i64 1) := rp.cell (show 1 < 12 by omega)
          have cp2 : w5.cell? ⟨wr.heap.size + 1, 2, none⟩ = some (.int .i64 n) := rp.cell (show 2 < 12 by omega)
          have cp5 : w5.cell? ⟨wr.heap.size + 1, 5, none⟩ = some (.pointer (some ⟨wr.heap.size, 0, none⟩)) := rp.cell (show 5 < 12 by omega)
          have cp7 : w5.cell? ⟨wr.heap.size + 1, 7, none⟩ = some (.int .i32 0) := rp.cell (show 7 < 12 by omega)
          have cp10 : w5.cell? ⟨wr.heap.size + 1, 10, none⟩ = some (.slice none 0 0) := rp.cell (show 10 < 12 by omega)
          have cp11 : w5.cell? ⟨wr.heap.size + 1, 11, none⟩ = some (.bool true) := rp.cell (show 11 < 12 by omega)
          have zp7 := rp.frozen 7
          have cq2 : w5.cell? ⟨wr.heap.size, 2, none⟩ = some (.int .i32 0) := rq.cell (show 2 < 11 by omega)
          have cq4 : w5.cell? ⟨wr.heap.size, 4, none⟩ = some (.int .i64 (wrap64 (a1 - n))) := rq.cell (show 4 < 11 by omega)
          have cq5 : w5.cell? ⟨wr.heap.size, 5, none⟩ = some (.chan (if wrap64 (a1 - n) = 0 then none else none)) := rq.cell (show 5 < 11 by omega)
          have zq2 := rq.frozen 2
          have cc : w5.cell? ⟨w.heap.size, 0, none⟩ = some (.int .i64 0) := (hO.row (by simp; omega) (HR0.alloc _ |>.alloc _ |>.alloc _)).cell (show 0 < 1 by omega)
          have bel : Below w.heap.size w w5 := hO.below (fun x hx => by have := hb.size; simp at hx; omega) (((hb0.alloc (hb0.size) _).alloc (Nat.le_trans hb0.size (by simp only [World.size_alloc]; omega)) _).alloc (Nat.le_trans hb0.size (by simp only [World.size_alloc]; omega)) _)
          have BEL : Hid (Below w.heap.size w w5) := bel
          have hsn : ∀ w, (binOp .neq 28 (.slice none 0 0) (.slice none 0 0)).run Yba.prog w = .ok (.bool false) w := fun _ => by kernel_rfl
          have htl := ByteArray.toList_eq
          clear hC rp rq hO hmk hmc bel
          by_cases hw0 : wrap64 (a1 - n) = 0
          · rw [if_pos hw0] at cq5
            go_wp2_with fail
            refine (try_free ⟨wr.heap.size + 1, 7, none⟩ w5 cp7 zp7).mono ?_
            rintro e w6 ⟨rfl, rfl⟩
            go_wp2_with fail
            refine (unlock_held muLib ⟨wr.heap.size + 1, 7, none⟩ _ (World.cell?_setCell_same w5 ⟨wr.heap.size + 1, 7, none⟩ (.int .i32 1) cp7) (by simp [zp7])).mono ?_
            rintro e w7 ⟨rfl, hw7⟩
            have d5 : w7.cell? ⟨wr.heap.size + 1, 5, none⟩ = some (.pointer (some ⟨wr.heap.size, 0, none⟩)) := by rw [hw7]; exact (World.cell?_setCell_other _ _ _ _ (by simp)).trans ((World.cell?_setCell_other _ _ _ _ (by simp)).trans cp5)
            have d2 : w7.cell? ⟨wr.heap.size, 2, none⟩ = some (.int .i32 0) := by rw [hw7]; exact (World.cell?_setCell_other _ _ _ _ (by simp)).trans ((World.cell?_setCell_other _ _ _ _ (by simp)).trans cq2)
            have dz : w7.frozen? ⟨wr.heap.size, 2, none⟩ = false := by rw [hw7]; simp [zq2]
            have BEL7 : Hid (Below w.heap.size w w7) := by rw [hw7]; exact (BEL.out.setCell (p := ⟨wr.heap.size + 1, 7, none⟩) (by show w.heap.size ≤ wr.heap.size + 1; omega) _).setCell (p := ⟨wr.heap.size + 1, 7, none⟩) (by show w.heap.size ≤ wr.heap.size + 1; omega) _
            clear hw7
            go_wp2_with fail
            refine (try_free ⟨wr.heap.size, 2, none⟩ w7 d2 dz).mono ?_
            rintro e w8 ⟨rfl, rfl⟩
            go_wp2_with fail
            refine (unlock_held muLib ⟨wr.heap.size, 2, none⟩ _ (World.cell?_setCell_same w7 ⟨wr.heap.size, 2, none⟩ (.int .i32 1) d2) (by simp [dz])).mono ?_
            rintro e w9 ⟨rfl, rfl⟩
            go_wp2_with fail
            go_ret
            exact ⟨rfl, (BEL7.out.setCell (p := ⟨wr.heap.size, 2, none⟩) (by show w.heap.size ≤ wr.heap.size; omega) _).setCell (p := ⟨wr.heap.size, 2, none⟩) (by show w.heap.size ≤ wr.heap.size; omega) _⟩
          · rw [if_neg hw0] at cq5
            have hw1 : (wrap64 (a1 - n) == 0) = false := by simpa using hw0
            go_wp2_with fail
            refine (try_free ⟨wr.heap.size + 1, 7, none⟩ w5 cp7 zp7).mono ?_
            rintro e w6 ⟨rfl, rfl⟩
            go_wp2_with fail
            refine (unlock_held muLib ⟨wr.heap.size + 1, 7, none⟩ _ (World.cell?_setCell_same w5 ⟨wr.heap.size + 1, 7, none⟩ (.int .i32 1) cp7) (by simp [zp7])).mono ?_
            rintro e w7 ⟨rfl, hw7⟩
            have d5 : w7.cell? ⟨wr.heap.size + 1, 5, none⟩ = some (.pointer (some ⟨wr.heap.size, 0, none⟩)) := by rw [hw7]; exact (World.cell?_setCell_other _ _ _ _ (by simp)).trans ((World.cell?_setCell_other _ _ _ _ (by simp)).trans cp5)
            have d2 : w7.cell? ⟨wr.heap.size, 2, none⟩ = some (.int .i32 0) := by rw [hw7]; exact (World.cell?_setCell_other _ _ _ _ (by simp)).trans ((World.cell?_setCell_other _ _ _ _ (by simp)).trans cq2)
            have dz : w7.frozen? ⟨wr.heap.size, 2, none⟩ = false := by rw [hw7]; simp [zq2]
            have BEL7 : Hid (Below w.heap.size w w7) := by rw [hw7]; exact (BEL.out.setCell (p := ⟨wr.heap.size + 1, 7, none⟩) (by show w.heap.size ≤ wr.heap.size + 1; omega) _).setCell (p := ⟨wr.heap.size + 1, 7, none⟩) (by show w.heap.size ≤ wr.heap.size + 1; omega) _
            clear hw7
            go_wp2_with fail
            refine (try_free ⟨wr.heap.size, 2, none⟩ w7 d2 dz).mono ?_
            rintro e w8 ⟨rfl, rfl⟩
            go_wp2_with fail
            refine (unlock_held muLib ⟨wr.heap.size, 2, none⟩ _ (World.cell?_setCell_same w7 ⟨wr.heap.size, 2, none⟩ (.int .i32 1) d2) (by simp [dz])).mono ?_
            rintro e w9 ⟨rfl, rfl⟩
            go_wp2_with fail
            go_ret
            exact ⟨rfl, (BEL7.out.setCell (p := ⟨wr.heap.size, 2, none⟩) (by show w.heap.size ≤ wr.heap.size; omega) _).setCell (p := ⟨wr.heap.size, 2, none⟩) (by show w.heap.size ≤ wr.heap.size; omega) _⟩
    · go_enter Yba.func5, Yba.ntmps5
      go_wp2
      go_loopw [11, 12] (fun q i wr => ∃ (k : Nat) (xs : List Value), k ≤ n ∧ i = .int .i64 k ∧ q = .slice (some ⟨w.heap.size + 1, 0, none⟩) k n ∧ wr.ownsRow (w.heap.size + 1) 31 1 (.slice (some ⟨w.heap.size + 1, 0, none⟩) k n) k xs ∧
          wr.rowIs w.heap.size 3 1 (fun _ => .int .i64 0) ∧ Below w.heap.size w wr) (fun _ i _ => n - (intOf i).toNat)
      case atStart => exact ⟨0, [], Nat.zero_le _, rfl, rfl, H0.out, (World.rowIs_alloc w #[.int .i64 0] 3 (fun _ => .int .i64 0) (fun i hi => by simp at hi; subst hi; rfl)).alloc _, ((Below.refl _ w).alloc (Nat.le_refl _) _).alloc (by simp) _⟩
      case round =>
        obtain ⟨k, xs, hk, rfl, rfl, hown, hrow, hb⟩ := hrel
        by_cases hlt : k < n
        · have HR : Hid (wr.rowIs w.heap.size 3 1 (fun _ => .int .i64 0)) := hrow
          clear hrow
          go_wp2_with (at_builtin; refine wpList_append_fits _ rfl _ _ 28 rfl (w.heap.size + 1) 31 i0 1 Yba.underlying28 hi hz1 (w.heap.size + 1) k n xs rfl (hown.alloc _) ⟨wr.heap.size, 0, none⟩ 1 1 [.func (Fn.func 9) #[] #[.pointer (some ⟨w.heap.size, 0, none⟩)]] rfl rfl ?c1 ?c2 ?c3 ?_)
          case c1 => exact cell_one_new _ _ _
          case c2 => intro u hu; simp at hu; subst hu; rfl
          case c3 => omega
          intro w2 hown2 hgrow2
          clear hown
          go_wp2
          go_roundw
          case rel => exact ⟨k + 1, _, by omega, by go_num, rfl, hown2, row_grown (HR.out.alloc _) hgrow2 (by simp), (hb.alloc hb.size _).grown hgrow2 (Nat.le_trans hb.size (by simp)) (fun j hj => by simp at hj; omega)⟩
          case measure => simp [intOf]; omega
        · have HR : Hid (wr.rowIs w.heap.size 3 1 (fun _ => .int .i64 0)) := hrow
          have hmc : ∀ w, (Instr.makeChan 32 (.int .i64 0)).run Yba.prog w = .ok (.chan (some w.heap.size)) (w.alloc (.chan 0 #[] false 0 0 false)) := make_idle
          have hne := run_neq_chan
          clear hown hrow
          have hC := close_laid (wr.alloc (.chan 0 #[] false 0 0 false)) (wr.heap.size + 1) n k (w.heap.size + 1) a1 (some wr.heap.size) a3 (World.size_alloc _ _) (by omega) (by omega) (fun r hr => by cases hr; exact ⟨by omega, Go.Deep.blk_alloc_new _ _⟩)
          have HR0 := HR.out.alloc (.chan 0 #[] false 0 0 false)
          have hb0 := hb.alloc hb.size (.chan 0 #[] false 0 0 false)
          have hlw := HR.out.lt
          go_wp2_with fail
          refine hC.mono ?_
          rintro e w5 ⟨rfl, rp, rq, hO⟩
          have cp0 : w5.cell? ⟨(wr.heap.size + 1) + 1, 0, none⟩ = some (.string ⟨#[112]⟩) := rp.cell (show 0 < 12 by omega)
          have cp1 : w5.cell? ⟨(wr.heap.size + 1) + 1, 1, none⟩ = some (.int .i64 1) := rp.cell (show 1 < 12 by omega)
          have cp2 : w5.cell? ⟨(wr.heap.size + 1) + 1, 2, none⟩ = some (.int .i64 n) := rp.cell (show 2 < 12 by omega)
          have cp5 : w5.cell? ⟨(wr.heap.size + 1) + 1, 5, none⟩ = some (.pointer (some ⟨(wr.heap.size + 1), 0, none⟩)) := rp.cell (show 5 < 12 by omega)
          have cp7 : w5.cell? ⟨(wr.heap.size + 1) + 1, 7, none⟩ = some (.int .i32 0) := rp.cell (show 7 < 12 by omega)
          have cp10 : w5.cell? ⟨(wr.heap.size + 1) + 1, 10, none⟩ = some (.slice none 0 0) := rp.cell (show 10 < 12 by omega)
          have cp11 : w5.cell? ⟨(wr.heap.size + 1) + 1, 11, none⟩ = some (.bool true) := rp.cell (show 11 < 12 by omega)
          have zp7 := rp.frozen 7
          have cq2 : w5.cell? ⟨(wr.heap.size + 1), 2, none⟩ = some (.int .i32 0) := rq.cell (show 2 < 11 by omega)
          have cq4 : w5.cell? ⟨(wr.heap.size + 1), 4, none⟩ = some (.int .i64 (wrap64 (a1 - n))) := rq.cell (show 4 < 11 by omega)
          have cq5 : w5.cell? ⟨(wr.heap.size + 1), 5, none⟩ = some (.chan (if wrap64 (a1 - n) = 0 then none else (some wr.heap.size))) := rq.cell (show 5 < 11 by omega)
          have zq2 := rq.frozen 2
          have cc : w5.cell? ⟨w.heap.size, 0, none⟩ = some (.int .i64 0) := (hO.row (by simp; omega) (HR0.alloc _ |>.alloc _ |>.alloc _)).cell (show 0 < 1 by omega)
          have bel : Below w.heap.size w w5 := hO.below (fun x hx => by have := hb.size; simp at hx; omega) (((hb0.alloc (hb0.size) _).alloc (Nat.le_trans hb0.size (by simp only [World.size_alloc]; omega)) _).alloc (Nat.le_trans hb0.size (by simp only [World.size_alloc]; omega)) _)
          have BEL : Hid (Below w.heap.size w w5) := bel
          have hsn : ∀ w, (binOp .neq 28 (.slice none 0 0) (.slice none 0 0)).run Yba.prog w = .ok (.bool false) w := fun _ => by kernel_rfl
          have htl := ByteArray.toList_eq
          clear hC rp rq hO hmk hmc bel
          by_cases hw0 : wrap64 (a1 - n) = 0
          · rw [if_pos hw0] at cq5
            go_wp2_with fail
            refine (try_free ⟨(wr.heap.size + 1) + 1, 7, none⟩ w5 cp7 zp7).mono ?_
            rintro e w6 ⟨rfl, rfl⟩
            go_wp2_with fail
            refine (unlock_held muLib ⟨(wr.heap.size + 1) + 1, 7, none⟩ _ (World.cell?_setCell_same w5 ⟨(wr.heap.size + 1) + 1, 7, none⟩ (.int .i32 1) cp7) (by simp [zp7])).mono ?_
            rintro e w7 ⟨rfl, hw7⟩
            have d5 : w7.cell? ⟨(wr.heap.size + 1) + 1, 5, none⟩ = some (.pointer (some ⟨(wr.heap.size + 1), 0, none⟩)) := by rw [hw7]; exact (World.cell?_setCell_other _ _ _ _ (by simp)).trans ((World.cell?_setCell_other _ _ _ _ (by simp)).trans cp5)
            have d2 : w7.cell? ⟨(wr.heap.size + 1), 2, none⟩ = some (.int .i32 0) := by rw [hw7]; exact (World.cell?_setCell_other _ _ _ _ (by simp)).trans ((World.cell?_setCell_other _ _ _ _ (by simp)).trans cq2)
            have dz : w7.frozen? ⟨(wr.heap.size + 1), 2, none⟩ = false := by rw [hw7]; simp [zq2]
            have BEL7 : Hid (Below w.heap.size w w7) := by rw [hw7]; exact (BEL.out.setCell (p := ⟨(wr.heap.size + 1) + 1, 7, none⟩) (by show w.heap.size ≤ (wr.heap.size + 1) + 1; omega) _).setCell (p := ⟨(wr.heap.size + 1) + 1, 7, none⟩) (by show w.heap.size ≤ (wr.heap.size + 1) + 1; omega) _
            clear hw7
            go_wp2_with fail
            refine (try_free ⟨(wr.heap.size + 1), 2, none⟩ w7 d2 dz).mono ?_
            rintro e w8 ⟨rfl, rfl⟩
            go_wp2_with fail
            refine (unlock_held muLib ⟨(wr.heap.size + 1), 2, none⟩ _ (World.cell?_setCell_same w7 ⟨(wr.heap.size + 1), 2, none⟩ (.int .i32 1) d2) (by simp [dz])).mono ?_
            rintro e w9 ⟨rfl, rfl⟩
            go_wp2_with fail
            go_ret
            exact ⟨rfl, (BEL7.out.setCell (p := ⟨(wr.heap.size + 1), 2, none⟩) (by show w.heap.size ≤ (wr.heap.size + 1); omega) _).setCell (p := ⟨(wr.heap.size + 1), 2, none⟩) (by show w.heap.size ≤ (wr.heap.size + 1); omega) _⟩
          · rw [if_neg hw0] at cq5
            have hw1 : (wrap64 (a1 - n) == 0) = false := by simpa using hw0
            go_wp2_with fail
            refine (try_free ⟨(wr.heap.size + 1) + 1, 7, none⟩ w5 cp7 zp7).mono ?_
            rintro e w6 ⟨rfl, rfl⟩
            go_wp2_with fail
            refine (unlock_held muLib ⟨(wr.heap.size + 1) + 1, 7, none⟩ _ (World.cell?_setCell_same w5 ⟨(wr.heap.size + 1) + 1, 7, none⟩ (.int .i32 1) cp7) (by simp [zp7])).mono ?_
            rintro e w7 ⟨rfl, hw7⟩
            have d5 : w7.cell? ⟨(wr.heap.size + 1) + 1, 5, none⟩ = some (.pointer (some ⟨(wr.heap.size + 1), 0, none⟩)) := by rw [hw7]; exact (World.cell?_setCell_other _ _ _ _ (by simp)).trans ((World.cell?_setCell_other _ _ _ _ (by simp)).trans cp5)
            have d2 : w7.cell? ⟨(wr.heap.size + 1), 2, none⟩ = some (.int .i32 0) := by rw [hw7]; exact (World.cell?_setCell_other _ _ _ _ (by simp)).trans ((World.cell?_setCell_other _ _ _ _ (by simp)).trans cq2)
            have dz : w7.frozen? ⟨(wr.heap.size + 1), 2, none⟩ = false := by rw [hw7]; simp [zq2]
            have BEL7 : Hid (Below w.heap.size w w7) := by rw [hw7]; exact (BEL.out.setCell (p := ⟨(wr.heap.size + 1) + 1, 7, none⟩) (by show w.heap.size ≤ (wr.heap.size + 1) + 1; omega) _).setCell (p := ⟨(wr.heap.size + 1) + 1, 7, none⟩) (by show w.heap.size ≤ (wr.heap.size + 1) + 1; omega) _
            clear hw7
            go_wp2_with fail
            refine (try_free ⟨(wr.heap.size + 1), 2, none⟩ w7 d2 dz).mono ?_
            rintro e w8 ⟨rfl, rfl⟩
            go_wp2_with fail
            refine (unlock_held muLib ⟨(wr.heap.size + 1), 2, none⟩ _ (World.cell?_setCell_same w7 ⟨(wr.heap.size + 1), 2, none⟩ (.int .i32 1) d2) (by simp [dz])).mono ?_
            rintro e w9 ⟨rfl, rfl⟩
            go_wp2_with fail
            go_ret
            exact ⟨rfl, (BEL7.out.setCell (p := ⟨(wr.heap.size + 1), 2, none⟩) (by show w.heap.size ≤ (wr.heap.size + 1); omega) _).setCell (p := ⟨(wr.heap.size + 1), 2, none⟩) (by show w.heap.size ≤ (wr.heap.size + 1); omega) _⟩
end Go.Proofs.Ybulkcqvo
