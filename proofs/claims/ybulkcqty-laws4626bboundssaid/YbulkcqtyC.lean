import Derived.Test.YbulkcqtyB
import Derived.Deep.OwnRows
import Derived.OpenShut
namespace Go.Proofs.Ybulkcqty
open Go.RowKit

/-! ### plain -/
def cum (a : Int) (z : List Int) (k : Nat) : Int := a + (z.take k).sum

theorem cum_zero (a : Int) (z : List Int) : cum a z 0 = a := by simp [cum]

theorem cum_succ (a : Int) (z : List Int) (k : Nat) (hk : k < z.length) : cum a z (k + 1) = cum a z k + z[k]?.getD 0 := by
  unfold cum
  rw [List.take_succ_eq_append_getElem hk, List.sum_append]
  simp [hk]
  omega

theorem cum_mono (a : Int) (z : List Int) (hz : ∀ j : Nat, 0 ≤ z[j]?.getD 0 ∧ z[j]?.getD 0 ≤ 255) (i d : Nat) : i + d ≤ z.length → cum a z i ≤ cum a z (i + d) := by
  induction d with
  | zero => intro _; exact Int.le_refl _
  | succ d ih =>
    intro h
    have h1 := ih (by omega)
    have h2 := cum_succ a z (i + d) (by omega)
    have h3 := hz (i + d)
    rw [← Nat.add_assoc]
    omega

theorem cum_le (a : Int) (z : List Int) (hz : ∀ j : Nat, 0 ≤ z[j]?.getD 0 ∧ z[j]?.getD 0 ≤ 255) (k : Nat) : k ≤ z.length → cum a z k ≤ a + 255 * k := by
  induction k with
  | zero => intro _; simp [cum]
  | succ k ih =>
    intro h
    have h1 := ih (by omega)
    have h2 := cum_succ a z k (by omega)
    have h3 := hz k
    omega

/-- Four bytes laid into a row told by the index. -/
def upd (f : Nat → Value) (o : Nat) (v : Int) : Nat → Value := fun j =>
  if j = o + 1 + 1 + 1 then Value.int .u8 (v / 16777216) else if j = o + 1 + 1 then Value.int .u8 (v / 65536 % 256) else if j = o + 1 then Value.int .u8 (v / 256 % 256) else if j = o then Value.int .u8 (v % 256) else f j

theorem upd_other (f : Nat → Value) (o : Nat) (v : Int) (j : Nat) (h : j < o ∨ o + 3 < j) : upd f o v j = f j := by
  unfold upd
  rw [if_neg (by omega), if_neg (by omega), if_neg (by omega), if_neg (by omega)]

theorem upd_0 (f : Nat → Value) (o : Nat) (v : Int) : upd f o v o = Value.int .u8 (v % 256) := by
  unfold upd
  rw [if_neg (by omega), if_neg (by omega), if_neg (by omega), if_pos rfl]
theorem upd_1 (f : Nat → Value) (o : Nat) (v : Int) : upd f o v (o + 1) = Value.int .u8 (v / 256 % 256) := by
  unfold upd
  rw [if_neg (by omega), if_neg (by omega), if_pos rfl]
theorem upd_2 (f : Nat → Value) (o : Nat) (v : Int) : upd f o v (o + 2) = Value.int .u8 (v / 65536 % 256) := by
  unfold upd
  rw [if_neg (by omega), if_pos rfl]
theorem upd_3 (f : Nat → Value) (o : Nat) (v : Int) : upd f o v (o + 3) = Value.int .u8 (v / 16777216) := by
  unfold upd
  rw [if_pos rfl]

/-- PutUint32 into a row that the call made, told by the index. -/
theorem put_row (g n k : Nat) (v : Int) (f : Nat → Value) (w : World) (hv0 : 0 ≤ v) (hv : v < 4294967296) (hk : k < n) (h : w.rowIs g 5 (20 * n) f) :
    Calls Yba.prog 7 #[.agg #[], .slice (some ⟨g, 20 * k + 12, none⟩) (20 * n - (20 * k + 12)) (20 * n - (20 * k + 12)), .int .u32 v] w fun e w' => e = .returned (.tuple #[]) ∧
      w'.rowIs g 5 (20 * n) (upd f (20 * k + 12) v) ∧ (∀ b t m q, b ≠ g → w.rowIs b t m q → w'.rowIs b t m q) ∧ ∀ B w0, B ≤ g → B ≤ w.heap.size → Below B w0 w → Below B w0 w' := by
  refine (put32 g (20 * k + 12) _ _ v hv0 hv _ _ _ _ w (by omega) (h.cell (by omega)) (h.cell (by omega)) (h.cell (by omega)) (h.cell (by omega)) (h.frozen _) (h.frozen _) (h.frozen _) (h.frozen _)).mono ?_
  rintro e w' ⟨rfl, rfl⟩
  refine ⟨rfl, ?_, ?_, ?_⟩
  · exact ((((h.alloc _).set (20 * k + 12) _).set (20 * k + 12 + 1) _).set (20 * k + 12 + 1 + 1) _).set (20 * k + 12 + 1 + 1 + 1) _
  · intro b t m q hb hq
    exact ((((hq.alloc _).setOther (a := ⟨g, 20 * k + 12, none⟩) hb _).setOther (a := ⟨g, 20 * k + 12 + 1, none⟩) hb _).setOther (a := ⟨g, 20 * k + 12 + 1 + 1, none⟩) hb _).setOther (a := ⟨g, 20 * k + 12 + 1 + 1 + 1, none⟩) hb _
  · intro B w0 hg hB hbel
    exact (hbel.alloc hB _).trans (Lib.below_setCells_w hg _ _ _)

theorem info3 : (Yba.prog.info? 3).map (fun i => (i.zero, i.size, i.bytes)) = some (some (.int .i64 0), 1, 8) := by kernel_rfl

theorem make_firsts (n : Nat) (hn : n ≤ 1024) (w : World) :
    (Instr.makeSlice 25 (.int .i64 (n : Int)) (.int .i64 (n : Int))).run Yba.prog w = .ok (.slice (some ⟨w.heap.size, 0, none⟩) n n) (w.alloc (.cells (madeCells #[.int .i64 0] n) 3)) :=
  run_make_row' 25 3 (.int .i64 0) 8 Yba.underlying25 info3 rfl .i64 .i64 n (by omega) (by omega) w

theorem make_table (n : Nat) (hn : n ≤ 1024) (w : World) :
    (Instr.makeSlice 23 (.int .i64 ((n : Int) * 20)) (.int .i64 ((n : Int) * 20))).run Yba.prog w = .ok (.slice (some ⟨w.heap.size, 0, none⟩) (20 * n) (20 * n)) (w.alloc (.cells (madeCells #[.int .u8 0] (20 * n)) 5)) := by
  have h := run_make_row' (P := Yba.prog) 23 5 (.int .u8 0) 1 Yba.underlying23 info5 rfl .i64 .i64 (20 * n) (by omega) (by omega) w
  rw [show ((20 * n : Nat) : Int) = (n : Int) * 20 from by omega] at h
  exact h

/-- What the table holds after k rounds. -/
def Table (f : Nat → Value) (F : Nat → Int) (k : Nat) : Prop := ∀ i, i < k → f (20 * i + 12) = .int .u8 (F i % 256) ∧ f (20 * i + 12 + 1) = .int .u8 (F i / 256 % 256) ∧ f (20 * i + 12 + 2) = .int .u8 (F i / 65536 % 256) ∧ f (20 * i + 12 + 3) = .int .u8 (F i / 16777216)

theorem Table.step {f : Nat → Value} {F : Nat → Int} {k : Nat} (h : Table f F k) : Table (upd f (20 * k + 12) (F k)) F (k + 1) := by
  intro i hi
  by_cases e : i = k
  · subst e
    exact ⟨upd_0 _ _ _, upd_1 _ _ _, upd_2 _ _ _, upd_3 _ _ _⟩
  · obtain ⟨a, b, c, d⟩ := h i (by omega)
    rw [upd_other _ _ _ _ (by omega), upd_other _ _ _ _ (by omega), upd_other _ _ _ _ (by omega), upd_other _ _ _ _ (by omega)]
    exact ⟨a, b, c, d⟩

/-- What build leaves: the segment, its table, the first rows. -/
def Built (w : World) (n : Nat) (rows : Int) (F : Nat → Int) (e : Ending) (w' : World) : Prop :=
  ∃ g1 g2 g3 : Nat, e = .returned (.tuple #[.pointer (some ⟨g3, 0, none⟩), .slice (some ⟨g1, 0, none⟩) n n]) ∧ Seg w' g3 g2 n rows F ∧ w'.rowIs g1 3 n (fun i => .int .i64 (F i)) ∧ Below w.heap.size w w'

theorem built_of (w wr : World) (n : Nat) (rows : Int) (F : Nat → Int) (f : Nat → Value) (hF : ∀ i, i < n → 0 ≤ F i ∧ F i < 4294967296)
    (r1 : wr.rowIs w.heap.size 3 n (fun i => .int .i64 (F i))) (r2 : wr.rowIs (w.heap.size + 1) 5 (20 * n) f) (ht : Table f F n) (hb : Below w.heap.size w wr) :
    Built w n rows F (.returned (.tuple #[.pointer (some ⟨wr.heap.size, 0, none⟩), .slice (some ⟨w.heap.size, 0, none⟩) n n]))
      (wr.alloc (.cells #[.int .i64 4, .slice none 0 0, .slice (some ⟨w.heap.size + 1, 0, none⟩) (20 * n) (20 * n), .int .i64 n, .int .i64 rows, .int .i64 (-1), .pointer none] 37)) := by
  have q2 := r2.alloc (.cells #[.int .i64 4, .slice none 0 0, .slice (some ⟨w.heap.size + 1, 0, none⟩) (20 * n) (20 * n), .int .i64 n, .int .i64 rows, .int .i64 (-1), .pointer none] 37)
  refine ⟨w.heap.size, w.heap.size + 1, wr.heap.size, rfl, ⟨by simp, ?_, World.cell?_alloc_at _ _ _ _ rfl, World.cell?_alloc_at _ _ _ _ rfl, hF, ?_, ?_, ?_, ?_⟩, r1.alloc _, hb.alloc hb.size _⟩
  · have := r2.lt; simp; omega
  · intro i hi; rw [q2.cell (by omega), (ht i hi).1]
  · intro i hi; rw [q2.cell (by omega), (ht i hi).2.1]
  · intro i hi; rw [q2.cell (by omega), (ht i hi).2.2.1]
  · intro i hi; rw [q2.cell (by omega), (ht i hi).2.2.2]

theorem start_rel (a0 : Int) (z : List Int) (len : Nat) (w : World) :
    ∃ k : Nat, k ≤ len ∧ Value.int .i64 0 = .int .i64 k ∧ Value.int .i64 a0 = .int .i64 (cum a0 z k) ∧
      ((w.alloc (.cells (madeCells #[.int .i64 0] len) 3)).alloc (.cells (madeCells #[.int .u8 0] (20 * len)) 5)).rowIs w.heap.size 3 len (fun i => .int .i64 (if i < k then cum a0 z (i + 1) else 0)) ∧
      (∃ f, ((w.alloc (.cells (madeCells #[.int .i64 0] len) 3)).alloc (.cells (madeCells #[.int .u8 0] (20 * len)) 5)).rowIs (w.heap.size + 1) 5 (20 * len) f ∧ Table f (fun i => cum a0 z (i + 1)) k) ∧
      Below w.heap.size w ((w.alloc (.cells (madeCells #[.int .i64 0] len) 3)).alloc (.cells (madeCells #[.int .u8 0] (20 * len)) 5)) := by
  refine ⟨0, Nat.zero_le _, rfl, by rw [cum_zero], ?_, ⟨fun _ => .int .u8 0, ?_, ?_⟩, ((Below.refl _ w).alloc (Nat.le_refl _) _).alloc (by simp) _⟩
  · exact ((World.rowIs_made w (.int .i64 0) len 3).congr (fun i _ => by simp)).alloc _
  · have h := World.rowIs_made (w.alloc (.cells (madeCells #[.int .i64 0] len) 3)) (.int .u8 0) (20 * len) 5
    rw [World.size_alloc] at h
    exact h
  · intro i hi; omega

theorem step_rel (a0 : Int) (z : List Int) (len k : Nat) (w wr : World) (hk : k < len) (hl : len ≤ z.length)
    (r1 : wr.rowIs w.heap.size 3 len (fun i => .int .i64 (if i < k then cum a0 z (i + 1) else 0))) :
    (wr.setCell ⟨w.heap.size, k, none⟩ (.int .i64 (cum a0 z k + z[k]?.getD 0))).rowIs w.heap.size 3 len (fun i => .int .i64 (if i < k + 1 then cum a0 z (i + 1) else 0)) := by
  refine (r1.set k _).congr fun i hi => ?_
  by_cases e : i = k
  · subst e
    rw [if_pos rfl, if_pos (by omega), cum_succ a0 z i (by omega)]
  · rw [if_neg e]
    by_cases h : i < k
    · rw [if_pos h, if_pos (by omega)]
    · rw [if_neg h, if_neg (by omega)]

set_option maxHeartbeats 1000000 in
theorem build_some (a0 : Int) (b off len cap : Nat) (z : List Int) (rows : Int) (w : World) (h0 : 0 ≤ a0) (h1 : a0 ≤ 65535) (hn : len ≤ 1024) (hz : ∀ j : Nat, 0 ≤ z[j]?.getD 0 ∧ z[j]?.getD 0 ≤ 255) (hl : len ≤ z.length)
    (hbw : b < w.heap.size) (hc : ∀ j, j < len → w.cell? ⟨b, off + j, none⟩ = some (.int .u8 (z[j]?.getD 0))) :
    Calls Yba.prog 5 #[.int .u16 a0, .slice (some ⟨b, off, none⟩) len cap, .int .i64 rows] w (Built w len rows (fun i => cum a0 z (i + 1))) := by
  have hmk := make_firsts len hn
  have hmt := make_table len hn
  go_enter Yba.func5, Yba.ntmps5
  go_wp2
  go_loopw [11, 12] (fun cur i wr => ∃ k : Nat, k ≤ len ∧ i = .int .i64 k ∧ cur = .int .i64 (cum a0 z k) ∧ wr.rowIs w.heap.size 3 len (fun i => .int .i64 (if i < k then cum a0 z (i + 1) else 0)) ∧
      (∃ f, wr.rowIs (w.heap.size + 1) 5 (20 * len) f ∧ Table f (fun i => cum a0 z (i + 1)) k) ∧ Below w.heap.size w wr)
    (fun _ i _ => len - (intOf i).toNat)
  case atStart => exact start_rel a0 z len w
  case round =>
    obtain ⟨k, hk, rfl, rfl, r1, ⟨f, r2, ht⟩, hb⟩ := hrel
    have hu : cum a0 z k ≤ a0 + 255 * k := cum_le a0 z hz k (by omega)
    have hd : a0 ≤ cum a0 z k := by have := cum_mono a0 z hz 0 k (by omega); rw [cum_zero, Nat.zero_add] at this; exact this
    by_cases hlt : k < len
    · have hcx : wr.cell? ⟨b, off + k, none⟩ = some (.int .u8 (z[k]?.getD 0)) := (hb.cell (by exact hbw)).trans (hc k hlt)
      have hzk := hz k
      obtain ⟨hz0, hz1⟩ := hzk
      have hce := r1.cell hlt
      have hfr := r1.frozen k
      have R1 := step_rel a0 z len k w wr hlt hl r1
      have hw1 : IntKind.i64.wrap ((k : Int) * 20) = (k : Int) * 20 := IntWalk.i64_in _ (by omega)
      have hw2 : IntKind.i64.wrap ((k : Int) * 20 + 12) = (k : Int) * 20 + 12 := IntWalk.i64_in _ (by omega)
      have hw3 : IntKind.u32.wrap (cum a0 z k + z[k]?.getD 0) = cum a0 z k + z[k]?.getD 0 := u32_wrap_id _ (by omega) (by omega)
      have hsl := slice_from (w.heap.size + 1) len k hlt
      have R2 : (wr.setCell ⟨w.heap.size, k, none⟩ (.int .i64 (cum a0 z k + z[k]?.getD 0))).drew.rowIs (w.heap.size + 1) 5 (20 * len) f := (r2.setOther (a := ⟨w.heap.size, k, none⟩) (by simp) _).drew
      have hP := put_row (w.heap.size + 1) len k (cum a0 z k + z[k]?.getD 0) f (wr.setCell ⟨w.heap.size, k, none⟩ (.int .i64 (cum a0 z k + z[k]?.getD 0))).drew (by omega) (by omega) hlt R2
      have B1 : Below w.heap.size w (wr.setCell ⟨w.heap.size, k, none⟩ (.int .i64 (cum a0 z k + z[k]?.getD 0))).drew := (hb.setCell (p := ⟨w.heap.size, k, none⟩) (Nat.le_refl _) _).drew
      have T1 : Table (upd f (20 * k + 12) (cum a0 z k + z[k]?.getD 0)) (fun i => cum a0 z (i + 1)) (k + 1) := by
        have := ht.step
        rw [cum_succ a0 z k (by omega)] at this
        exact this
      have HC : Hid (cum a0 z (k + 1) = cum a0 z k + z[k]?.getD 0) := cum_succ a0 z k (by omega)
      have HR : Hid (_ ∧ _ ∧ _) := ⟨R1, B1, T1⟩
      clear r1 r2 R1 R2 B1 T1 ht hc
      go_wp2
      go_region_with (go_at_call 7; refine hP.mono ?_; rintro e w2 ⟨rfl, q1, q2, q3⟩)
      all_goals
        go_wp2
        go_roundw
        case rel => exact ⟨k + 1, by omega, by go_num, by rw [HC.out], q2 _ _ _ _ (by omega) HR.out.1.drew, ⟨_, q1, HR.out.2.2⟩, q3 _ _ (by omega) HR.out.2.1.size HR.out.2.1⟩
        case measure => simp [intOf]; omega
    · have e : k = len := by omega
      have hK := built_of w wr len rows (fun i => cum a0 z (i + 1)) f (fun i hi => by have a := cum_le a0 z hz (i + 1) (by omega); have c := cum_mono a0 z hz 0 (i + 1) (by omega); rw [cum_zero, Nat.zero_add] at c; omega) (r1.congr (fun i hi => by rw [if_pos (by omega)])) r2 (by rw [← e]; exact ht) hb
      have HK : Hid _ := hK
      clear hK r1 r2 ht
      go_wp2
      go_ret2
      exact HK.out

set_option maxHeartbeats 1000000 in
theorem build_zero (a0 : Int) (a : Option Addr) (cap : Nat) (z : List Int) (rows : Int) (w : World) (h0 : 0 ≤ a0) (h1 : a0 ≤ 65535) :
    Calls Yba.prog 5 #[.int .u16 a0, .slice a 0 cap, .int .i64 rows] w (Built w 0 rows (fun i => cum a0 z (i + 1))) := by
  have hmk : ∀ w, (Instr.makeSlice 25 (.int .i64 0) (.int .i64 0)).run Yba.prog w = .ok (.slice (some ⟨w.heap.size, 0, none⟩) 0 0) (w.alloc (.cells (madeCells #[.int .i64 0] 0) 3)) := make_firsts 0 (by omega)
  have hmt : ∀ w, (Instr.makeSlice 23 (.int .i64 0) (.int .i64 0)).run Yba.prog w = .ok (.slice (some ⟨w.heap.size, 0, none⟩) 0 0) (w.alloc (.cells (madeCells #[.int .u8 0] 0) 5)) := make_table 0 (by omega)
  obtain ⟨k, hk, e, _, r1, ⟨f, r2, ht⟩, hb⟩ := start_rel a0 z 0 w
  have e : k = 0 := by omega
  subst e
  have hK := built_of w _ 0 rows (fun i => cum a0 z (i + 1)) f (fun i hi => by omega) (r1.congr (fun i hi => by omega)) r2 ht hb
  rw [World.size_alloc, World.size_alloc] at hK
  have HK : Hid (Built w 0 rows (fun i => cum a0 z (i + 1)) (.returned (.tuple #[.pointer (some ⟨w.heap.size + 1 + 1, 0, none⟩), .slice (some ⟨w.heap.size, 0, none⟩) 0 0]))
      (((w.alloc (.cells (madeCells #[.int .i64 0] 0) 3)).alloc (.cells (madeCells #[.int .u8 0] 0) 5)).alloc
        (.cells #[.int .i64 4, .slice none 0 0, .slice (some ⟨w.heap.size + 1, 0, none⟩) 0 0, .int .i64 0, .int .i64 rows, .int .i64 (-1), .pointer none] 37))) := hK
  clear hK r1 r2 ht hb
  go_enter Yba.func5, Yba.ntmps5
  go_wp2
  refine wp_loop_rounds 1 ?_
  rw [rounds_succ]
  go_wp2
  go_ret2
  exact HK.out

/-- build at every slice of bytes that can be read. -/
theorem build_any (a0 : Int) (a : Option Addr) (len cap : Nat) (z : List Int) (rows : Int) (w : World) (h0 : 0 ≤ a0) (h1 : a0 ≤ 65535) (hn : len ≤ 1024)
    (hrow : (a = none ∧ len = 0 ∧ cap = 0 ∧ z = []) ∨ ∃ x, a = some x ∧ len ≤ cap ∧ cap ≤ maxLen ∧ z.length = cap ∧ (∀ i, i < z.length → w.cell? (x.add i) = some (.int .u8 (z.getD i 0))) ∧ ∀ n ∈ z, (Lit.int .u8 n).wf = true) :
    (∀ j : Nat, 0 ≤ z[j]?.getD 0 ∧ z[j]?.getD 0 ≤ 255) ∧ len ≤ z.length ∧ Calls Yba.prog 5 #[.int .u16 a0, .slice a len cap, .int .i64 rows] w (Built w len rows (fun i => cum a0 z (i + 1))) := by
  rcases hrow with ⟨rfl, rfl, rfl, rfl⟩ | ⟨x, rfl, hlc, hcm, hlen, hcell, hwf⟩
  · exact ⟨fun j => by simp, Nat.zero_le _, build_zero a0 none 0 [] rows w h0 h1⟩
  · have hz := range_u8 hwf
    refine ⟨hz, by omega, ?_⟩
    by_cases e : len = 0
    · subst e
      exact build_zero a0 _ cap z rows w h0 h1
    · obtain ⟨b, off, spot⟩ := x
      have hspot : spot = none := by simpa [Addr.add] using World.cell?_spot (hcell 0 (by omega))
      subst hspot
      have hc : ∀ j, j < len → w.cell? ⟨b, off + j, none⟩ = some (.int .u8 (z[j]?.getD 0)) := fun j hj => by
        have := hcell j (by omega)
        by_cases e0 : j = 0
        · subst e0; simpa [Addr.add] using this
        · simpa [Addr.add, e0] using this
      have hbw : b < w.heap.size := by
        have := hc 0 (by omega)
        rcases Nat.lt_or_ge b w.heap.size with h | h
        · exact h
        · simp [World.cell?, Array.getElem?_eq_none h] at this
      exact build_some a0 b off len cap z rows w h0 h1 hn hz (by omega) hbw hc
end Go.Proofs.Ybulkcqty
