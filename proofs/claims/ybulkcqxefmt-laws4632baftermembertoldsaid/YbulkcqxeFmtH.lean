import Derived.Test.YbulkcqxeFmtG
namespace Go.Proofs.YbulkcqxeFmt
open Go.RowKit Go.Maps Go.WideMaps

theorem J_start {w wr : World} {ss : List ByteArray} {k : Nat} (hk : k = ss.length) (h : Loop1 w wr (w.heap.size + 1 + ss.length) ss k) :
    ∃ D, Keys D ss ∧ J w w.heap.size (w.heap.size + 1 + ss.length) wr.heap.size ss.length D (wr.alloc (.cells #[.map (some w.heap.size), .slice none 0 0] 29)) [] 0 none 0 := by
  subst hk
  obtain ⟨D, l1, l2, l3, l4, l5⟩ := h
  rw [List.take_of_length_le (Nat.le_refl _)] at l3
  refine ⟨D, l3, none, 0, ⟨?_, l2.alloc _, fun g g1 g2 => ?_, World.ownsRow_nil _ _ _ _, by omega, by omega⟩, World.ownsRow_nil _ _ _ _, (fun x hx => by cases hx), by omega, l5.alloc l5.size _⟩
  · refine World.rowIs_alloc wr #[.map (some w.heap.size), .slice none 0 0] 29 _ (fun i hi => ?_)
    match i, hi with
    | 0, _ => rfl
    | 1, _ => rfl
  · exact Lib.cell?_alloc_marked _ (l4 g g1 (by omega))

theorem allRead_iff {D : DataW Unit} {ss xs : List ByteArray} (h : Keys D ss) : AllRead D xs ↔ allS ss xs = true := by
  unfold AllRead allS
  rw [List.all_eq_true]
  constructor
  · intro hh n hn
    refine hh n ?_
    rw [h n]
    unfold hasS
    rw [List.any_eq_true]
    exact ⟨n, hn, by simp⟩
  · intro hh s hs
    rw [h s] at hs
    unfold hasS at hs
    rw [List.any_eq_true] at hs
    obtain ⟨x, hx, e⟩ := hs
    have e' : s.data.toList = x.data.toList := by
      rw [ByteArray.toList_eq, ByteArray.toList_eq] at e
      simpa using e
    rw [hasS_congr e']
    exact hh x hx

theorem strs_later {w w' : World} {v : Value} {xs : List ByteArray} (h : Strs w v xs) (hb : Below w.heap.size w w') : Strs w' v xs := by
  obtain ⟨a, cap, rfl, h | ⟨b, off, h1, h2⟩⟩ := h
  · exact ⟨a, cap, rfl, Or.inl h⟩
  · refine ⟨a, cap, rfl, Or.inr ⟨b, off, h1, fun i hi => ?_⟩⟩
    have := h2 i hi
    exact (hb.cell (by exact block_lt_of_cell this)).trans this

theorem eql_nil (w : World) : (binOp .eql 31 .nilIface .nilIface).run Ybaf.prog w = .ok (.bool true) w := by kernel_rfl
theorem eql_err (t : TypeId) (v : Value) (w : World) : (binOp .eql 31 (.iface t v) .nilIface).run Ybaf.prog w = .ok (.bool false) w := by kernel_rfl

set_option maxHeartbeats 2000000 in
theorem lawWalk (na pa ea : Option Addr) (ncap pcap ecap : Nat) (ss es : List ByteArray) (zs : List Nat) (w : World) (h1 : ss.length ≤ 1024) (h2 : zs.length ≤ 1024) (h3 : es.length ≤ 1024)
    (hn : CameS w na ss) (hp : CameB w pa zs) (he : CameS w ea es) :
    Calls Ybaf.prog 4 #[.slice na ss.length ncap, .slice pa zs.length pcap, .slice ea es.length ecap] w fun e w' => e = .returned (.bool true) ∧ Below w.heap.size w w' := by
  have hq1 : decide (1024 < (ss.length : Int)) = false := by simp; omega
  have hq2 : decide (1024 < (zs.length : Int)) = false := by simp; omega
  have hq3 : decide (1024 < (es.length : Int)) = false := by simp; omega
  have hmm := make24
  have kc := fun (w : World) (C : Array Value) (n c : Nat) => Lib.run_convert_bytes_const (P := Ybaf.prog) w 25 5 C n c Ybaf.underlying25 Ybaf.underlying5
  go_enter Ybaf.func4, Ybaf.ntmps4
  go_wp2
  go_loopw [37] (fun i wr => ∃ k : Nat, k ≤ ss.length ∧ i = .int .i64 k ∧ Loop1 w wr (w.heap.size + 1 + ss.length) ss k) (fun i _ => ss.length - (intOf i).toNat)
  case atStart => exact ⟨0, Nat.zero_le _, rfl, loop1_start w _ ss⟩
  case round =>
    obtain ⟨k, hk, rfl, D, l1, l2, l3, l4, l5⟩ := hrel
    by_cases hlt : k < ss.length
    · obtain ⟨b, off, y, rfl, hcy, hy, hyl⟩ := hn.at l5 hlt
      have hkey := keyOf_string_mk Ybaf.underlying9 hyl
      have HY := hid hy
      have HL := hid (And.intro l1 (And.intro l3 (And.intro l4 l5)))
      clear hy l3 l4 hn hp he
      have l1' := hid l1
      clear l1
      go_wp2_with (at_mapUpdate; refine wpList_mapUpdate_in _ rfl _ _ _ 24 rfl 9 25 law9 Ybaf.underlying24 (rawElem w.heap.size (w.heap.size + 1 + ss.length)) w.heap.size k D rfl (l2.alloc _) (by unfold maxLen; omega) _ _ _ rfl rfl hkey .nil [] (rawElem_mk _ _ _ (by have := l1'.out; omega) (by have := l1'.out; omega)) ?_; intro w1 hm1 ht1)
      go_roundw
      case rel => exact ⟨k + 1, by omega, by go_num, loop1_step hlt HY.out hyl HL.out.1 HL.out.2.1 HL.out.2.2.1 HL.out.2.2.2 l2 hm1 ht1⟩
      case measure => simp [intOf]; omega
    · obtain ⟨wp, hwp⟩ : ∃ x, x = wr := ⟨_, rfl⟩
      subst hwp
      obtain ⟨D2, hK, hJ⟩ := J_start (w := w) (wr := wp) (ss := ss) (k := k) (by omega) ⟨D, l1, l2, l3, l4, l5⟩
      have HK := hid hK
      have HJ := hid hJ
      have HN := hid hn
      have HP := hid hp
      have HE := hid he
      clear hK hJ hn hp he l1 l2 l3 l4 l5 D
      by_cases hpos : 0 < ss.length
      · have hq4 : decide (0 < (ss.length : Int)) = true := by simp; omega
        go_wp2
        go_loopw [11, 54] (fun av i wr => ∃ (k : Nat) (xs : List ByteArray) (aa : Option Addr) (acap : Nat), k ≤ zs.length ∧ i = .int .i64 k ∧ av = .slice aa k acap ∧ J w w.heap.size (w.heap.size + 1 + ss.length) wp.heap.size ss.length D2 wr xs k aa acap) (fun _ i _ => zs.length - (intOf i).toNat)
        case atStart => exact ⟨0, [], none, 0, Nat.zero_le _, rfl, rfl, HJ.out⟩
        case round =>
          obtain ⟨k2, xs, aa, acap, hk2, rfl, rfl, ra, rcap, i1, i2, i3, i4, i5⟩ := hrel
          by_cases hlt2 : k2 < zs.length
          · obtain ⟨pb, poff, q, rfl, hcq, hq⟩ := HP.out.at i5 hlt2
            obtain ⟨nb, noff, y, rfl, hcy, hy, hyl⟩ := HN.out.at i5 (k := q % ss.length) (Nat.mod_lt _ hpos)
            have hps : wp.heap.size < wr.heap.size := i1.obj.lt
            have hm0 : (0 : Int) ≤ (q : Int) % (ss.length : Int) := Int.emod_nonneg _ (by omega)
            have hm1 : (q : Int) % (ss.length : Int) < (ss.length : Int) := Int.emod_lt_of_pos _ (by omega)
            have hm2 : q % ss.length < ss.length := Nat.mod_lt _ hpos
            have HI := hid (And.intro i1 (And.intro i2 (And.intro i3 (And.intro i4 i5))))
            clear i1 i3 i5 hy
            go_wp2_with (at_builtin; refine wpList_append_str wr rfl _ _ rfl (wp.heap.size + 1) k2 acap aa xs y rfl i2 rfl (by omega) (by omega) ?_; intro g cap w1 hown1 hgrew1 hloc1)
            have hI1 := HI.out.1.grew hgrew1 (fun x hx e => by have := row_lt HI.out.2.1 x e; omega) (fun x hx e => HI.out.2.2.1 x e hx)
            refine (member_any _ _ _ _ D2 xs ra k2 rcap y w1 hyl (by omega) hI1).mono ?_
            rintro e w2 ⟨⟨a1, b1, rfl⟩, hL⟩
            have HJ2 := hid (J_step HI.out.1 HI.out.2.1 HI.out.2.2.1 HI.out.2.2.2.1 HI.out.2.2.2.2 hown1 hgrew1 hloc1 hL)
            clear hI1 hL hown1 hgrew1 hloc1
            go_wp2
            go_roundw
            case rel => exact ⟨k2 + 1, xs ++ [y], some ⟨g, 0, none⟩, cap, by omega, by go_num, rfl, HJ2.out⟩
            case measure => simp [intOf]; omega
          · have HJ2 : Hid (J w w.heap.size (w.heap.size + 1 + ss.length) wp.heap.size ss.length D2 wr xs k2 aa acap) := ⟨ra, rcap, i1, i2, i3, i4, i5⟩
            clear i1 i2 i3 i5
            have hen := eql_nil
            have hee := eql_err
            go_wp2
            go_loopw [11, 79] (fun av i wr => ∃ (k : Nat) (xs : List ByteArray) (aa : Option Addr) (acap : Nat), k ≤ es.length ∧ i = .int .i64 k ∧ av = .slice aa (k2 + k) acap ∧ J w w.heap.size (w.heap.size + 1 + ss.length) wp.heap.size ss.length D2 wr xs (k2 + k) aa acap) (fun _ i _ => es.length - (intOf i).toNat)
            case atStart => exact ⟨0, xs, aa, acap, Nat.zero_le _, rfl, rfl, HJ2.out⟩
            case round =>
              obtain ⟨k3, xs, aa, acap, hk3, rfl, rfl, ra, rcap, i1, i2, i3, i4, i5⟩ := hrel
              by_cases hlt3 : k3 < es.length
              · obtain ⟨eb, eoff, y, rfl, hcy, hy, hyl⟩ := HE.out.at i5 hlt3
                have hps : wp.heap.size < wr.heap.size := i1.obj.lt
                have HI := hid (And.intro i1 (And.intro i2 (And.intro i3 (And.intro i4 i5))))
                clear i1 i3 i5 hy
                go_wp2_with (at_builtin; refine wpList_append_str wr rfl _ _ rfl (wp.heap.size + 1) (k2 + k3) acap aa xs y rfl i2 rfl (by omega) (by omega) ?_; intro g cap w1 hown1 hgrew1 hloc1)
                have hI1 := HI.out.1.grew hgrew1 (fun x hx e => by have := row_lt HI.out.2.1 x e; omega) (fun x hx e => HI.out.2.2.1 x e hx)
                refine (member_any _ _ _ _ D2 xs ra (k2 + k3) rcap y w1 hyl (by omega) hI1).mono ?_
                rintro e w2 ⟨⟨a1, b1, rfl⟩, hL⟩
                have HJ3 := hid (J_step HI.out.1 HI.out.2.1 HI.out.2.2.1 HI.out.2.2.2.1 HI.out.2.2.2.2 hown1 hgrew1 hloc1 hL)
                clear hI1 hL hown1 hgrew1 hloc1
                go_wp2
                go_roundw
                case rel => exact ⟨k3 + 1, xs ++ [y], some ⟨g, 0, none⟩, cap, by omega, by go_num, rfl, HJ3.out⟩
                case measure => simp [intOf]; omega
              · have hU := unread_any _ _ _ _ D2 xs ra (k2 + k3) rcap wr h1 (by omega) i1
                obtain ⟨hsx, hxl⟩ := strs_of_owns i2
                have HX := hid hsx
                clear i1 i2 i3 hsx
                go_wp2_with fail
                refine hU.mono ?_
                rintro e w2 ⟨⟨rfl, hall⟩ | ⟨⟨t, v, rfl⟩, hall⟩, hb2⟩
                · have hs := (allRead_iff HK.out).1 hall
                  have hbw : Below w.heap.size w w2 := i5.trans (hb2.mono i5.size)
                  have hB := allin_any _ _ ss xs w2 (by omega) (by omega) (HN.out.strs hbw ncap) (strs_later HX.out hb2)
                  rw [hs] at hB
                  clear hall hs
                  go_wp2_with (go_at_call 7; refine hB.mono ?_; rintro e w3 ⟨rfl, rfl⟩)
                  go_ret
                  exact ⟨rfl, hbw⟩
                · have hs : allS ss xs = false := by
                    cases hh : allS ss xs
                    · rfl
                    · exact absurd ((allRead_iff HK.out).2 hh) hall
                  have hbw : Below w.heap.size w w2 := i5.trans (hb2.mono i5.size)
                  have hB := allin_any _ _ ss xs w2 (by omega) (by omega) (HN.out.strs hbw ncap) (strs_later HX.out hb2)
                  rw [hs] at hB
                  clear hall hs
                  go_wp2_with (go_at_call 7; refine hB.mono ?_; rintro e w3 ⟨rfl, rfl⟩)
                  go_ret
                  exact ⟨rfl, hbw⟩
      · have hq4 : decide (0 < (ss.length : Int)) = false := decide_eq_false (by omega)
        have hen := eql_nil
        have hee := eql_err
        go_wp2
        go_loopw [11, 79] (fun av i wr => ∃ (k : Nat) (xs : List ByteArray) (aa : Option Addr) (acap : Nat), k ≤ es.length ∧ i = .int .i64 k ∧ av = .slice aa k acap ∧ J w w.heap.size (w.heap.size + 1 + ss.length) wp.heap.size ss.length D2 wr xs k aa acap) (fun _ i _ => es.length - (intOf i).toNat)
        case atStart => exact ⟨0, [], none, 0, Nat.zero_le _, rfl, rfl, HJ.out⟩
        case round =>
          obtain ⟨k3, xs, aa, acap, hk3, rfl, rfl, ra, rcap, i1, i2, i3, i4, i5⟩ := hrel
          by_cases hlt3 : k3 < es.length
          · obtain ⟨eb, eoff, y, rfl, hcy, hy, hyl⟩ := HE.out.at i5 hlt3
            have hps : wp.heap.size < wr.heap.size := i1.obj.lt
            have HI := hid (And.intro i1 (And.intro i2 (And.intro i3 (And.intro i4 i5))))
            clear i1 i3 i5 hy
            go_wp2_with (at_builtin; refine wpList_append_str wr rfl _ _ rfl (wp.heap.size + 1) k3 acap aa xs y rfl i2 rfl (by omega) (by omega) ?_; intro g cap w1 hown1 hgrew1 hloc1)
            have hI1 := HI.out.1.grew hgrew1 (fun x hx e => by have := row_lt HI.out.2.1 x e; omega) (fun x hx e => HI.out.2.2.1 x e hx)
            refine (member_any _ _ _ _ D2 xs ra k3 rcap y w1 hyl (by omega) hI1).mono ?_
            rintro e w2 ⟨⟨a1, b1, rfl⟩, hL⟩
            have HJ3 := hid (J_step HI.out.1 HI.out.2.1 HI.out.2.2.1 HI.out.2.2.2.1 HI.out.2.2.2.2 hown1 hgrew1 hloc1 hL)
            clear hI1 hL hown1 hgrew1 hloc1
            go_wp2
            go_roundw
            case rel => exact ⟨k3 + 1, xs ++ [y], some ⟨g, 0, none⟩, cap, by omega, by go_num, rfl, HJ3.out⟩
            case measure => simp [intOf]; omega
          · have hU := unread_any _ _ _ _ D2 xs ra k3 rcap wr h1 (by omega) i1
            obtain ⟨hsx, hxl⟩ := strs_of_owns i2
            have HX := hid hsx
            clear i1 i2 i3 hsx
            go_wp2_with fail
            refine hU.mono ?_
            rintro e w2 ⟨⟨rfl, hall⟩ | ⟨⟨t, v, rfl⟩, hall⟩, hb2⟩
            · have hs := (allRead_iff HK.out).1 hall
              have hbw : Below w.heap.size w w2 := i5.trans (hb2.mono i5.size)
              have hB := allin_any _ _ ss xs w2 (by omega) (by omega) (HN.out.strs hbw ncap) (strs_later HX.out hb2)
              rw [hs] at hB
              clear hall hs
              go_wp2_with (go_at_call 7; refine hB.mono ?_; rintro e w3 ⟨rfl, rfl⟩)
              go_ret
              exact ⟨rfl, hbw⟩
            · have hs : allS ss xs = false := by
                cases hh : allS ss xs
                · rfl
                · exact absurd ((allRead_iff HK.out).2 hh) hall
              have hbw : Below w.heap.size w w2 := i5.trans (hb2.mono i5.size)
              have hB := allin_any _ _ ss xs w2 (by omega) (by omega) (HN.out.strs hbw ncap) (strs_later HX.out hb2)
              rw [hs] at hB
              clear hall hs
              go_wp2_with (go_at_call 7; refine hB.mono ?_; rintro e w3 ⟨rfl, rfl⟩)
              go_ret
              exact ⟨rfl, hbw⟩
end Go.Proofs.YbulkcqxeFmt
