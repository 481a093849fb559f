import Derived.Test.YbulkcqxeFmtC
import Derived.Laws.IdiomStrings
namespace Go.Proofs.YbulkcqxeFmt
open Go.RowKit Go.Maps Go.WideMaps

theorem law9 : Keyed Ybaf.prog 9 := string_keyed Ybaf.underlying9
theorem zero25 (w : World) : (zeroValue 25).run Ybaf.prog w = .ok (.slice none 0 0) w := by kernel_rfl

theorem conv_raw (g : Nat) (w : World) (hc : w.cell? ⟨g, 0, none⟩ = some (.int .u8 50)) : (convert 25 9 (.slice (some ⟨g, 0, none⟩) 1 1)).run Ybaf.prog w = .ok (.string ⟨#[50]⟩) w := by
  have h := run_convert_bytes_back (P := Ybaf.prog) w 25 9 5 ⟨g, 0, none⟩ 1 [50] Ybaf.underlying25 Ybaf.underlying5 Ybaf.underlying9 (by
    intro j hj
    have e : j = 0 := by simp at hj; exact hj
    subst e
    simpa [Addr.add] using hc)
  simpa using h
theorem conv_nil (w : World) : (convert 25 9 (.slice none 0 0)).run Ybaf.prog w = .ok (.string ⟨#[]⟩) w := by kernel_rfl

/-- The call hands back two values. -/
def IsPair (e : Ending) : Prop := ∃ a b, e = .returned (.tuple #[a, b])

/-- What Member leaves. -/
def Left1 (w : World) (B M p n : Nat) (D : DataW Unit) (xs : List ByteArray) (ra : Option Addr) (rn rcap : Nat) (s : ByteArray) (w' : World) : Prop :=
  ∃ g cap, Inv w' B M p n D (xs ++ [s]) (some ⟨g, 0, none⟩) (rn + 1) cap ∧ Grew (fun b => b = p ∨ Value.ownBlock (.slice ra rn rcap) = some b) w w' ∧ (Value.ownBlock (.slice ra rn rcap) = some g ∨ w.heap.size ≤ g)

theorem left1_of {w w1 w2 : World} {B M p n : Nat} {D : DataW Unit} {xs : List ByteArray} {ra : Option Addr} {rn rcap g cap : Nat} {s : ByteArray} (h : Inv w B M p n D xs ra rn rcap)
    (hown : w1.ownsRow (p + 1) 9 1 (.slice (some ⟨g, 0, none⟩) (rn + 1) cap) (rn + 1) ((xs ++ [s]).map .string)) (hg : Grew (fun b => Value.ownBlock (.slice ra rn rcap) = some b) w w1)
    (hloc : Value.ownBlock (.slice ra rn rcap) = some g ∨ w.heap.size ≤ g) (hb : Below (w1.setCell ⟨p, 1, none⟩ (.slice (some ⟨g, 0, none⟩) (rn + 1) cap)).heap.size (w1.setCell ⟨p, 1, none⟩ (.slice (some ⟨g, 0, none⟩) (rn + 1) cap)) w2) :
    Left1 w B M p n D xs ra rn rcap s w2 := by
  have hlt := h.obj.lt
  have hpg : p ≠ g := by
    rcases hloc with e | e
    · have := row_lt h.read g e; omega
    · omega
  have hS : ∀ x, x ≤ p → ¬ Value.ownBlock (.slice ra rn rcap) = some x := fun x hx e => by have := row_lt h.read x e; omega
  have i1 : Inv (w1.setCell ⟨p, 1, none⟩ (.slice (some ⟨g, 0, none⟩) (rn + 1) cap)) B M p n D (xs ++ [s]) (some ⟨g, 0, none⟩) (rn + 1) cap := by
    refine ⟨?_, ?_, ?_, ?_, h.hB, h.hM⟩
    · refine ((h.obj.of_block (hg.block p hlt (hS p (Nat.le_refl _)))).set 1 _).congr fun i _ => ?_
      by_cases e : i = 1
      · subst e; simp
      · by_cases e0 : i = 0
        · subst e0; simp
        · omega
    · exact map_of_block (map_of_block h.map (hg.block B h.map.lt (hS B (Nat.le_of_lt h.hB)))) (Below.heap_setCell _ _ _ _ (by have := h.hB; show B ≠ p; omega))
    · intro x h1 h2
      have := h.hM
      refine (World.cell?_setCell_other _ _ _ _ (by simp)).trans ((World.cell?_of_block (w := w) (hg.block x (by omega) (hS x (by omega)))).trans (h.raw x h1 h2))
    · exact row_of_block hown (fun x hx => Below.heap_setCell _ _ _ _ (by cases hx; exact fun e => hpg e.symm))
  refine ⟨g, cap, i1.grew (S := fun _ => False) (Grew.ofBelow hb) (fun _ _ e => e) (fun _ _ e => e), ?_, hloc⟩
  have g1 : Grew (fun b => b = p ∨ Value.ownBlock (.slice ra rn rcap) = some b) w w1 := ⟨hg.os, hg.tape, hg.output, hg.size, fun b hb hn => hg.block b hb (fun e => hn (Or.inr e))⟩
  exact (g1.trans (Grew.setCell w1 ⟨p, 1, none⟩ _ (Or.inl rfl)) (fun _ _ e => e)).trans (Grew.ofBelow hb) (fun _ _ e => e)

theorem obj_after {w w1 : World} {B M p n : Nat} {D : DataW Unit} {xs : List ByteArray} {ra : Option Addr} {rn rcap : Nat} (h : Inv w B M p n D xs ra rn rcap) (hg : Grew (fun b => Value.ownBlock (.slice ra rn rcap) = some b) w w1) :
    w1.cell? ⟨p, 0, none⟩ = some (.map (some B)) ∧ w1.cell? ⟨p, 1, none⟩ = some (.slice ra rn rcap) ∧ w1.frozen? ⟨p, 1, none⟩ = false ∧ p < w1.heap.size ∧
    (∀ u, (w1.setCell ⟨p, 1, none⟩ u).ownsMap Ybaf.prog 9 (rawElem B M) B n D) ∧ ∀ u x, B < x → x < M → (w1.setCell ⟨p, 1, none⟩ u).cell? ⟨x, 0, none⟩ = some (.int .u8 50) := by
  have hS : ∀ x, x ≤ p → ¬ Value.ownBlock (.slice ra rn rcap) = some x := fun x hx e => by have := row_lt h.read x e; omega
  have hlt := h.obj.lt
  have hM := h.hM
  have hB := h.hB
  have o1 := h.obj.of_block (hg.block p hlt (hS p (Nat.le_refl _)))
  refine ⟨o1.cell (show 0 < 2 by omega), o1.cell (show 1 < 2 by omega), o1.frozen 1, o1.lt, fun u => ?_, fun u x h1 h2 => ?_⟩
  · exact map_of_block (map_of_block h.map (hg.block B h.map.lt (hS B (Nat.le_of_lt hB)))) (Below.heap_setCell _ _ _ _ (by show B ≠ p; omega))
  · exact (World.cell?_setCell_other _ _ _ _ (by simp)).trans ((World.cell?_of_block (w := w) (hg.block x (by omega) (hS x (by omega)))).trans (h.raw x h1 h2))

section
variable {ops : Array Oper} {rest : List Oper} {o : Oper} {a : Act} {Q : Exit → Act → World → Prop}
/-- 'raw, ok := members[name]': the value's two shapes written out. -/
theorem wpList_lookup_raw (w : World) (hg : o.guard = none) (m x : Operand) (hop : o.op = Op.lookup 24 m x true) (B M n : Nat) (D : DataW Unit) (hm : a.eval m = .map (some B)) (hown : w.ownsMap Ybaf.prog 9 (rawElem B M) B n D) (key : Value) (kl : Lit)
    (hx : a.eval x = key) (hkey : keyOf Ybaf.prog 9 key = some kl) (hK0 : wpList Ybaf.prog ops Q rest (a.put o.dst (.tuple #[.slice none 0 0, .bool (Maps.has D kl)])) w)
    (hK1 : ∀ g, B < g → g < M → wpList Ybaf.prog ops Q rest (a.put o.dst (.tuple #[.slice (some ⟨g, 0, none⟩) 1 1, .bool (Maps.has D kl)])) w) :
    wpList Ybaf.prog ops Q (o :: rest) a w :=
  wpList_lookup_own_ok _ hg m x 24 hop 9 25 law9 Ybaf.underlying24 (rawElem B M) (zero25 _) .nil [] (rawElem_nil B M) B n D hm hown key kl hx hkey (fun v ps hv => by
    rcases rawElem_inv hv with rfl | ⟨g, rfl, h1, h2⟩
    · exact hK0
    · exact hK1 g h1 h2)
end

set_option maxHeartbeats 1000000 in
theorem member_any (B M p n : Nat) (D : DataW Unit) (xs : List ByteArray) (ra : Option Addr) (rn rcap : Nat) (s : ByteArray) (w : World) (hs : s.size ≤ maxLen) (hn : rn ≤ 4096) (h : Inv w B M p n D xs ra rn rcap) :
    Calls Ybaf.prog 9 #[.pointer (some ⟨p, 0, none⟩), .string s] w fun e w' => IsPair e ∧ Left1 w B M p n D xs ra rn rcap s w' := by
  have hlt := h.obj.lt
  have c0 : w.cell? ⟨p, 0, none⟩ = some (.map (some B)) := h.obj.cell (show 0 < 2 by omega)
  have c1 : w.cell? ⟨p, 1, none⟩ = some (.slice ra rn rcap) := h.obj.cell (show 1 < 2 by omega)
  have H : Hid (Inv w B M p n D xs ra rn rcap) := h
  have hkey := keyOf_string_mk Ybaf.underlying9 hs
  have hread := h.read
  clear h
  have hcn := conv_nil
  have htl := ByteArray.toList_eq
  cases hhas : Maps.has D (.string s.data.toList)
  · go_enter Ybaf.func9, Ybaf.ntmps9
    go_wp2_with (first
      | (at_builtin; refine wpList_append_str w rfl _ _ rfl (p + 1) rn rcap ra xs s rfl hread rfl (by omega) hn ?_; intro g cap w1 hown1 hgrew1 hloc1; obtain ⟨d0, d1, d2, d3, d4, d5⟩ := obj_after H.out hgrew1)
      | (at_lookup; refine wpList_lookup_own_ok _ rfl _ _ 24 rfl 9 25 law9 Ybaf.underlying24 (rawElem B M) (zero25 _) .nil [] (rawElem_nil B M) B n D rfl (d4 _) _ _ rfl hkey ?_; intro v ps hv))
    have hca : ((w1.setCell ⟨p, 1, none⟩ (.slice (some ⟨g, 0, none⟩) (rn + 1) cap)).alloc (.cells #[.iface 9 (.string s)] 20)).cell? ⟨w1.heap.size, 0, none⟩ = some (.iface 9 (.string s)) := World.cell?_alloc_at _ _ _ _ (by simp [World.setCell])
    refine (errorf_any fmtMissing s w1.heap.size _ printed_m hca).mono ?_
    rintro e w3 ⟨⟨t, u, rfl⟩, hb3⟩
    go_wp2
    go_ret2
    exact ⟨⟨_, _, rfl⟩, left1_of H.out hown1 hgrew1 hloc1 (((Below.refl _ _).alloc (Nat.le_refl _) _).trans (hb3.mono (by simp)))⟩
  · go_enter Ybaf.func9, Ybaf.ntmps9
    go_wp2_with (first
      | (at_builtin; refine wpList_append_str w rfl _ _ rfl (p + 1) rn rcap ra xs s rfl hread rfl (by omega) hn ?_; intro g cap w1 hown1 hgrew1 hloc1; obtain ⟨d0, d1, d2, d3, d4, d5⟩ := obj_after H.out hgrew1)
      | (at_lookup; refine wpList_lookup_raw _ rfl _ _ rfl B M n D rfl (d4 _) _ _ rfl hkey ?_ ?_; rotate_left; intro x hx1 hx2; have hconv := conv_raw x _ (d5 (.slice (some ⟨g, 0, none⟩) (rn + 1) cap) x hx1 hx2); rotate_left))
    all_goals
      go_ret2
      exact ⟨⟨_, _, rfl⟩, left1_of H.out hown1 hgrew1 hloc1 (Below.refl _ _)⟩
end Go.Proofs.YbulkcqxeFmt
