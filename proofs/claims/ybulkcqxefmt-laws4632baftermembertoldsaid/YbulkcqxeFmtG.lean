import Derived.Test.YbulkcqxeFmtF
import Derived.Lib.SlBytesConst
namespace Go.Proofs.YbulkcqxeFmt
open Go.RowKit Go.Maps Go.WideMaps

theorem make24 (n : Int) (w : World) : (Instr.makeMap 24 (some (.int .i64 n))).run Ybaf.prog w = .ok (.map (some w.heap.size)) (w.alloc (.map #[] 0)) := by
  simp [Instr.makeMap, run_underlying Ybaf.underlying24, asInt, asIntOf]

/-- What is known of a slice of strings that came in. -/
def CameS (w : World) (a : Option Addr) (ss : List ByteArray) : Prop :=
  (ss = [] ∨ ∃ b off, a = some ⟨b, off, none⟩ ∧ b < w.heap.size ∧ ∀ j, j < ss.length → w.cell? ⟨b, off + j, none⟩ = some (.string (ss.getD j ByteArray.empty))) ∧ ∀ j, (ss.getD j ByteArray.empty).size ≤ maxLen
/-- What is known of a slice of bytes that came in. -/
def CameB (w : World) (a : Option Addr) (zs : List Nat) : Prop :=
  zs = [] ∨ ∃ b off, a = some ⟨b, off, none⟩ ∧ b < w.heap.size ∧ (∀ j, j < zs.length → w.cell? ⟨b, off + j, none⟩ = some (.int .u8 ((zs.getD j 0 : Nat) : Int))) ∧ ∀ j, zs.getD j 0 < 256

theorem CameS.strs {w w' : World} {a : Option Addr} {ss : List ByteArray} (h : CameS w a ss) (hb : Below w.heap.size w w') (cap : Nat) : Strs w' (.slice a ss.length cap) ss := by
  refine ⟨a, cap, rfl, ?_⟩
  rcases h.1 with h | ⟨b, off, h1, h2, h3⟩
  · exact Or.inl h
  · exact Or.inr ⟨b, off, h1, fun i hi => (hb.cell (by exact h2)).trans (h3 i hi)⟩

theorem CameS.at {w w' : World} {a : Option Addr} {ss : List ByteArray} (h : CameS w a ss) (hb : Below w.heap.size w w') {k : Nat} (hk : k < ss.length) :
    ∃ b off s, a = some ⟨b, off, none⟩ ∧ w'.cell? ⟨b, off + k, none⟩ = some (.string s) ∧ s = ss.getD k ByteArray.empty ∧ s.size ≤ maxLen := by
  rcases h.1 with h' | ⟨b, off, h1, h2, h3⟩
  · subst h'; simp at hk
  · exact ⟨b, off, _, h1, (hb.cell (by exact h2)).trans (h3 k hk), rfl, h.2 k⟩

theorem CameB.at {w w' : World} {a : Option Addr} {zs : List Nat} (h : CameB w a zs) (hb : Below w.heap.size w w') {k : Nat} (hk : k < zs.length) :
    ∃ b off q, a = some ⟨b, off, none⟩ ∧ w'.cell? ⟨b, off + k, none⟩ = some (.int .u8 (q : Nat)) ∧ q < 256 := by
  rcases h with h' | ⟨b, off, h1, h2, h3, h4⟩
  · subst h'; simp at hk
  · exact ⟨b, off, _, h1, (hb.cell (by exact h2)).trans (h3 k hk), h4 k⟩

/-- The map's names are just xs. -/
def Keys (D : DataW Unit) (xs : List ByteArray) : Prop := ∀ s : ByteArray, Maps.has D (.string s.data.toList) = hasS xs s

theorem keys_put {D : DataW Unit} {xs : List ByteArray} {y : ByteArray} {d : DataW Unit} (h : Keys D xs) (hD : IsMap D) (hk : WideAt.IsKeyLit (.string y.data.toList)) : Keys (D.put (.string y.data.toList) d) (xs ++ [y]) := by
  intro s
  rw [hasS_snoc]
  by_cases e : s.data.toList = y.data.toList
  · rw [e, Maps.has_put_same hD hk]
    simp [ByteArray.toList_eq, e]
  · have eb : (s.toList == y.toList) = false := by
      rw [ByteArray.toList_eq, ByteArray.toList_eq, beq_eq_false_iff_ne]
      exact e
    rw [Maps.has_put_other (by simpa using e), h s, eb]
    simp

theorem keys_nil : Keys (.map []) [] := fun _ => rfl

/-- The members' map after k rounds: block B the map, the raw bytes in the k blocks behind it. -/
def Loop1 (w wr : World) (M : Nat) (ss : List ByteArray) (k : Nat) : Prop :=
  ∃ D, wr.heap.size = w.heap.size + 1 + k ∧ wr.ownsMap Ybaf.prog 9 (rawElem w.heap.size M) w.heap.size k D ∧ Keys D (ss.take k) ∧ (∀ g, w.heap.size < g → g < wr.heap.size → wr.cell? ⟨g, 0, none⟩ = some (.int .u8 50)) ∧ Below w.heap.size w wr

theorem loop1_start (w : World) (M : Nat) (ss : List ByteArray) : Loop1 w (w.alloc (.map #[] 0)) M ss 0 :=
  ⟨.map [], by simp, World.ownsMap_made _ _ _ _, keys_nil, fun g h1 h2 => by simp at h2; omega, (Below.refl _ w).alloc (Nat.le_refl _) _⟩

theorem turned_size {w w' : World} {b : Nat} (h : w.mapTurned w' b) : w'.heap.size = w.heap.size := by
  obtain ⟨es, clock, es', clock', hb, rfl⟩ := h
  simp [ChangeMaps.setBlock]

theorem loop1_step {w wr w2 : World} {ss : List ByteArray} {k : Nat} {D : DataW Unit} {y : ByteArray} (hk : k < ss.length) (hy : y = ss.getD k ByteArray.empty) (hyl : y.size ≤ maxLen)
    (h1 : wr.heap.size = w.heap.size + 1 + k) (h3 : Keys D (ss.take k)) (h4 : ∀ g, w.heap.size < g → g < wr.heap.size → wr.cell? ⟨g, 0, none⟩ = some (.int .u8 50)) (h5 : Below w.heap.size w wr)
    (hm0 : wr.ownsMap Ybaf.prog 9 (rawElem w.heap.size (w.heap.size + 1 + ss.length)) w.heap.size k D)
    (hm : w2.ownsMap Ybaf.prog 9 (rawElem w.heap.size (w.heap.size + 1 + ss.length)) w.heap.size (k + 1) (D.put (.string y.data.toList) .nil)) (ht : (wr.alloc (.cells #[.int .u8 50] 5 (1, 2))).mapTurned w2 w.heap.size) :
    Loop1 w w2 (w.heap.size + 1 + ss.length) ss (k + 1) := by
  have hs : w2.heap.size = wr.heap.size + 1 := by rw [turned_size ht]; simp
  refine ⟨_, by omega, hm, ?_, ?_, ?_⟩
  · rw [List.take_succ_eq_append_getElem hk]
    have e : ss[k] = y := by rw [hy]; simp [hk]
    rw [e]
    exact keys_put h3 hm0.isMap (law9.key (keyOf_string_mk Ybaf.underlying9 hyl))
  · intro g g1 g2
    refine (World.cell?_of_block (w := wr.alloc (.cells #[.int .u8 50] 5 (1, 2))) (ht.grown.block g (by simp; omega) (by simp; omega))).trans ?_
    by_cases e : g = wr.heap.size
    · subst e
      exact World.cell?_alloc_mark _ _ _ _ _
    · exact Lib.cell?_alloc_marked _ (h4 g g1 (by omega))
  · exact (h5.alloc h5.size _).grown ht.grown (by simp; omega) (fun x hx => by cases hx; exact Nat.le_refl _)

/-- Loops 2 and 3: the object has been asked for xs, and 'asked' holds the same. -/
def J (w : World) (B M p n : Nat) (D : DataW Unit) (wr : World) (xs : List ByteArray) (c : Nat) (aa : Option Addr) (acap : Nat) : Prop :=
  ∃ ra rcap, Inv wr B M p n D xs ra c rcap ∧ wr.ownsRow (p + 1) 9 1 (.slice aa c acap) c (xs.map .string) ∧ (∀ x, Value.ownBlock (.slice aa c acap) = some x → ¬ Value.ownBlock (.slice ra c rcap) = some x) ∧ w.heap.size ≤ p ∧ Below w.heap.size w wr

theorem J_step {w wr w1 w2 : World} {B M p n : Nat} {D : DataW Unit} {xs : List ByteArray} {c acap : Nat} {aa : Option Addr} {ra : Option Addr} {rcap g cap : Nat} {s : ByteArray}
    (hI : Inv wr B M p n D xs ra c rcap) (hown : wr.ownsRow (p + 1) 9 1 (.slice aa c acap) c (xs.map .string)) (hap : ∀ x, Value.ownBlock (.slice aa c acap) = some x → ¬ Value.ownBlock (.slice ra c rcap) = some x)
    (hp : w.heap.size ≤ p) (hb : Below w.heap.size w wr)
    (hown1 : w1.ownsRow (p + 1) 9 1 (.slice (some ⟨g, 0, none⟩) (c + 1) cap) (c + 1) ((xs ++ [s]).map .string)) (hg1 : Grew (fun b => Value.ownBlock (.slice aa c acap) = some b) wr w1) (hloc1 : Value.ownBlock (.slice aa c acap) = some g ∨ wr.heap.size ≤ g)
    (hL : Left1 w1 B M p n D xs ra c rcap s w2) : J w B M p n D w2 (xs ++ [s]) (c + 1) (some ⟨g, 0, none⟩) cap := by
  obtain ⟨g2, cap2, hI2, hg2, hloc2⟩ := hL
  have hr := row_lt hI.read
  have ha := row_lt hown
  have hg := row_lt hown1 g rfl
  have hgr : ¬ Value.ownBlock (.slice ra c rcap) = some g := by
    rcases hloc1 with e | e
    · exact hap g e
    · intro e2; have := hr g e2; omega
  have hlt := hI.obj.lt
  have hs1 := hg1.size
  refine ⟨some ⟨g2, 0, none⟩, cap2, hI2, row_of_block hown1 (fun x hx => ?_), fun x hx e => ?_, hp, ?_⟩
  · cases hx
    refine hg2.block g hg.2 ?_
    rintro (e | e)
    · omega
    · exact hgr e
  · cases hx
    cases e
    rcases hloc2 with e | e
    · exact hgr e
    · omega
  · refine hg2.below (fun x hx => ?_) (by have := hb.size; omega) (hg1.below (fun x hx => by have := ha x hx; omega) hb.size hb)
    rcases hx with e | e
    · omega
    · have := hr x e; omega
end Go.Proofs.YbulkcqxeFmt
