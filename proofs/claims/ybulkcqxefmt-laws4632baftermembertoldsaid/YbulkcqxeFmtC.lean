import Derived.Test.YbulkcqxeFmtB
import Derived.Maps.OwnSet
import Derived.Maps.AppendAt
import Derived.Maps.OwnOps
namespace Go.Proofs.YbulkcqxeFmt
open Go.RowKit Go.Maps

theorem info9 : (Ybaf.prog.info? 9).map (fun i => (i.zero, i.size, i.bytes)) = some (some (.string ByteArray.empty), 1, 16) := by kernel_rfl

/-- Outside the blocks S nothing that was there has turned. -/
structure Grew (S : Nat → Prop) (w w' : World) : Prop where
  os : w'.os = w.os
  tape : w'.tape = w.tape
  output : w'.output = w.output
  size : w.heap.size ≤ w'.heap.size
  block : ∀ b, b < w.heap.size → ¬ S b → w'.heap[b]? = w.heap[b]?

theorem Grew.refl (S : Nat → Prop) (w : World) : Grew S w w := ⟨rfl, rfl, rfl, Nat.le_refl _, fun _ _ _ => rfl⟩
theorem Grew.trans {S T : Nat → Prop} {a b c : World} (h : Grew S a b) (k : Grew T b c) (hT : ∀ x, x < a.heap.size → T x → S x) : Grew S a c :=
  ⟨k.os.trans h.os, k.tape.trans h.tape, k.output.trans h.output, Nat.le_trans h.size k.size, fun x hx hs => (k.block x (Nat.lt_of_lt_of_le hx h.size) (fun t => hs (hT x hx t))).trans (h.block x hx hs)⟩
theorem Grew.below {S : Nat → Prop} {B : Nat} {w0 w w' : World} (h : Grew S w w') (hs : ∀ x, S x → B ≤ x) (hB : B ≤ w.heap.size) (hb : Below B w0 w) : Below B w0 w' :=
  hb.trans ⟨h.os, h.tape, h.output, h.size, fun k hk => h.block k (by omega) (fun t => by have := hs k t; omega)⟩
theorem Grew.ofBelow {S : Nat → Prop} {w w' : World} (h : Below w.heap.size w w') : Grew S w w' := ⟨h.os, h.tape, h.output, h.size, fun b hb _ => h.block b hb⟩
theorem Grew.ofGrown {S : Nat → Prop} {w w' : World} {row : Option Nat} (h : w.grownBy w' row) (hs : ∀ x, row = some x → S x) : Grew S w w' :=
  ⟨h.os, h.tape, h.output, h.size, fun b hb hn => h.block b hb (fun e => hn (hs b e.symm))⟩
theorem Grew.alloc (S : Nat → Prop) (w : World) (o : Obj) : Grew S w (w.alloc o) := ⟨rfl, rfl, rfl, by simp, fun b hb _ => Below.heap_alloc _ _ _ hb⟩
theorem Grew.setCell {S : Nat → Prop} (w : World) (p : Addr) (v : Value) (hp : S p.block) : Grew S w (w.setCell p v) :=
  ⟨rfl, rfl, rfl, by simp [World.setCell], fun b _ hn => Below.heap_setCell _ _ _ _ (fun e => hn (by rw [e]; exact hp))⟩

theorem map_of_block {w w' : World} {k b n : Nat} {R : Value → Option (DataW Unit × List MemPlace)} {D : DataW Unit} (h : w.ownsMap Ybaf.prog k R b n D) (e : w'.heap[b]? = w.heap[b]?) : w'.ownsMap Ybaf.prog k R b n D := by
  obtain ⟨es, clock, hb, rest⟩ := h
  exact ⟨es, clock, e.trans hb, rest⟩
theorem row_of_block {w w' : World} {base e size n : Nat} {v : Value} {xs : List Value} (h : w.ownsRow base e size v n xs) (hb : ∀ g, v.ownBlock = some g → w'.heap[g]? = w.heap[g]?) : w'.ownsRow base e size v n xs := by
  obtain ⟨h1, h2⟩ := h
  refine ⟨h1, ?_⟩
  rcases h2 with h2 | ⟨g, cap, cur, rfl, h3, h4, h5⟩
  · exact Or.inl h2
  · exact Or.inr ⟨g, cap, cur, rfl, h3, (hb g rfl).trans h4, h5⟩
theorem row_lt {w : World} {base e size n : Nat} {v : Value} {xs : List Value} (h : w.ownsRow base e size v n xs) : ∀ g, v.ownBlock = some g → base ≤ g ∧ g < w.heap.size := by
  intro g hg
  rcases h.2 with ⟨rfl, _⟩ | ⟨g', cap, cur, rfl, h3, h4, h5⟩
  · cases hg
  · cases hg
    exact ⟨h3, (Array.getElem?_eq_some_iff.1 h4).1⟩
theorem row_shape {w : World} {base e n : Nat} {v : Value} {xs : List Value} (h : w.ownsRow base e 1 v n xs) : ∃ a cap, v = .slice a n cap := by
  rcases h.2 with ⟨rfl, rfl⟩ | ⟨g, cap, cur, rfl, _⟩
  · exact ⟨_, _, rfl⟩
  · exact ⟨_, _, rfl⟩

section
variable {ops : Array Oper} {rest : List Oper} {o : Oper} {a : Act} {Q : Exit → Act → World → Prop}
/-- 'append(xs, s)' of one string onto a slice of strings that the call owns: the new slice's shape written out. -/
theorem wpList_append_str (w : World) (hgd : o.guard = none) (sl x : Operand) (ho : o.op = .call { callee := .builtin .append, args := #[sl, x], argTypes := #[22, 22] })
    (base n rcap : Nat) (ra : Option Addr) (xs : List ByteArray) (s : ByteArray) (hs : a.eval sl = .slice ra n rcap) (hown : w.ownsRow base 9 1 (.slice ra n rcap) n (xs.map .string)) (hx : a.eval x = .slice (some ⟨w.heap.size, 0, none⟩) 1 1)
    (hbase : base ≤ w.heap.size) (hn : n ≤ 4096)
    (h : ∀ g cap w', w'.ownsRow base 9 1 (.slice (some ⟨g, 0, none⟩) (n + 1) cap) (n + 1) ((xs ++ [s]).map .string) → Grew (fun b => Value.ownBlock (.slice ra n rcap) = some b) w w' → (Value.ownBlock (.slice ra n rcap) = some g ∨ w.heap.size ≤ g) →
      wpList Ybaf.prog ops Q rest (a.put o.dst (.slice (some ⟨g, 0, none⟩) (n + 1) cap)) w') :
    wpList Ybaf.prog ops Q (o :: rest) a (w.alloc (.cells #[.string s] 9)) := by
  obtain ⟨i0, hi, hz0, hz1, hz2⟩ := info_parts info9
  refine wpList_append_own_at _ hgd sl x 22 ho base 9 i0 (.string ByteArray.empty) 1 16 Ybaf.underlying22 hi hz0 hz1 hz2 rfl (by decide) _ _ _ hs (hown.alloc _) ⟨w.heap.size, 0, none⟩ 1 1 [.string s] hx rfl (cell_one_new _ _ _) (by intro u hu; simp at hu; subst hu; rfl)
    (by unfold maxLen; omega) (by omega) (by simp; omega) ?_
  intro v' w' hown' hgrow hnil hloc
  rcases hown'.2 with ⟨_, h0⟩ | ⟨g, cap, cur, rfl, _⟩
  · omega
  · refine h g cap w' (by rw [List.map_append]; exact hown') ((Grew.alloc _ w _).trans (Grew.ofGrown hgrow (fun _ e => e)) (fun _ _ e => e)) ?_
    rcases hloc with e | e
    · exact Or.inl e.symm
    · have : g = (w.alloc (.cells #[.string s] 9)).heap.size := by simpa [Value.ownBlock] using e
      right
      rw [this]; simp
end

/-- How an element of the members' map reads: nil, or the one byte of a block between B and M. -/
def rawElem (B M : Nat) (v : Value) : Option (DataW Unit × List MemPlace) :=
  match v with
  | .slice none 0 0 => some (.nil, [])
  | .slice (some ⟨g, 0, none⟩) 1 1 => if B < g ∧ g < M then some (.nil, []) else none
  | _ => none

theorem rawElem_nil (B M : Nat) : rawElem B M (.slice none 0 0) = some (.nil, []) := rfl
theorem rawElem_mk (B M g : Nat) (h1 : B < g) (h2 : g < M) : rawElem B M (.slice (some ⟨g, 0, none⟩) 1 1) = some (.nil, []) := by
  simp [rawElem, h1, h2]
theorem rawElem_inv {B M : Nat} {v : Value} {y : DataW Unit × List MemPlace} (h : rawElem B M v = some y) : v = .slice none 0 0 ∨ ∃ g, v = .slice (some ⟨g, 0, none⟩) 1 1 ∧ B < g ∧ g < M := by
  unfold rawElem at h
  split at h
  · exact Or.inl rfl
  · split at h
    · rename_i g hg
      exact Or.inr ⟨_, rfl, hg.1, hg.2⟩
    · cases h
  · cases h

/-- The object in block p: its map in block B, the raw bytes between B and M, the names read. -/
structure Inv (w : World) (B M p n : Nat) (D : DataW Unit) (xs : List ByteArray) (ra : Option Addr) (rn rcap : Nat) : Prop where
  obj : w.rowIs p 29 2 (fun i => if i = 0 then .map (some B) else .slice ra rn rcap)
  map : w.ownsMap Ybaf.prog 9 (rawElem B M) B n D
  raw : ∀ g, B < g → g < M → w.cell? ⟨g, 0, none⟩ = some (.int .u8 50)
  read : w.ownsRow (p + 1) 9 1 (.slice ra rn rcap) rn (xs.map .string)
  hB : B < p
  hM : M ≤ p

theorem Inv.grew {w w' : World} {B M p n : Nat} {D : DataW Unit} {xs : List ByteArray} {ra : Option Addr} {rn rcap : Nat} (h : Inv w B M p n D xs ra rn rcap) {S : Nat → Prop} (g : Grew S w w')
    (hS : ∀ x, x ≤ p → ¬ S x) (hr : ∀ x, Value.ownBlock (.slice ra rn rcap) = some x → ¬ S x) : Inv w' B M p n D xs ra rn rcap where
  obj := h.obj.of_block (g.block _ h.obj.lt (hS _ (Nat.le_refl _)))
  map := map_of_block h.map (g.block _ h.map.lt (hS _ (Nat.le_of_lt h.hB)))
  raw x h1 h2 := (World.cell?_of_block (w := w) (g.block x (by have := h.obj.lt; have := h.hM; omega) (hS x (by have := h.hM; omega)))).trans (h.raw x h1 h2)
  read := row_of_block h.read (fun x hx => g.block x (row_lt h.read x hx).2 (hr x hx))
  hB := h.hB
  hM := h.hM
end Go.Proofs.YbulkcqxeFmt
