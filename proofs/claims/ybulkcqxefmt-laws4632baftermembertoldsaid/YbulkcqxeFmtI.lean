import Derived.Test.YbulkcqxeFmtH
import Derived.ProofKit
import Derived.OpenShut
import Derived.ChangeOld
import Derived.SliceStrings
namespace Go.Proofs.YbulkcqxeFmt
open Go.RowKit

/-- More than 1024 of anything: true at once. -/
theorem lawEarly (na pa ea : Option Addr) (n1 n2 n3 ncap pcap ecap : Nat) (w : World) (h : 1024 < n1 ∨ 1024 < n2 ∨ 1024 < n3) :
    Calls Ybaf.prog 4 #[.slice na n1 ncap, .slice pa n2 pcap, .slice ea n3 ecap] w fun e w' => e = .returned (.bool true) ∧ Below w.heap.size w w' := by
  by_cases c1 : 1024 < n1
  · have q1 : decide (1024 < (n1 : Int)) = true := decide_eq_true (by omega)
    go_enter Ybaf.func4, Ybaf.ntmps4
    go_wp2
    go_ret
    exact ⟨rfl, Below.refl _ _⟩
  · have q1 : decide (1024 < (n1 : Int)) = false := decide_eq_false (by omega)
    by_cases c2 : 1024 < n2
    · have q2 : decide (1024 < (n2 : Int)) = true := decide_eq_true (by omega)
      go_enter Ybaf.func4, Ybaf.ntmps4
      go_wp2
      go_ret
      exact ⟨rfl, Below.refl _ _⟩
    · have q2 : decide (1024 < (n2 : Int)) = false := decide_eq_false (by omega)
      have q3 : decide (1024 < (n3 : Int)) = true := decide_eq_true (by omega)
      go_enter Ybaf.func4, Ybaf.ntmps4
      go_wp2
      go_ret
      exact ⟨rfl, Below.refl _ _⟩

theorem block_lt_cell {w : World} {a : Addr} {v : Value} (h : w.cell? a = some v) : a.block < w.heap.size := by
  rcases Nat.lt_or_ge a.block w.heap.size with h' | h'
  · exact h'
  · simp [World.cell?, Array.getElem?_eq_none h'] at h

/-- A slice of strings that was read, as the walk wants it. -/
theorem cameS_of {w : World} {a : Option Addr} {len cap : Nat} (h : (a = none ∧ len = 0 ∧ cap = 0) ∨ ∃ (x : Addr) (ss : List ByteArray), a = some x ∧ len ≤ cap ∧ ss.length = cap ∧ (∀ i, i < ss.length → w.cell? (x.add i) = some (.string (ss.getD i ByteArray.empty))) ∧ ∀ s ∈ ss, s.size ≤ maxLen) :
    ∃ ss : List ByteArray, ss.length = len ∧ CameS w a ss := by
  rcases h with ⟨rfl, rfl, rfl⟩ | ⟨x, ss, rfl, hl, hs, hc, hm⟩
  · exact ⟨[], rfl, Or.inl rfl, fun j => by simp⟩
  · refine ⟨ss.take len, by simp; omega, ?_, fun j => ?_⟩
    · by_cases e : len = 0
      · left; subst e; rfl
      · right
        obtain ⟨b, off, spot⟩ := x
        have hspot : spot = none := by simpa [Addr.add] using World.cell?_spot (hc 0 (by omega))
        subst hspot
        have hcell : ∀ j, j < ss.length → w.cell? ⟨b, off + j, none⟩ = some (.string (ss.getD j ByteArray.empty)) := fun j hj => by
          rw [← WideShapes.add_plain]; exact hc j hj
        refine ⟨b, off, rfl, block_lt_cell (hcell 0 (by omega)), fun j hj => ?_⟩
        have hj' : j < len := by simp at hj; omega
        rw [hcell j (by omega)]
        simp [List.getD, hj']
    · by_cases hj : j < (ss.take len).length
      · have e : (ss.take len).getD j ByteArray.empty = (ss.take len)[j] := by simp [List.getD, List.getElem?_eq_getElem hj]
        rw [e]
        exact hm _ (List.mem_of_mem_take (List.getElem_mem hj))
      · rw [show (ss.take len).getD j ByteArray.empty = ByteArray.empty by simp [List.getD, List.getElem?_eq_none (Nat.le_of_not_lt hj)]]
        exact Nat.zero_le _

/-- A slice of bytes that was read, as the walk wants it. -/
theorem cameB_of {w : World} {a : Option Addr} {len cap : Nat} (h : (a = none ∧ len = 0 ∧ cap = 0) ∨ ∃ (x : Addr) (zs : List Int), a = some x ∧ len ≤ cap ∧ zs.length = cap ∧ (∀ i, i < zs.length → w.cell? (x.add i) = some (.int .u8 (zs.getD i 0))) ∧ ∀ n ∈ zs, (Lit.int .u8 n).wf = true) :
    ∃ zs : List Nat, zs.length = len ∧ CameB w a zs := by
  rcases h with ⟨rfl, rfl, rfl⟩ | ⟨x, zs, rfl, hl, hs, hc, hm⟩
  · exact ⟨[], rfl, Or.inl rfl⟩
  · have hz := range_u8 hm
    refine ⟨(zs.take len).map Int.toNat, by simp; omega, ?_⟩
    by_cases e : len = 0
    · left; subst e; rfl
    · right
      obtain ⟨b, off, spot⟩ := x
      have hspot : spot = none := by simpa [Addr.add] using World.cell?_spot (hc 0 (by omega))
      subst hspot
      have hcell : ∀ j, j < zs.length → w.cell? ⟨b, off + j, none⟩ = some (.int .u8 (zs.getD j 0)) := fun j hj => by
        rw [← WideShapes.add_plain]; exact hc j hj
      have hval : ∀ j, j < len → ((((zs.take len).map Int.toNat).getD j 0 : Nat) : Int) = zs.getD j 0 := fun j hj => by
        have := hz j
        have hj2 : j < zs.length := by omega
        simp [List.getD, hj, hj2] at this ⊢
        omega
      refine ⟨b, off, rfl, block_lt_cell (hcell 0 (by omega)), fun j hj => ?_, fun j => ?_⟩
      · have hj' : j < len := by simp at hj; omega
        rw [hcell j (by omega), hval j hj']
      · by_cases hj : j < len
        · have h1 := hval j hj
          have h2 := hz j
          rw [List.getD_eq_getElem?_getD (l := zs)] at h1
          omega
        · rw [List.getD_eq_getElem?_getD, List.getElem?_eq_none (by simp; omega)]
          decide
end Go.Proofs.YbulkcqxeFmt
