import Derived.Test.YbulkbaewSwap
namespace Go.Proofs.Ybulkbaew
open Go.ChangeShapes Go.WideShapes Go.ChangeAt Go.RowKit
set_option linter.unusedVariables false

/-- WHAT THE WALK IS TOLD OF A SLICE OF INTEGERS THAT CAME IN: it is nil; or it leads to a row of 'cap' cells, the numbers 'zs' (the first 'len' are its elements, the rest its spare room), each fitting its kind. -/
def IsRow (k : IntKind) (w : World) (a : Option Addr) (len cap : Nat) (zs : List Int) : Prop :=
  (a = none ∧ len = 0 ∧ cap = 0 ∧ zs = []) ∨
  ∃ x, a = some x ∧ len ≤ cap ∧ cap ≤ maxLen ∧ zs.length = cap ∧ (∀ i, i < zs.length → w.cell? (x.add i) = some (.int k (zs.getD i 0))) ∧ ∀ n ∈ zs, (Lit.int k n).wf = true

theorem lies_of_row {w : World} {a : Option Addr} {len cap : Nat} {zs : List Int} (h : IsRow .u8 w a len cap zs) : ∃ l : List UInt8, l.length = len ∧ Lies w.heap.size w (.slice a len cap) l := by
  rcases h with ⟨rfl, rfl, rfl, _⟩ | ⟨x, rfl, hl, hm, hz, hc, hw⟩
  · exact ⟨[], rfl, .inl ⟨rfl, rfl⟩⟩
  have hlen : ((zs.take len).map fun z => UInt8.ofNat z.toNat).length = len := by simp; omega
  refine ⟨(zs.take len).map fun z => UInt8.ofNat z.toNat, hlen, .inr ⟨x, cap, by rw [hlen], ?_, fun j u hj => ?_⟩⟩
  · by_cases h0 : len = 0
    · subst h0; exact .inl rfl
    · exact .inr (by simpa [add_block] using cell_lt' (hc 0 (by omega)))
  · have hj' : j < len := by
      have := (List.getElem?_eq_some_iff.1 hj).1
      rw [C_length, hlen] at this
      exact this
    have hm' : zs.getD j 0 ∈ zs := by
      rw [List.getD_eq_getElem?_getD, List.getElem?_eq_getElem (by omega)]
      exact List.getElem_mem _
    have hb := bounds_u8 (hw _ hm')
    rw [hc j (by omega), ← hj]
    have hjz : j < zs.length := by omega
    simp [C, hj', hjz] at hb ⊢
    omega

/-- The six tests at the law's head. -/
theorem big_true (x : Nat) (h : 4096 < x) : decide ((4096 : Int) < (x : Int)) = true := by simp; omega
theorem big_false (x : Nat) (h : ¬ 4096 < x) : decide ((4096 : Int) < (x : Int)) = false := by simp; omega
end Go.Proofs.Ybulkbaew
