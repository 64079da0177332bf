/-
  What the walk is told of a slice of bytes that came in, turned into 'Rd'.
-/
import Derived.Test.Qxb6614970aRd
namespace Go.Proofs.Qxb6614970a
open Go.RowKit
set_option linter.unusedVariables false

/-- WHAT THE WALK IS TOLD OF A SLICE OF INTEGERS THAT CAME IN: it is nil; or it leads to a row of 'cap' cells, the numbers 'zs' (the first 'len' are its elements, the rest its spare room), each fitting its kind. -/
def IsRow (k : IntKind) (w : World) (a : Option Addr) (len cap : Nat) (zs : List Int) : Prop :=
  (a = none ∧ len = 0 ∧ cap = 0 ∧ zs = []) ∨
  ∃ x, a = some x ∧ len ≤ cap ∧ cap ≤ maxLen ∧ zs.length = cap ∧ (∀ i, i < zs.length → w.cell? (x.add i) = some (.int k (zs.getD i 0))) ∧ ∀ n ∈ zs, (Lit.int k n).wf = true

theorem IsRow.rd {w : World} {a : Option Addr} {len cap : Nat} {zs : List Int} (h : IsRow .u8 w a len cap zs) : Rd w a len (zs.take len) := by
  rcases h with ⟨rfl, rfl, rfl, rfl⟩ | ⟨x, rfl, hl, hm, hz, hcell, hw⟩
  · exact Rd.nilRow w
  · refine ⟨by simp; omega, (fun e => by cases e), fun hn => ?_⟩
    obtain ⟨b, off, spot⟩ := x
    have hspot : spot = none := by simpa [Addr.add] using World.cell?_spot (hcell 0 (by omega))
    subst hspot
    refine ⟨b, off, rfl, fun j hj => ?_⟩
    have hadd : (⟨b, off, none⟩ : Addr).add j = ⟨b, off + j, none⟩ := by unfold Addr.add; split <;> simp_all
    rw [← hadd, hcell j (by omega)]
    simp only [List.getD_eq_getElem?_getD]
    rw [List.getElem?_take, if_pos hj]

theorem IsRow.nil {w : World} {a : Option Addr} {len cap : Nat} {zs : List Int} {k : IntKind} (h : IsRow k w a len cap zs) (ha : a = none) : len = 0 ∧ cap = 0 := by
  rcases h with ⟨rfl, rfl, rfl, rfl⟩ | ⟨x, rfl, _⟩
  · exact ⟨rfl, rfl⟩
  · cases ha

#print axioms IsRow.rd
end Go.Proofs.Qxb6614970a
