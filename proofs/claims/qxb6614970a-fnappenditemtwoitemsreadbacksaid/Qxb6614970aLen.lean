/-
  The length of a slice that came in is an int.
-/
import Derived.Test.Qxb6614970aRow
namespace Go.Proofs.Qxb6614970a
open Go.RowKit
set_option linter.unusedVariables false

theorem IsRow.bound {w : World} {a : Option Addr} {len cap : Nat} {zs : List Int} {k : IntKind} (h : IsRow k w a len cap zs) : len ≤ 9223372036854775807 := by
  rcases h with ⟨rfl, rfl, rfl, rfl⟩ | ⟨x, rfl, hl, hm, _⟩
  · omega
  · unfold maxLen at hm; omega

#print axioms IsRow.bound
end Go.Proofs.Qxb6614970a
