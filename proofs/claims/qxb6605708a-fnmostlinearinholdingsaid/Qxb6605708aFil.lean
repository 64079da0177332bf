/-
  A row of ints that the call fills.
-/
import Derived.Test.Qxb6605708aBase
import Derived.Test.Qxb6605708aLaw
namespace Go.Proofs.Qxb6605708a
open Go.RowKit
set_option linter.unusedVariables false

def Fil (L : List Value) (xs : List Int) (k : Nat) : Prop := ∀ j, j < k → L[j]? = some (.int .i64 (xs.getD j 0))

theorem Fil.step {L : List Value} {xs : List Int} {k : Nat} (h : Fil L xs k) (hk : k < L.length) : Fil (L.set k (.int .i64 (xs[k]?.getD 0))) xs (k + 1) := by
  intro j hj
  by_cases e : j = k
  · subst e; simp [hk]
  · rw [List.getElem?_set_ne (by omega)]; exact h j (by omega)

theorem Fil.put {L : List Value} {xs : List Int} {n r : Nat} {v : Int} (h : Fil L xs n) (hl : L.length = n) (hx : xs.length = n) (hr : r < n) : Fil (L.set r (.int .i64 v)) (xs.set r v) n := by
  intro j hj
  rw [getD_set xs r j v (by omega)]
  by_cases e : j = r
  · subst e; simp [hl, hj]
  · rw [List.getElem?_set_ne (by omega), if_neg e]; exact h j hj

theorem Fil.rk {w : World} {B g n c : Nat} {L : List Value} {xs : List Int} (h : w.ownsRow B 3 1 (.slice (some ⟨g, 0, none⟩) n c) n L) (hf : Fil L xs n) (hl : xs.length = n) : Rk .i64 w (some ⟨g, 0, none⟩) n xs :=
  ⟨hl, fun _ => ⟨g, 0, rfl, (h.lt g rfl).2, fun j hj => by rw [Nat.zero_add, h.cellAt j (by omega)]; exact hf j hj⟩⟩

theorem cnt1_bound (g : Int) (ws : List Int) : 0 ≤ cnt1 g ws ∧ cnt1 g ws ≤ ws.length := by
  induction ws with
  | nil => simp [cnt1]
  | cons r ws ih =>
    simp only [cnt1, List.map_cons, List.sum_cons, List.length_cons] at ih ⊢
    split <;> omega
theorem cnt2_bound (g : Int) (os ds : List Int) : 0 ≤ cnt2 g os ds ∧ cnt2 g os ds ≤ ds.length := by
  induction ds with
  | nil => simp [cnt2]
  | cons r ws ih =>
    simp only [cnt2, List.map_cons, List.sum_cons, List.length_cons] at ih ⊢
    split <;> omega

theorem Ix.nonneg {xs : List Int} {n m : Nat} (h : Ix xs n m) (hl : xs.length = n) : ∀ r ∈ xs, 0 ≤ r := by
  intro r hr
  obtain ⟨j, hj, e⟩ := List.getElem_of_mem hr
  have := (h j (by omega)).1
  simp only [List.getD_eq_getElem?_getD, List.getElem?_eq_getElem hj, Option.getD_some, e] at this
  exact this
theorem Ix.below {xs : List Int} {n m : Nat} (h : Ix xs n m) (hl : xs.length = n) : ∀ r ∈ xs, r.toNat < m := by
  intro r hr
  obtain ⟨j, hj, e⟩ := List.getElem_of_mem hr
  have := h j (by omega)
  simp only [List.getD_eq_getElem?_getD, List.getElem?_eq_getElem hj, Option.getD_some, e] at this
  omega

#print axioms Fil.put
end Go.Proofs.Qxb6605708a
