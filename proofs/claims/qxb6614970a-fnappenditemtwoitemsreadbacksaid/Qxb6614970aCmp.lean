/-
  The contracts of compareBytes (12), equalBytes (10) and hasPrefixBytes (17), over this seat's translation.
-/
import Derived.Test.Qxb6614970aRows
import Derived.WalkKit
namespace Go.Proofs.Qxb6614970a
open Go.RowKit

/-! ### plain lists -/
def cmpL : List Int → List Int → Int
  | [], [] => 0
  | [], _ :: _ => -1
  | _ :: _, [] => 1
  | a :: xs, b :: ys => if a < b then -1 else if b < a then 1 else cmpL xs ys

theorem drop_cons (xs : List Int) (k : Nat) (h : k < xs.length) : xs.drop k = xs[k]?.getD 0 :: xs.drop (k + 1) := by
  rw [List.drop_eq_getElem_cons h, List.getElem?_eq_getElem h]; rfl

theorem cmp_lt (xs ys : List Int) (k : Nat) (hx : k < xs.length) (hy : k < ys.length) (h : xs[k]?.getD 0 < ys[k]?.getD 0) : cmpL (xs.drop k) (ys.drop k) = -1 := by
  rw [drop_cons xs k hx, drop_cons ys k hy, cmpL, if_pos h]
theorem cmp_gt (xs ys : List Int) (k : Nat) (hx : k < xs.length) (hy : k < ys.length) (h : ys[k]?.getD 0 < xs[k]?.getD 0) : cmpL (xs.drop k) (ys.drop k) = 1 := by
  rw [drop_cons xs k hx, drop_cons ys k hy, cmpL, if_neg (by omega), if_pos h]
theorem cmp_eq (xs ys : List Int) (k : Nat) (hx : k < xs.length) (hy : k < ys.length) (h1 : ys[k]?.getD 0 ≤ xs[k]?.getD 0) (h2 : xs[k]?.getD 0 ≤ ys[k]?.getD 0) : cmpL (xs.drop k) (ys.drop k) = cmpL (xs.drop (k + 1)) (ys.drop (k + 1)) := by
  rw [drop_cons xs k hx, drop_cons ys k hy, cmpL, if_neg (by omega), if_neg (by omega)]
theorem cmp_out (xs ys : List Int) (k : Nat) (h : xs.length ≤ k ∨ ys.length ≤ k) (hx : k ≤ xs.length) (hy : k ≤ ys.length) : cmpL (xs.drop k) (ys.drop k) = if xs.length < ys.length then -1 else if ys.length < xs.length then 1 else 0 := by
  by_cases ex : xs.length = k
  · rw [List.drop_eq_nil_of_le (by omega)]
    by_cases ey : ys.length = k
    · rw [List.drop_eq_nil_of_le (by omega), if_neg (by omega), if_neg (by omega), cmpL]
    · rw [drop_cons ys k (by omega), cmpL, if_pos (by omega)]
  · have ey : ys.length = k := by omega
    rw [show ys.drop k = [] from List.drop_eq_nil_of_le (by omega), drop_cons xs k (by omega), cmpL, if_neg (by omega), if_pos (by omega)]

/-- A cell that was there is there, where all blocks that were there stay. -/
theorem cell_kept {w w' : World} {a : Addr} {v : Value} (hb : Below w.heap.size w w') (h : w.cell? a = some v) : w'.cell? a = some v :=
  (hb.cell (World.block_lt_of_cell? w a h)).trans h

theorem ret_int {k : IntKind} {a b : Int} (h : a = b) : Ending.returned (.int k a) = .returned (.int k b) := by rw [h]

set_option maxHeartbeats 1000000 in
theorem compare_at (b1 o1 n1 c1 b2 o2 n2 c2 : Nat) (xs ys : List Int) (w : World) (hx : xs.length = n1) (hy : ys.length = n2) (l1 : n1 ≤ 140737488355328) (l2 : n2 ≤ 140737488355328)
    (cx : ∀ j, j < n1 → w.cell? ⟨b1, o1 + j, none⟩ = some (.int .u8 (xs.getD j 0))) (cy : ∀ j, j < n2 → w.cell? ⟨b2, o2 + j, none⟩ = some (.int .u8 (ys.getD j 0))) :
    Calls Try.prog 12 #[.slice (some ⟨b1, o1, none⟩) n1 c1, .slice (some ⟨b2, o2, none⟩) n2 c2] w fun e w' => e = .returned (.int .i64 (cmpL xs ys)) ∧ Below w.heap.size w w' := by
  have HX : Hid (xs.length = n1) := hx
  have HY : Hid (ys.length = n2) := hy
  clear hx hy
  go_enter Try.func12, Try.ntmps12
  go_wp2
  go_loopw [5] (fun i wr => ∃ k : Nat, k ≤ n1 ∧ k ≤ n2 ∧ i = .int .i64 k ∧ Hid (cmpL (xs.drop k) (ys.drop k) = cmpL xs ys) ∧ Below w.heap.size w wr) (fun i _ => n1 - (intOf i).toNat)
  case atStart => exact ⟨0, by omega, by omega, rfl, rfl, Below.refl _ _⟩
  case round =>
    obtain ⟨k, hk1, hk2, rfl, hc, hb⟩ := hrel
    by_cases h1 : k < n1
    · by_cases h2 : k < n2
      · have gx := cell_kept hb (cx k h1)
        have gy := cell_kept hb (cy k h2)
        go_wp2
        go_region
        all_goals go_wp2
        · have hlt : xs[k]?.getD 0 < ys[k]?.getD 0 := by assumption
          go_ret
          exact ⟨ret_int (by rw [← hc.out]; exact (cmp_lt xs ys k (by rw [HX.out]; exact h1) (by rw [HY.out]; exact h2) hlt).symm), hb.drew⟩
        · have hge : ys[k]?.getD 0 ≤ xs[k]?.getD 0 := by assumption
          go_region
          all_goals go_wp2
          · have hgt : ys[k]?.getD 0 < xs[k]?.getD 0 := by assumption
            go_ret
            exact ⟨ret_int (by rw [← hc.out]; exact (cmp_gt xs ys k (by rw [HX.out]; exact h1) (by rw [HY.out]; exact h2) hgt).symm), hb.drew.drew⟩
          · have hle : xs[k]?.getD 0 ≤ ys[k]?.getD 0 := by assumption
            go_roundw
            case rel => exact ⟨k + 1, by omega, by omega, by go_num, by rw [← cmp_eq xs ys k (by rw [HX.out]; exact h1) (by rw [HY.out]; exact h2) hge hle]; exact hc, hb.drew.drew⟩
            case measure => simp [intOf]; omega
      · have hf := cmp_out xs ys k (.inr (by rw [HY.out]; omega)) (by rw [HX.out]; omega) (by rw [HY.out]; omega)
        rw [HX.out, HY.out, if_neg (by omega), if_pos (by omega), hc.out] at hf
        have HF : Hid (cmpL xs ys = 1) := hf
        clear hf
        go_wp2
        go_ret
        exact ⟨ret_int HF.out.symm, hb⟩
    · have hf := cmp_out xs ys k (.inl (by rw [HX.out]; omega)) (by rw [HX.out]; omega) (by rw [HY.out]; omega)
      rw [HX.out, HY.out, hc.out] at hf
      have HF : Hid (cmpL xs ys = if n1 < n2 then -1 else if n2 < n1 then 1 else 0) := hf
      clear hf
      go_wp2
      · go_ret
        exact ⟨ret_int (by rw [HF.out, if_pos (by assumption)]), hb⟩
      · go_ret
        exact ⟨ret_int (by rw [HF.out, if_neg (by assumption), if_neg (by assumption)]), hb⟩

#print axioms compare_at
end Go.Proofs.Qxb6614970a
