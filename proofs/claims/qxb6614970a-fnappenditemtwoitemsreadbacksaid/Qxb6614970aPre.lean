/-
  The contract of hasPrefixBytes (17).
-/
import Derived.Test.Qxb6614970aRd
namespace Go.Proofs.Qxb6614970a
open Go.RowKit
set_option linter.unusedVariables false

theorem take_ne (xs ys : List Int) (k n : Nat) (hk : k < n) (hx : k < xs.length) (hy : k < ys.length) (h : (xs[k]?.getD 0 != ys[k]?.getD 0) = true) : xs.take n ≠ ys := by
  intro e
  have h1 : (xs.take n)[k]? = ys[k]? := by rw [e]
  rw [List.getElem?_take, if_pos hk] at h1
  rw [h1] at h
  simp at h

set_option maxHeartbeats 1000000 in
set_option maxRecDepth 100000 in
theorem prefix_at (b1 o1 n1 c1 b2 o2 n2 c2 : Nat) (xs ys : List Int) (w : World) (hx : xs.length = n1) (hy : ys.length = n2) (hle : n2 ≤ n1) (l1 : n1 ≤ 140737488355328)
    (cx : ∀ j, j < n1 → w.cell? ⟨b1, o1 + j, none⟩ = some (.int .u8 (xs.getD j 0))) (cy : ∀ j, j < n2 → w.cell? ⟨b2, o2 + j, none⟩ = some (.int .u8 (ys.getD j 0))) :
    Calls Try.prog 17 #[.slice (some ⟨b1, o1, none⟩) n1 c1, .slice (some ⟨b2, o2, none⟩) n2 c2] w fun e w' => e = .returned (.bool (decide (xs.take n2 = ys))) ∧ Below w.heap.size w w' := by
  have HX : Hid (xs.length = n1) := hx
  have HY : Hid (ys.length = n2) := hy
  clear hx hy
  go_enter Try.func17, Try.ntmps17
  go_wp2
  go_loopw [5] (fun i wr => ∃ k : Nat, k ≤ n2 ∧ i = .int .i64 k ∧ Hid (xs.take k = ys.take k) ∧ Below w.heap.size w wr) (fun i _ => n2 - (intOf i).toNat)
  case atStart => exact ⟨0, by omega, rfl, (show _ = _ by simp), Below.refl _ _⟩
  case round =>
    obtain ⟨k, hk, rfl, hc, hb⟩ := hrel
    by_cases h1 : k < n2
    · have h2 : k < n1 := by omega
      have gx := cell_kept hb (cx k h2)
      have gy := cell_kept hb (cy k h1)
      go_wp2
      go_region
      all_goals go_wp2
      · have hne : (xs[k]?.getD 0 != ys[k]?.getD 0) = true := by assumption
        go_ret
        exact ⟨ret_bool (decide_eq_false (take_ne xs ys k n2 h1 (by rw [HX.out]; exact h2) (by rw [HY.out]; exact h1) hne)).symm, hb.drew⟩
      · have hne : (xs[k]?.getD 0 != ys[k]?.getD 0) = false := by assumption
        go_roundw
        case rel => exact ⟨k + 1, by omega, by go_num, drop_eq xs ys k (by rw [HX.out]; exact h2) (by rw [HY.out]; exact h1) hne hc, hb.drew⟩
        case measure => simp [intOf]; omega
    · have hkn : k = n2 := by omega
      have hf : xs.take n2 = ys := by
        have := hc.out
        have e2 : ys.take n2 = ys := List.take_of_length_le (by rw [HY.out]; exact Nat.le_refl _)
        rw [hkn] at this
        exact this.trans e2
      have HF : Hid (xs.take n2 = ys) := hf
      clear hf hkn
      go_wp2
      go_ret
      exact ⟨ret_bool (decide_eq_true HF.out).symm, hb⟩

/-- hasPrefixBytes(s, p), p not empty, s not shorter or shorter. -/
theorem prefix_len (a1 a2 : Option Addr) (n1 c1 n2 c2 : Nat) (h : n1 < n2) (w : World) :
    Calls Try.prog 17 #[.slice a1 n1 c1, .slice a2 n2 c2] w fun e w' => e = .returned (.bool false) ∧ Below w.heap.size w w' := by
  go_enter Try.func17, Try.ntmps17
  go_wp2
  go_ret
  exact ⟨rfl, Below.refl _ _⟩

theorem prefix_any (a1 a2 : Option Addr) (n1 c1 n2 c2 : Nat) (xs ys : List Int) (w : World) (hx : Rd w a1 n1 xs) (hy : Rd w a2 n2 ys) (l1 : n1 ≤ 140737488355328) (h1 : 0 < n1) (h2 : 0 < n2) :
    Calls Try.prog 17 #[.slice a1 n1 c1, .slice a2 n2 c2] w fun e w' => e = .returned (.bool (decide (xs.take n2 = ys))) ∧ Below w.heap.size w w' := by
  by_cases h : n1 < n2
  · have hne : xs.take n2 ≠ ys := fun e => by
      have := hy.len; rw [← e] at this; rw [List.length_take, hx.len] at this; omega
    rw [decide_eq_false hne]
    exact prefix_len a1 a2 n1 c1 n2 c2 h w
  · obtain ⟨b1, o1, rfl, cx⟩ := hx.cells h1
    obtain ⟨b2, o2, rfl, cy⟩ := hy.cells h2
    exact prefix_at b1 o1 n1 c1 b2 o2 n2 c2 xs ys w hx.len hy.len (by omega) l1 cx cy

#print axioms prefix_any
end Go.Proofs.Qxb6614970a
