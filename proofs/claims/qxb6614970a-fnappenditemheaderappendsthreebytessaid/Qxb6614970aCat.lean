/-
  The contract of concatBytes (11).
-/
import Derived.Test.Qxb6614970aRd
namespace Go.Proofs.Qxb6614970a
open Go.RowKit
set_option linter.unusedVariables false

theorem Fil.app {L : List Value} {xs ys : List Int} {n k : Nat} (h : Fil L (xs ++ ys) (n + k)) (hx : xs.length = n) (hk : n + k < L.length) : Fil (L.set (n + k) (.int .u8 (ys[k]?.getD 0))) (xs ++ ys) (n + (k + 1)) := by
  have e : ys[k]?.getD 0 = (xs ++ ys)[n + k]?.getD 0 := by rw [List.getElem?_append_right (by omega), hx]; simp
  rw [e]
  exact h.step hk

theorem Fil.more {L : List Value} {xs ys : List Int} {n : Nat} (h : Fil L xs n) (hx : xs.length = n) : Fil L (xs ++ ys) (n + 0) := by
  intro j hj
  rw [h j (by omega)]
  simp only [List.getD_eq_getElem?_getD]
  rw [List.getElem?_append_left (by omega)]

set_option maxHeartbeats 2000000 in
set_option maxRecDepth 100000 in
theorem concat_any (a1 : Option Addr) (n1 c1 b2 o2 n2 c2 : Nat) (xs ys : List Int) (w : World) (hx : Rd w a1 n1 xs) (hy : Rd w (some ⟨b2, o2, none⟩) n2 ys) (h2 : 0 < n2) (l : n1 + n2 ≤ 140737488355328) :
    Calls Try.prog 11 #[.slice a1 n1 c1, .slice (some ⟨b2, o2, none⟩) n2 c2] w fun e w' => ∃ g, e = .returned (.slice (some ⟨g, 0, none⟩) (n1 + n2) (n1 + n2)) ∧ Rd w' (some ⟨g, 0, none⟩) (n1 + n2) (xs ++ ys) ∧ Below w.heap.size w w' := by
  obtain ⟨i0, hi, hz0, hz1, hz2⟩ := info_parts info5
  have HX : Hid (xs.length = n1) := hx.len
  have HY : Hid (ys.length = n2) := hy.len
  obtain ⟨b2', o2', e2, cy⟩ := hy.cells h2
  cases e2
  clear hy
  have hbl2 : b2 < w.heap.size := World.block_lt_of_cell? w _ (cy 0 h2)
  have hxc : n1 < 1 ∨ ∃ b1 o1, a1 = some ⟨b1, o1, none⟩ ∧ b1 < w.heap.size ∧ ∀ j, j < n1 → w.cell? ⟨b1, o1 + j, none⟩ = some (.int .u8 (xs.getD j 0)) := by
    by_cases h0 : 0 < n1
    · obtain ⟨b, o, e, hc⟩ := hx.cells h0
      exact .inr ⟨b, o, e, World.block_lt_of_cell? w _ (hc 0 h0), hc⟩
    · exact .inl (by omega)
  clear hx
  have ec : ((n1 + n2 : Nat) : Int) = (n1 : Int) + (n2 : Int) := by omega
  have EC : Hid (((n1 + n2 : Nat) : Int) = (n1 : Int) + (n2 : Int)) := ec
  clear ec
  rcases hxc with h0 | ⟨b1, o1, rfl, hbl1, cx⟩
  all_goals
    go_enter Try.func11, Try.ntmps11
    go_wp2_with (at_make; refine wpList_make_full _ rfl (.tmp 12) (.tmp 12) 22 rfl w.heap.size 5 i0 (.int .u8 0) 1 Try.underlying22 hi hz0 hz1 .i64 .i64 _ _ (n1 + n2) rfl rfl EC.out.symm EC.out.symm (by rw [hz2]; omega) (by unfold maxLen; omega) (Nat.le_refl _) ?_)
    intro w1 hown1 hgrow1
    have hb1 : Below w.heap.size w w1 := (Below.refl _ w).grown hgrow1 (Nat.le_refl _) (fun k hk => by cases hk)
    clear hgrow1
    go_wp2
    go_loopw [6] (fun i wr => ∃ k : Nat, k ≤ n1 ∧ i = .int .i64 k ∧ (∃ L, wr.ownsRow w.heap.size 5 1 (.slice (some ⟨w.heap.size, 0, none⟩) (n1 + n2) (n1 + n2)) (n1 + n2) L ∧ Fil L xs k) ∧ Below w.heap.size w wr) (fun i _ => n1 - (intOf i).toNat)
    case atStart => exact ⟨0, by omega, rfl, ⟨_, hown1, fun j hj => absurd hj (by omega)⟩, hb1⟩
    case round =>
      obtain ⟨k, hk, rfl, ⟨L, hown, hf⟩, hb⟩ := hrel
      clear hown1 hb1
      have HL : Hid (L.length = n1 + n2) := by have := hown.1; show _ = _; omega
      by_cases h1 : k < n1
      · first
        | (exfalso; omega)
        | (have gx := (hb.cell (p := ⟨b1, o1 + k, none⟩) hbl1).trans (cx k h1)
           obtain ⟨u, hu⟩ : ∃ u, wr.cell? ⟨w.heap.size, k, none⟩ = some u := ⟨_, by rw [hown.cellAt k (by omega), List.getElem?_eq_getElem (by rw [HL.out]; omega)]⟩
           have gf := hown.frozenAt k
           go_wp2
           go_roundw
           case rel => exact ⟨k + 1, by omega, by go_num, ⟨_, (hown.stored k _).1, hf.step (by rw [HL.out]; omega)⟩, hb.setCell (Nat.le_refl _) _⟩
           case measure => simp [intOf]; omega)
      · have hkn : k = n1 := by omega
        have hf2 : Fil L (xs ++ ys) (n1 + 0) := by subst hkn; exact hf.more HX
        clear hf hkn
        go_wp2
        go_loopw [7] (fun i wr => ∃ k : Nat, k ≤ n2 ∧ i = .int .i64 k ∧ (∃ L, wr.ownsRow w.heap.size 5 1 (.slice (some ⟨w.heap.size, 0, none⟩) (n1 + n2) (n1 + n2)) (n1 + n2) L ∧ Fil L (xs ++ ys) (n1 + k)) ∧ Below w.heap.size w wr) (fun i _ => n2 - (intOf i).toNat)
        case atStart => exact ⟨0, by omega, rfl, ⟨_, hown, hf2⟩, hb⟩
        case round =>
          clear hown hf2 hb HL
          rename_i wr0
          obtain ⟨m, hm, rfl, ⟨L, hown, hf⟩, hb⟩ := hrel
          have HL : Hid (L.length = n1 + n2) := by have := hown.1; show _ = _; omega
          by_cases h3 : m < n2
          · have gy := (hb.cell (p := ⟨b2, o2 + m, none⟩) hbl2).trans (cy m h3)
            obtain ⟨u, hu⟩ : ∃ u, wr.cell? ⟨w.heap.size, n1 + m, none⟩ = some u := ⟨_, by rw [hown.cellAt (n1 + m) (by omega), List.getElem?_eq_getElem (by rw [HL.out]; omega)]⟩
            have gf := hown.frozenAt (n1 + m)
            go_wp2
            go_roundw
            case rel => exact ⟨m + 1, by omega, by go_num, ⟨_, (hown.stored (n1 + m) _).1, hf.app HX (by rw [HL.out]; omega)⟩, hb.setCell (Nat.le_refl _) _⟩
            case measure => simp [intOf]; omega
          · have hmn : m = n2 := by omega
            have hr := Fil.rd hown (by rw [← hmn]; exact hf) (by rw [List.length_append, HX.out, HY.out])
            clear hf hmn hown
            go_wp2
            go_ret
            exact ⟨_, rfl, hr, hb⟩

#print axioms concat_any
end Go.Proofs.Qxb6614970a
