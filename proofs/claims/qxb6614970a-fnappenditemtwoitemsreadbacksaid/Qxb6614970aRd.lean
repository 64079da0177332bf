/-
  How a slice of bytes reads ('Rd'); the contracts of cloneBytes (8), equalBytes (10).
-/
import Derived.Test.Qxb6614970aHdr
import Derived.Test.Qxb6614970aCmp
import Derived.WalkSpells
namespace Go.Proofs.Qxb6614970a
open Go.RowKit
set_option linter.unusedVariables false

/-- The slice at ao, of n elements, reads as the numbers xs. -/
structure Rd (w : World) (ao : Option Addr) (n : Nat) (xs : List Int) : Prop where
  len : xs.length = n
  nil : ao = none → n = 0
  cells : 0 < n → ∃ b o, ao = some ⟨b, o, none⟩ ∧ ∀ j, j < n → w.cell? ⟨b, o + j, none⟩ = some (.int .u8 (xs.getD j 0))

theorem Rd.kept {w w' : World} {ao : Option Addr} {n : Nat} {xs : List Int} (h : Rd w ao n xs) (hb : Below w.heap.size w w') : Rd w' ao n xs :=
  ⟨h.len, h.nil, fun hn => by
    obtain ⟨b, o, e, hc⟩ := h.cells hn
    exact ⟨b, o, e, fun j hj => cell_kept hb (hc j hj)⟩⟩

theorem Rd.holds {w : World} {ao : Option Addr} {n : Nat} {xs : List Int} (h : Rd w ao n xs) : ∀ b, ao = some b → ∀ j, j < n → w.cell? (b.add j) = some (.int .u8 (xs.getD j 0)) := by
  intro a ha j hj
  obtain ⟨b, o, e, hc⟩ := h.cells (by omega)
  rw [ha] at e
  cases e
  have hadd : (⟨b, o, none⟩ : Addr).add j = ⟨b, o + j, none⟩ := by unfold Addr.add; split <;> simp_all
  rw [hadd]; exact hc j hj

theorem Rd.owned {w : World} {B g n c : Nat} {zs : List Int} (h : w.ownsRow B 5 1 (.slice (some ⟨g, 0, none⟩) n c) n (u8s zs)) : Rd w (some ⟨g, 0, none⟩) n zs :=
  ⟨by have := h.1; rw [u8s_len] at this; omega, (fun e => by cases e), fun _ => ⟨g, 0, rfl, owns_cells h⟩⟩

theorem Rd.nilRow (w : World) : Rd w none 0 [] := ⟨rfl, fun _ => rfl, fun h => absurd h (Nat.lt_irrefl 0)⟩

/-- Of a row that the call fills: the cells up to k hold xs. -/
def Fil (L : List Value) (xs : List Int) (k : Nat) : Prop := ∀ j, j < k → L[j]? = some (.int .u8 (xs.getD j 0))

theorem Fil.step {L : List Value} {xs : List Int} {k : Nat} (h : Fil L xs k) (hk : k < L.length) : Fil (L.set k (.int .u8 (xs[k]?.getD 0))) xs (k + 1) := by
  intro j hj
  by_cases e : j = k
  · subst e; simp [hk]
  · rw [List.getElem?_set_ne (by omega)]; exact h j (by omega)

theorem Fil.rd {w : World} {B g n c : Nat} {L : List Value} {xs : List Int} (h : w.ownsRow B 5 1 (.slice (some ⟨g, 0, none⟩) n c) n L) (hf : Fil L xs n) (hl : xs.length = n) : Rd w (some ⟨g, 0, none⟩) n xs :=
  ⟨hl, (fun e => by cases e), fun _ => ⟨g, 0, rfl, fun j hj => by rw [Nat.zero_add, h.cellAt j (by omega)]; exact hf j hj⟩⟩

set_option maxHeartbeats 1000000 in
set_option maxRecDepth 100000 in
theorem clone_some (a : Addr) (n c : Nat) (xs : List Int) (w : World) (hr : Rd w (some a) n xs) (hlim : n ≤ 140737488355328) :
    Calls Try.prog 8 #[.slice (some a) n c] w fun e w' => ∃ g, e = .returned (.slice (some ⟨g, 0, none⟩) n n) ∧ Rd w' (some ⟨g, 0, none⟩) n xs ∧ w.heap.size ≤ g ∧ Below w.heap.size w w' := by
  obtain ⟨i0, hi, hz0, hz1, hz2⟩ := info_parts info5
  have hxl : Hid (xs.length = n) := hr.len
  have q22 : ∀ (w : World) (a : Option Addr) (n c n' c' : Nat), (binOp .eql 22 (.slice a n c) (.slice none n' c')).run Try.prog w = .ok (.bool a.isNone) w := fun w a n c n' c' => Lib.run_eql_slice_nil w _ _ a n c n' c' Try.underlying22
  by_cases hn : 0 < n
  · obtain ⟨b, o, e, hc⟩ := hr.cells hn
    cases e
    clear hr
    have hbl : b < w.heap.size := World.block_lt_of_cell? w _ (hc 0 hn)
    go_enter Try.func8, Try.ntmps8
    go_wp2_with (at_make; refine wpList_make_full _ rfl (.tmp 8) (.tmp 8) 22 rfl w.heap.size 5 i0 (.int .u8 0) 1 Try.underlying22 hi hz0 hz1 .i64 .i64 _ _ n rfl rfl rfl rfl (by rw [hz2]; omega) (by unfold maxLen; omega) (Nat.le_refl _) ?_)
    intro w1 hown1 hgrow1
    have hb1 : Below w.heap.size w w1 := (Below.refl _ w).grown hgrow1 (Nat.le_refl _) (fun k hk => by cases hk)
    clear hgrow1 q22
    go_wp2
    go_loopw [4] (fun i wr => ∃ k : Nat, k ≤ n ∧ i = .int .i64 k ∧ (∃ L, wr.ownsRow w.heap.size 5 1 (.slice (some ⟨w.heap.size, 0, none⟩) n n) n L ∧ Fil L xs k) ∧ Below w.heap.size w wr) (fun i _ => n - (intOf i).toNat)
    case atStart => exact ⟨0, by omega, rfl, ⟨_, hown1, fun j hj => absurd hj (by omega)⟩, hb1⟩
    case round =>
      obtain ⟨k, hk, rfl, ⟨L, hown, hf⟩, hb⟩ := hrel
      clear hown1 hb1
      have hLl : L.length = n := by have := hown.1; omega
      have HL : Hid (L.length = n) := hLl
      clear hLl
      by_cases h1 : k < n
      · have gx := (hb.cell (p := ⟨b, o + k, none⟩) hbl).trans (hc k h1)
        obtain ⟨u, hu⟩ : ∃ u, wr.cell? ⟨w.heap.size, k, none⟩ = some u := ⟨_, by rw [hown.cellAt k (by omega), List.getElem?_eq_getElem (by rw [HL.out]; exact h1)]⟩
        have gf := hown.frozenAt k
        go_wp2
        go_roundw
        case rel => exact ⟨k + 1, by omega, by go_num, ⟨_, (hown.stored k _).1, hf.step (by rw [HL.out]; exact h1)⟩, hb.setCell (Nat.le_refl _) _⟩
        case measure => simp [intOf]; omega
      · have hkn : k = n := by omega
        subst hkn
        go_wp2
        go_ret
        exact ⟨_, rfl, Fil.rd hown hf hxl, Nat.le_refl _, hb⟩
  · have h0 : n = 0 := by omega
    subst h0
    clear hn hr
    go_enter Try.func8, Try.ntmps8
    go_wp2_with (at_make; refine wpList_make_full _ rfl (.tmp 8) (.tmp 8) 22 rfl w.heap.size 5 i0 (.int .u8 0) 1 Try.underlying22 hi hz0 hz1 .i64 .i64 _ _ 0 rfl rfl rfl rfl (by rw [hz2]; omega) (by unfold maxLen; omega) (Nat.le_refl _) ?_)
    intro w1 hown1 hgrow1
    have hb1 : Below w.heap.size w w1 := (Below.refl _ w).grown hgrow1 (Nat.le_refl _) (fun k hk => by cases hk)
    clear hgrow1 q22
    go_wp2
    refine wp_loop_rounds 1 ?_
    rw [rounds_succ]
    go_wp2
    go_ret
    exact ⟨_, rfl, ⟨hxl, (fun e => by cases e), fun h => absurd h (Nat.lt_irrefl 0)⟩, Nat.le_refl _, hb1⟩

set_option maxHeartbeats 1000000 in
set_option maxRecDepth 100000 in
theorem clone_nil (w : World) : Calls Try.prog 8 #[.slice none 0 0] w fun e w' => e = .returned (.slice none 0 0) ∧ Below w.heap.size w w' := by
  have q22 : ∀ (w : World) (a : Option Addr) (n c n' c' : Nat), (binOp .eql 22 (.slice a n c) (.slice none n' c')).run Try.prog w = .ok (.bool a.isNone) w := fun w a n c n' c' => Lib.run_eql_slice_nil w _ _ a n c n' c' Try.underlying22
  go_enter Try.func8, Try.ntmps8
  go_wp2
  go_ret
  exact ⟨rfl, Below.refl _ _⟩

/-- cloneBytes: what comes back reads as what went in; it has no room left. -/
theorem clone_any (ao : Option Addr) (n c : Nat) (xs : List Int) (w : World) (hr : Rd w ao n xs) (hnone : ao = none → c = 0) (hlim : n ≤ 140737488355328) :
    Calls Try.prog 8 #[.slice ao n c] w fun e w' => ∃ ao', e = .returned (.slice ao' n n) ∧ Rd w' ao' n xs ∧ Below w.heap.size w w' := by
  cases ao with
  | none =>
    have h0 := hr.nil rfl
    have h1 := hnone rfl
    subst h0 h1
    exact (clone_nil w).mono fun e w' ⟨he, hb⟩ => ⟨none, he, hr.kept hb, hb⟩
  | some a => exact (clone_some a n c xs w hr hlim).mono fun e w' ⟨g, he, hr', _, hb⟩ => ⟨_, he, hr', hb⟩

/-! ### equalBytes -/
theorem drop_ne (xs ys : List Int) (k : Nat) (hx : k < xs.length) (hy : k < ys.length) (h : (xs[k]?.getD 0 != ys[k]?.getD 0) = true) : xs ≠ ys := by
  rintro rfl
  simp at h

theorem drop_eq (xs ys : List Int) (k : Nat) (hx : k < xs.length) (hy : k < ys.length) (h : (xs[k]?.getD 0 != ys[k]?.getD 0) = false) (ht : xs.take k = ys.take k) : xs.take (k + 1) = ys.take (k + 1) := by
  rw [List.take_add_one, List.take_add_one, ht]
  simp only [bne_eq_false_iff_eq] at h
  rw [List.getElem?_eq_getElem hx, List.getElem?_eq_getElem hy] at h ⊢
  simp only [Option.getD_some] at h
  rw [h]

theorem ret_bool {a b : Bool} (h : a = b) : Ending.returned (.bool a) = .returned (.bool b) := by rw [h]

set_option maxHeartbeats 1000000 in
set_option maxRecDepth 100000 in
theorem equal_at (b1 o1 n c1 b2 o2 c2 : Nat) (xs ys : List Int) (w : World) (hx : xs.length = n) (hy : ys.length = n) (l1 : n ≤ 140737488355328)
    (cx : ∀ j, j < n → w.cell? ⟨b1, o1 + j, none⟩ = some (.int .u8 (xs.getD j 0))) (cy : ∀ j, j < n → w.cell? ⟨b2, o2 + j, none⟩ = some (.int .u8 (ys.getD j 0))) :
    Calls Try.prog 10 #[.slice (some ⟨b1, o1, none⟩) n c1, .slice (some ⟨b2, o2, none⟩) n c2] w fun e w' => e = .returned (.bool (decide (xs = ys))) ∧ Below w.heap.size w w' := by
  have HX : Hid (xs.length = n) := hx
  have HY : Hid (ys.length = n) := hy
  clear hx hy
  go_enter Try.func10, Try.ntmps10
  go_wp2
  go_loopw [5] (fun i wr => ∃ k : Nat, k ≤ n ∧ i = .int .i64 k ∧ Hid (xs.take k = ys.take k) ∧ Below w.heap.size w wr) (fun i _ => n - (intOf i).toNat)
  case atStart => exact ⟨0, by omega, rfl, (show _ = _ by simp), Below.refl _ _⟩
  case round =>
    obtain ⟨k, hk, rfl, hc, hb⟩ := hrel
    by_cases h1 : k < n
    · have gx := cell_kept hb (cx k h1)
      have gy := cell_kept hb (cy k h1)
      go_wp2
      go_region
      all_goals go_wp2
      · have hne : (xs[k]?.getD 0 != ys[k]?.getD 0) = true := by assumption
        go_ret
        exact ⟨ret_bool (decide_eq_false (drop_ne xs ys k (by rw [HX.out]; exact h1) (by rw [HY.out]; exact h1) hne)).symm, hb.drew⟩
      · have hne : (xs[k]?.getD 0 != ys[k]?.getD 0) = false := by assumption
        go_roundw
        case rel => exact ⟨k + 1, by omega, by go_num, drop_eq xs ys k (by rw [HX.out]; exact h1) (by rw [HY.out]; exact h1) hne hc, hb.drew⟩
        case measure => simp [intOf]; omega
    · have hkn : k = n := by omega
      have hf : xs = ys := by
        have := hc.out
        rw [List.take_of_length_le (by rw [HX.out]; omega), List.take_of_length_le (by rw [HY.out]; omega)] at this
        exact this
      have HF : Hid (xs = ys) := hf
      clear hf hkn
      go_wp2
      go_ret
      exact ⟨ret_bool (decide_eq_true HF.out).symm, hb⟩

set_option maxHeartbeats 1000000 in
set_option maxRecDepth 100000 in
theorem equal_zero (a1 a2 : Option Addr) (c1 c2 : Nat) (w : World) :
    Calls Try.prog 10 #[.slice a1 0 c1, .slice a2 0 c2] w fun e w' => e = .returned (.bool true) ∧ Below w.heap.size w w' := by
  go_enter Try.func10, Try.ntmps10
  go_wp2
  refine wp_loop_rounds 1 ?_
  rw [rounds_succ]
  go_wp2
  go_ret
  exact ⟨rfl, Below.refl _ _⟩

set_option maxHeartbeats 1000000 in
set_option maxRecDepth 100000 in
theorem equal_len (a1 a2 : Option Addr) (n1 c1 n2 c2 : Nat) (hne : ((n1 : Int) != (n2 : Int)) = true) (w : World) :
    Calls Try.prog 10 #[.slice a1 n1 c1, .slice a2 n2 c2] w fun e w' => e = .returned (.bool false) ∧ Below w.heap.size w w' := by
  go_enter Try.func10, Try.ntmps10
  go_wp2
  go_ret
  exact ⟨rfl, Below.refl _ _⟩

/-- equalBytes: are the two read alike? -/
theorem equal_any (a1 a2 : Option Addr) (n1 c1 n2 c2 : Nat) (xs ys : List Int) (w : World) (hx : Rd w a1 n1 xs) (hy : Rd w a2 n2 ys) (l1 : n1 ≤ 140737488355328) :
    Calls Try.prog 10 #[.slice a1 n1 c1, .slice a2 n2 c2] w fun e w' => e = .returned (.bool (decide (xs = ys))) ∧ Below w.heap.size w w' := by
  by_cases h : n1 = n2
  · subst h
    by_cases h0 : 0 < n1
    · obtain ⟨b1, o1, rfl, cx⟩ := hx.cells h0
      obtain ⟨b2, o2, rfl, cy⟩ := hy.cells h0
      exact equal_at b1 o1 n1 c1 b2 o2 c2 xs ys w hx.len hy.len l1 cx cy
    · have e0 : n1 = 0 := by omega
      subst e0
      have ex : xs = [] := List.eq_nil_of_length_eq_zero hx.len
      have ey : ys = [] := List.eq_nil_of_length_eq_zero hy.len
      subst ex ey
      exact equal_zero a1 a2 c1 c2 w
  · have hne : xs ≠ ys := fun e => h (by rw [← hx.len, ← hy.len, e])
    rw [decide_eq_false hne]
    exact equal_len a1 a2 n1 c1 n2 c2 (by simp; omega) w

#print axioms clone_any
#print axioms equal_any
end Go.Proofs.Qxb6614970a
