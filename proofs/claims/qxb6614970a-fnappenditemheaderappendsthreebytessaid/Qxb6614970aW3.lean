/-
  The walk of FnAppendItemHeaderAppendsThreeBytes (3).
-/
import Derived.Test.Qxb6614970aRow
import Derived.Test.Qxb6614970aCat
namespace Go.Proofs.Qxb6614970a.fnAppendItemHeaderAppendsThreeBytes
open Go.RowKit
set_option linter.unusedVariables false

set_option maxHeartbeats 1000000 in
theorem zz_yes (ao : Option Addr) (n c : Nat) (t m : Int) (h : n ≤ 1048576) (w : World) :
    Calls Try.prog 7 #[.slice ao n c, .int .u8 t, .int .i64 m] w fun e w' => e = .returned (.bool true) ∧ Below w.heap.size w w' := by
  go_enter Try.func7, Try.ntmps7
  go_wp2
  go_ret
  exact ⟨rfl, Below.refl _ _⟩

set_option maxHeartbeats 2000000 in
set_option maxRecDepth 100000 in
theorem walk_in (a0 : Option Addr) (len0 cap0 : Nat) (xs : List Int) (a1 : Int) (a2 : Int) (w : World) (hr : Rd w a0 len0 xs) (hnone : a0 = none → cap0 = 0) (h1 : len0 ≤ 1048576) (h2 : 0 ≤ a2) (h3 : a2 ≤ 65535) :
    Calls Try.prog 3 #[.slice a0 len0 cap0, .int .u8 a1, .int .i64 a2] w fun e w' => e = .returned (.bool true) ∧ Below w.heap.size w w' := by
  go_enter Try.func3, Try.ntmps3
  go_wp2_with fail
  refine (zz_yes a0 len0 cap0 a1 a2 h1 w).mono ?_
  rintro e w1 ⟨rfl, hb1⟩
  go_wp2_with fail
  refine (clone_any a0 len0 cap0 xs w1 (hr.kept hb1) hnone (by omega)).mono ?_
  rintro e w2 ⟨ao2, rfl, hr2, hb2⟩
  have hw2 : Below w.heap.size w w2 := hb1.trans (hb2.mono hb1.size)
  clear hr hnone hb1 hb2
  go_wp2_with fail
  refine (clone_any ao2 len0 len0 xs w2 hr2 hr2.nil (by omega)).mono ?_
  rintro e w3 ⟨ao3, rfl, hr3, hb3⟩
  have hr2' := hr2.kept hb3
  have hw3 : Below w.heap.size w w3 := hw2.trans (hb3.mono hw2.size)
  clear hr2 hb3 hw2
  go_wp2_with fail
  refine (zhdr_grow ao2 len0 a1 a2 h2 (by omega) xs w3 hr2'.nil hr2'.len hr2'.holds (by omega)).mono ?_
  rintro e w4 ⟨g4, c4, rfl, hown4, hb4⟩
  have hr4 := Rd.owned hown4
  have hr3' := hr3.kept hb4
  have hw4 : Below w.heap.size w w4 := hw3.trans (hb4.mono hw3.size)
  clear hr2' hown4 hb4 hw3 hr3
  go_wp2_with fail
  refine (zhdr_grow none 0 a1 a2 h2 (by omega) [] w4 (fun _ => rfl) rfl (fun b hb => by cases hb) (by omega)).mono ?_
  rintro e w5 ⟨g5, c5, rfl, hown5, hb5⟩
  have hr5 := Rd.owned hown5
  have k0 := owns_cells hown5 0 (by omega)
  have k1 := owns_cells hown5 1 (by omega)
  have k2 := owns_cells hown5 2 (by omega)
  simp only [hdrZ, List.nil_append, Nat.zero_add] at hr5 k0 k1 k2
  have hr4' := hr4.kept hb5
  have hr3'' := hr3'.kept hb5
  have hw5 : Below w.heap.size w w5 := hw4.trans (hb5.mono hw4.size)
  clear hown5 hb5 hw4 hr4 hr3'
  simp at k0 k1 k2
  have m1 : IntKind.i64.wrap (a2 / 256 * 256) = a2 / 256 * 256 := by rw [IntKind.wrap_i64]; omega
  have m2 : IntKind.i64.wrap (a2 / 256 * 256 + a2 % 256) = a2 := by rw [IntKind.wrap_i64]; omega
  go_wp2_with fail
  go_region
  have hbd : Below w5.heap.size w5 w5.drew := (Below.refl _ _).drew
  have r3 := hr3''.kept hbd
  have r4 := hr4'.kept hbd
  have r5 := hr5.kept hbd
  have hw6 : Below w.heap.size w w5.drew := hw5.drew
  clear hr3'' hr4' hr5 hw5 hbd m1 m2 k0 k1 k2
  go_wp2_with fail
  refine (concat_any ao3 len0 len0 g5 0 3 c5 xs [a1, a2 / 256, a2 % 256] w5.drew r3 r5 (by omega) (by omega)).mono ?_
  rintro e w7 ⟨g7, rfl, hr7, hb7⟩
  have r4' := r4.kept hb7
  have hw7 : Below w.heap.size w w7 := hw6.trans (hb7.mono hw6.size)
  clear r3 r4 r5 hb7 hw6
  have hC := equal_any (some ⟨g4, 0, none⟩) (some ⟨g7, 0, none⟩) (len0 + 3) c4 (len0 + 3) (len0 + 3) _ _ w7 r4' hr7 (by omega)
  rw [decide_eq_true (by simp [hdrZ])] at hC
  clear r4' hr7
  go_wp2_with fail
  refine hC.mono ?_
  rintro e w8 ⟨rfl, hb8⟩
  go_wp2
  go_ret
  exact ⟨rfl, hw7.trans (hb8.mono hw7.size)⟩

theorem walk (a0 : Option Addr) (len0 cap0 : Nat) (z0 : List Int) (a1 : Int) (a2 : Int) (w : World) (w0 : IsRow .u8 w a0 len0 cap0 z0) (w1 : (Lit.int .u8 a1).wf = true) (w2 : (Lit.int .i64 a2).wf = true) :
    Calls Try.prog 3 #[.slice a0 len0 cap0, .int .u8 a1, .int .i64 a2] w fun e w' => e = .returned (.bool true) ∧ Below w.heap.size w w' := by
  by_cases g1 : 1048576 < len0
  · go_enter Try.func3, Try.ntmps3
    go_wp2
    go_ret
    exact ⟨rfl, Below.refl _ _⟩
  by_cases g2 : a2 < 0
  · go_enter Try.func3, Try.ntmps3
    go_wp2
    go_ret
    exact ⟨rfl, Below.refl _ _⟩
  by_cases g3 : 65535 < a2
  · go_enter Try.func3, Try.ntmps3
    go_wp2
    go_ret
    exact ⟨rfl, Below.refl _ _⟩
  exact walk_in a0 len0 cap0 _ a1 a2 w w0.rd (fun h => (w0.nil h).2) (by omega) (by omega) (by omega)

#print axioms walk
end Go.Proofs.Qxb6614970a.fnAppendItemHeaderAppendsThreeBytes
