/-
  The walk of FnAppendItemSelfDelimiting (6).
-/
import Derived.Test.Qxb6614970aW6a
namespace Go.Proofs.Qxb6614970a.fnAppendItemSelfDelimiting
open Go.RowKit
set_option linter.unusedVariables false

set_option maxHeartbeats 1000000 in
set_option maxRecDepth 100000 in
theorem walk_sn (a1 : Addr) (n1 c1 : Nat) (xs : List Int) (t1 t2 : Int) (w : World) (hx : Rd w (some a1) n1 xs) (h1 : n1 ≤ 65535) :
    Calls Try.prog 6 #[.int .u8 t1, .slice (some a1) n1 c1, .int .u8 t2, .slice none 0 0] w fun e w' => e = .returned (.bool true) ∧ Below w.heap.size w w' := by
  obtain ⟨i0, hi, hz0, hz1, hz2⟩ := info_parts info5
  have q22 : ∀ (w : World) (a : Option Addr) (n c n' c' : Nat), (binOp .neq 22 (.slice a n c) (.slice none n' c')).run Try.prog w = .ok (.bool (!a.isNone)) w := fun w a n c n' c' => run_neq_slice_nil_any w _ _ a n c n' c' Try.underlying22
  go_enter Try.func6, Try.ntmps6
  go_wp2_with fail
  refine (zz_yes (some a1) none n1 c1 0 0 t1 t2 h1 (by omega) w).mono ?_
  rintro e w1 ⟨rfl, hbw⟩
  have rx := hx.kept hbw
  clear hx
  have ry := Rd.nilRow w1
  go_wp2_with (at_make; refine wpList_make_full _ rfl (.tmp 31) (.tmp 31) 22 rfl w1.heap.size 5 i0 (.int .u8 0) 1 Try.underlying22 hi hz0 hz1 .i64 .i64 _ _ n1 rfl rfl rfl rfl (by rw [hz2]; omega) (by unfold maxLen; omega) (Nat.le_refl _) ?_)
  intro w2 hown hgrow
  have hbm : Below w1.heap.size w1 w2 := (Below.refl _ w1).grown hgrow (Nat.le_refl _) (fun k hk => by cases hk)
  obtain ⟨cur, hg, hcl, hBg⟩ := madeRow (c := n1) hown
  have HG : Hid (w2.heap[w1.heap.size]? = some (.cells cur.toArray 5 (0, 0))) := hg
  have HCL : Hid (cur.length = n1) := hcl
  have HXL : Hid (xs.length = n1) := rx.len
  have hcc := (rx.kept hbm).holds a1 rfl
  clear hgrow hown hg hcl
  go_wp2_with (refine wpList_copy_splice rfl (.tmp 33) (.tmp 34) 22 22 rfl 5 Try.underlying22 (by rw [hi]; simp [hz1]) _ _ _ _ _ _ rfl rfl w1.heap.size 0 cur 5 HG.out (u8s xs) ?ca0 ?ca1 ?ca2 (u8s_one xs) w1.heap.size w1 hbm hBg ?_)
  case ca0 => rw [u8s_len, HXL.out]; exact (Nat.min_self n1).symm
  case ca1 =>
    intro hp
    intro j u hu
    have hj : j < xs.length := by have := (List.getElem?_eq_some_iff.1 hu).1; rw [u8s_len] at this; exact this
    rw [u8s_at xs j hj] at hu
    rw [← hu]
    exact hcc j (by rw [← HXL.out]; exact hj)
  case ca2 => rw [u8s_len, HXL.out, HCL.out]; omega
  intro w3 HR hbc
  have hrow : w3.heap[w1.heap.size]? = some (.cells (u8s xs).toArray 5 (0, 0)) := by
    have h := HR.out
    rw [splice_full cur (u8s xs) (by rw [HCL.out, u8s_len, HXL.out])] at h
    exact h
  have rn := Rd.row (n := n1) hrow HXL.out
  have ro := ry.kept hbc
  have hbn : Below w.heap.size w w3 := hbw.trans (hbc.mono hbw.size)
  clear HR hbc hrow HG HCL HXL hcc hbm hBg rx ry hbw
  have rx := rn
  have ry := ro
  have hbw := hbn
  clear rn ro hbn
  go_wp2_with fail
  clear q22
  refine (zitem_nil (3 + n1) t1 (some ⟨w1.heap.size, 0, none⟩) n1 n1 xs w3 rfl rx (fun e => by cases e) (by omega)).mono ?_
  rintro e w6 ⟨g6, c6, rfl, hown6, hle6, hb6⟩
  have e1 := Rd.owned hown6
  have rx6 := rx.kept hb6
  have ry6 := ry.kept hb6
  have hw6 : Below w.heap.size w w6 := hbw.trans (hb6.mono hbw.size)
  clear rx ry hown6 hb6 hbw
  go_wp2_with fail
  refine (zitem_nil 3 t2 none 0 0 [] w6 rfl ry6 (fun _ => rfl) (by omega)).mono ?_
  rintro e w7 ⟨g7, c7, rfl, hown7, hle7, hb7⟩
  have f1 := e1.kept hb7
  have f2 := Rd.owned hown7
  have rx7 := rx6.kept hb7
  have ry7 := ry6.kept hb7
  have hw7 : Below w.heap.size w w7 := hw6.trans (hb7.mono hw6.size)
  clear rx6 ry6 e1 hown7 hb7 hw6
  have hlx : Hid (xs.length = n1) := rx7.len
  have hly : Hid ([].length = 0) := ry7.len
  go_wp2_with fail
  all_goals
    refine (equal_any _ _ n1 _ n1 _ xs xs w7 (by first | exact tail_three (n := n1) f1 | exact tail_none (n := n1) f1 (by omega)) rx7 (by omega)).mono ?_
    rw [decide_eq_true rfl]
    rintro e w8 ⟨rfl, hb8⟩
    have f18 := f1.kept hb8
    have f28 := f2.kept hb8
    have rx8 := rx7.kept hb8
    have ry8 := ry7.kept hb8
    have hw8 : Below w.heap.size w w8 := hw7.trans (hb8.mono hw7.size)
    clear hb8
    go_wp2_with fail
  all_goals
    refine (equal_any _ _ 0 _ 0 _ [] [] w8 (by first | exact tail_three (n := 0) f28 | exact tail_none (n := 0) f28 (by omega)) ry8 (by omega)).mono ?_
    rw [decide_eq_true rfl]
    rintro e w9 ⟨rfl, hb9⟩
    have f19 := f18.kept hb9
    have f29 := f28.kept hb9
    have rx9 := rx8.kept hb9
    have ry9 := ry8.kept hb9
    have hw9 : Below w.heap.size w w9 := hw8.trans (hb9.mono hw8.size)
    clear hb9 f1 f2 rx7 ry7 hw7 f18 f28 rx8 ry8 hw8
  all_goals
    by_cases ht : t1 = t2
    · subst ht
      have heq := equal_any _ _ n1 n1 0 0 xs [] w9 rx9 ry9 (by omega)
      go_wp2_with fail
      refine heq.mono ?_
      rintro e w10 ⟨rfl, hb10⟩
      have f110 := f19.kept hb10
      have f210 := f29.kept hb10
      have hw10 : Below w.heap.size w w10 := hw9.trans (hb10.mono hw9.size)
      have hp1 : ∀ ca cb, Calls Try.prog 17 #[.slice (some ⟨g7, 0, none⟩) 3 ca, .slice (some ⟨g6, 0, none⟩) (3 + n1) cb] w10 fun e w' => e = .returned (.bool (decide (xs = []))) ∧ Below w10.heap.size w10 w' := fun ca cb =>
        (prefix_any _ _ 3 ca (3 + n1) cb _ _ w10 f210 f110 (by omega) (by omega) (by omega)).mono fun e w' h => ⟨h.1.trans (ret_bool (pre_dec t1 n1 0 xs [] hlx.out hly.out)), h.2⟩
      have hp2 : ∀ w11, Below w10.heap.size w10 w11 → ∀ ca cb, Calls Try.prog 17 #[.slice (some ⟨g6, 0, none⟩) (3 + n1) cb, .slice (some ⟨g7, 0, none⟩) 3 ca] w11 fun e w' => e = .returned (.bool (decide (xs = []))) ∧ Below w11.heap.size w11 w' := fun w11 hb11 ca cb =>
        (prefix_any _ _ (3 + n1) cb 3 ca _ _ w11 (f110.kept hb11) (f210.kept hb11) (by omega) (by omega) (by omega)).mono fun e w' h => ⟨h.1.trans (ret_bool (pre_dec' t1 n1 0 xs [] hlx.out hly.out)), h.2⟩
      clear rx9 ry9 f19 f29 hb10 hw9 heq f110 f210
      go_wp2_with fail
      refine (hp1 _ _).mono ?_
      rintro e w11 ⟨rfl, hb11⟩
      have hw11 : Below w.heap.size w w11 := hw10.trans (hb11.mono hw10.size)
      have hp3 := hp2 w11 hb11
      clear hb11 hw10 hp1 hp2
      go_wp2_with fail
      refine (hp3 _ _).mono ?_
      rintro e w12 ⟨rfl, hb12⟩
      go_wp2
      go_ret
      exact ⟨rfl, hw11.trans (hb12.mono hw11.size)⟩
    · have htb : (t1 == t2) = false := by simp [ht]
      have hp1 : ∀ ca cb, Calls Try.prog 17 #[.slice (some ⟨g7, 0, none⟩) 3 ca, .slice (some ⟨g6, 0, none⟩) (3 + n1) cb] w9 fun e w' => e = .returned (.bool false) ∧ Below w9.heap.size w9 w' := fun ca cb =>
        (prefix_any _ _ 3 ca (3 + n1) cb _ _ w9 f29 f19 (by omega) (by omega) (by omega)).mono fun e w' h => ⟨h.1.trans (ret_bool (pre_no t1 t2 n1 0 xs [] hlx.out hly.out ht)), h.2⟩
      have hp2 : ∀ w11, Below w9.heap.size w9 w11 → ∀ ca cb, Calls Try.prog 17 #[.slice (some ⟨g6, 0, none⟩) (3 + n1) cb, .slice (some ⟨g7, 0, none⟩) 3 ca] w11 fun e w' => e = .returned (.bool false) ∧ Below w11.heap.size w11 w' := fun w11 hb11 ca cb =>
        (prefix_any _ _ (3 + n1) cb 3 ca _ _ w11 (f19.kept hb11) (f29.kept hb11) (by omega) (by omega) (by omega)).mono fun e w' h => ⟨h.1.trans (ret_bool (pre_no t2 t1 0 n1 [] xs hly.out hlx.out (fun q => ht q.symm))), h.2⟩
      clear ht rx9 ry9 f19 f29
      go_wp2_with fail
      refine (hp1 _ _).mono ?_
      rintro e w11 ⟨rfl, hb11⟩
      have hw11 : Below w.heap.size w w11 := hw9.trans (hb11.mono hw9.size)
      have hp3 := hp2 w11 hb11
      clear hb11 hw9 hp1 hp2
      go_wp2_with fail
      refine (hp3 _ _).mono ?_
      rintro e w12 ⟨rfl, hb12⟩
      go_wp2
      go_ret
      exact ⟨rfl, hw11.trans (hb12.mono hw11.size)⟩

#print axioms walk_sn
end Go.Proofs.Qxb6614970a.fnAppendItemSelfDelimiting
