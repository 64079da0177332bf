/-
  The walk of FnAppendItemTwoItemsReadBack (5).
-/
import Derived.Test.Qxb6614970aW5a
namespace Go.Proofs.Qxb6614970a.fnAppendItemTwoItemsReadBack
open Go.RowKit
open Go.Proofs.Qxb6614970a.fnAppendItemSelfDelimiting (madeRow splice_full Rd.row)
set_option linter.unusedVariables false

set_option maxHeartbeats 2000000 in
set_option maxRecDepth 100000 in
theorem walk_sn (a0 : Option Addr) (n0 c0 : Nat) (ds : List Int) (a1 : Addr) (n1 c1 : Nat) (xs : List Int) (t1 t2 : Int) (w : World) (hd : Rd w a0 n0 ds) (hdn : a0 = none → c0 = 0) (hx : Rd w (some a1) n1 xs) (h1 : n1 ≤ 65535) (hs : n0 + n1 ≤ 1048576) :
    Calls Try.prog 5 #[.slice a0 n0 c0, .int .u8 t1, .slice (some a1) n1 c1, .int .u8 t2, .slice none 0 0] w fun e w' => e = .returned (.bool true) ∧ Below w.heap.size w w' := by
  obtain ⟨i0, hi, hz0, hz1, hz2⟩ := info_parts info5
  have q22 : ∀ (w : World) (a : Option Addr) (n c n' c' : Nat), (binOp .neq 22 (.slice a n c) (.slice none n' c')).run Try.prog w = .ok (.bool (!a.isNone)) w := fun w a n c n' c' => run_neq_slice_nil_any w _ _ a n c n' c' Try.underlying22
  go_enter Try.func5, Try.ntmps5
  go_wp2_with fail
  refine (zz_yes a0 (some a1) none n0 c0 n1 c1 0 0 t1 t2 (by omega) w).mono ?_
  rintro e w1 ⟨rfl, hbw⟩
  have rd := hd.kept hbw
  clear hd
  have rx := hx.kept hbw
  clear hx
  have ry := Rd.nilRow w1
  go_wp2_with (at_make; refine wpList_make_full _ rfl (.tmp 53) (.tmp 53) 22 rfl w1.heap.size 5 i0 (.int .u8 0) 1 Try.underlying22 hi hz0 hz1 .i64 .i64 _ _ n1 rfl rfl rfl rfl (by rw [hz2]; omega) (by unfold maxLen; omega) (Nat.le_refl _) ?_)
  intro w2 hown hgrow
  have hbm : Below w1.heap.size w1 w2 := (Below.refl _ w1).grown hgrow (Nat.le_refl _) (fun k hk => by cases hk)
  obtain ⟨cur, hg, hcl, hBg⟩ := madeRow (c := n1) hown
  have HG : Hid (w2.heap[w1.heap.size]? = some (.cells cur.toArray 5 (0, 0))) := hg
  have HCL : Hid (cur.length = n1) := hcl
  have HXL : Hid (xs.length = n1) := rx.len
  have hcc := (rx.kept hbm).holds a1 rfl
  clear hgrow hown hg hcl
  go_wp2_with (refine wpList_copy_splice rfl (.tmp 55) (.tmp 56) 22 22 rfl 5 Try.underlying22 (by rw [hi]; simp [hz1]) _ _ _ _ _ _ rfl rfl w1.heap.size 0 cur 5 HG.out (u8s xs) ?ca0 ?ca1 ?ca2 (u8s_one xs) w1.heap.size w1 hbm hBg ?_)
  case ca0 => rw [u8s_len, HXL.out]; exact (Nat.min_self n1).symm
  case ca1 =>
    intro hp
    intro j u hu
    have hj : j < xs.length := by have := (List.getElem?_eq_some_iff.1 hu).1; rw [u8s_len] at this; exact this
    rw [u8s_at xs j hj] at hu
    rw [← hu]
    exact hcc j (by rw [← HXL.out]; exact hj)
  case ca2 => rw [u8s_len, HXL.out, HCL.out]; omega
  intro w3 HR hbc
  have hrow : w3.heap[w1.heap.size]? = some (.cells (u8s xs).toArray 5 (0, 0)) := by
    have h := HR.out
    rw [splice_full cur (u8s xs) (by rw [HCL.out, u8s_len, HXL.out])] at h
    exact h
  have rn := Rd.row (n := n1) hrow HXL.out
  have ro := ry.kept hbc
  have rd' := rd.kept hbc
  have hbn : Below w.heap.size w w3 := hbw.trans (hbc.mono hbw.size)
  clear HR hbc hrow HG HCL HXL hcc hbm hBg rx ry hbw rd
  have rx := rn
  have ry := ro
  have hbw := hbn
  have rd := rd'
  clear rn ro hbn rd'
  go_wp2_with fail
  clear q22
  refine (clone_any a0 n0 c0 ds w3 rd hdn (by omega)).mono ?_
  rintro e w6 ⟨ao6, rfl, rd6, hb6⟩
  have rx6 := rx.kept hb6
  have ry6 := ry.kept hb6
  have hw6 : Below w.heap.size w w6 := hbw.trans (hb6.mono hbw.size)
  clear rd rx ry hb6 hbw hdn
  go_wp2_with fail
  refine (clone_any ao6 n0 n0 ds w6 rd6 rd6.nil (by omega)).mono ?_
  rintro e w7 ⟨ao7, rfl, ro7, hb7⟩
  have rd7 := rd6.kept hb7
  have rx7 := rx6.kept hb7
  have ry7 := ry6.kept hb7
  have hw7 : Below w.heap.size w w7 := hw6.trans (hb7.mono hw6.size)
  clear rd6 rx6 ry6 hb7 hw6
  go_wp2_with fail
  refine (clone_any (some ⟨w1.heap.size, 0, none⟩) n1 n1 xs w7 rx7 (fun e => by cases e) (by omega)).mono ?_
  rintro e w8 ⟨ao8, rfl, rp8, hb8⟩
  have ro8 := ro7.kept hb8
  have rd8 := rd7.kept hb8
  have rx8 := rx7.kept hb8
  have ry8 := ry7.kept hb8
  have hw8 : Below w.heap.size w w8 := hw7.trans (hb8.mono hw7.size)
  clear ro7 rd7 rx7 ry7 hb8 hw7
  go_wp2_with fail
  refine (clone_any none 0 0 [] w8 ry8 (fun _ => rfl) (by omega)).mono ?_
  rintro e w9 ⟨ao9, rfl, rq9, hb9⟩
  have rp9 := rp8.kept hb9
  have ro9 := ro8.kept hb9
  have rd9 := rd8.kept hb9
  have rx9 := rx8.kept hb9
  have ry9 := ry8.kept hb9
  have hw9 : Below w.heap.size w w9 := hw8.trans (hb9.mono hw8.size)
  clear rp8 ro8 rd8 rx8 ry8 hb9 hw8
  go_wp2_with fail
  refine (zitem_grow ao6 n0 t1 ds (some ⟨w1.heap.size, 0, none⟩) n1 n1 xs w9 rd9 rx9 (fun e => by cases e) (by omega) (by omega)).mono ?_
  rintro e w10 ⟨g10, c10, rfl, hown10, hb10⟩
  have hC := zitem_own w9.heap.size (n0 + 3 + n1) t2 (.slice (some ⟨g10, 0, none⟩) (n0 + 3 + n1) c10) _ none 0 0 [] w9 w10 hown10 rfl hb10 ry9 (fun _ => rfl) (by omega) (by omega)
  clear hown10 rd9 rx9 ry9
  go_wp2_with fail
  refine hC.mono ?_
  rintro e w11 ⟨g11, c11, rfl, hown11, hb11⟩
  have hbb : Below w9.heap.size w9 w11 := hb10.trans hb11
  have R11 := two_parts (Rd.owned hown11) ro9.len rp9.len rq9.len
  have hcap := owns_cap hown11
  have rA := R11.1
  have rB := R11.2
  have ro11 := ro9.kept hbb
  have rp11 := rp9.kept hbb
  have rq11 := rq9.kept hbb
  have hw11 : Below w.heap.size w w11 := hw9.trans (hbb.mono hw9.size)
  clear hC hown11 hb10 hb11 hbb R11 ro9 rp9 rq9 hw9
  go_wp2_with fail
  refine (equal_any _ _ n0 _ n0 _ ds ds w11 rA ro11 (by omega)).mono ?_
  rw [decide_eq_true rfl]
  rintro e w12 ⟨rfl, hb12⟩
  have rB12 := rB.kept hb12
  have rp12 := rp11.kept hb12
  have rq12 := rq11.kept hb12
  have hw12 : Below w.heap.size w w12 := hw11.trans (hb12.mono hw11.size)
  clear rA rB ro11 rp11 rq11 hb12 hw11
  go_wp2_with fail
  refine (read_more g11 n0 _ _ n1 (3 + 0) t1 xs (hdrZ t2 (0 : Nat) ++ []) w12 rB12 rp12.len (by rw [List.length_append, rq12.len]; simp [hdrZ]; try omega) (by omega) (by omega) (by omega) (by omega) (by omega)).mono ?_
  rintro e w13 ⟨a13, c13, b14, o14, c14, rfl, rU, rV, hk14, hb13⟩
  have rp13 := rp12.kept hb13
  have rq13 := rq12.kept hb13
  have hw13 : Below w.heap.size w w13 := hw12.trans (hb13.mono hw12.size)
  clear rB12 rp12 rq12 hb13 hw12
  go_wp2_with fail
  refine (equal_any _ _ n1 _ n1 _ xs xs w13 rU rp13 (by omega)).mono ?_
  rw [decide_eq_true rfl]
  rintro e w14 ⟨rfl, hb14⟩
  have rV14 := rV.kept hb14
  have rq14 := rq13.kept hb14
  have hw14 : Below w.heap.size w w14 := hw13.trans (hb14.mono hw13.size)
  clear rU rV rp13 rq13 hb14 hw13
  go_wp2_with fail
  refine (read_at b14 o14 _ _ 0 0 t2 [] [] w14 (by rw [List.append_nil]; exact rV14) rq14.len rfl (by omega) (by omega) (by omega) (by omega)).mono ?_
  rintro e w15 ⟨a15, c15, a16, c16, rfl, rU, rV, hk16, hb15⟩
  have rq15 := rq14.kept hb15
  have hw15 : Below w.heap.size w w15 := hw14.trans (hb15.mono hw14.size)
  clear rV14 rq14 hb15 hw14
  go_wp2_with fail
  refine (equal_any _ _ 0 _ 0 _ [] [] w15 rU rq15 (by omega)).mono ?_
  rw [decide_eq_true rfl]
  rintro e w16 ⟨rfl, hb16⟩
  go_wp2
  go_ret
  exact ⟨rfl, hw15.trans (hb16.mono hw15.size)⟩

#print axioms walk_sn
end Go.Proofs.Qxb6614970a.fnAppendItemTwoItemsReadBack
