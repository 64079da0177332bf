/-
  The contracts of wire.appendItem (19) and wire.ZZappendItem (14).
-/
import Derived.Test.Qxb6614970aRd
import Derived.Laws.AppendOwnNone
namespace Go.Proofs.Qxb6614970a
open Go.RowKit
set_option linter.unusedVariables false

set_option maxHeartbeats 1000000 in
set_option maxRecDepth 100000 in
/-- appendItem onto a slice without room. -/
theorem item_grow (ao : Option Addr) (n : Nat) (tag : Int) (xs : List Int) (ad : Option Addr) (m c : Nat) (ys : List Int) (w : World) (hx : Rd w ao n xs) (hy : Rd w ad m ys) (hyn : ad = none → c = 0) (hm : m < 65536) (hlim : n + m + 3 ≤ 140737488355328) :
    Calls Try.prog 19 #[.slice ao n n, .int .u8 tag, .slice ad m c] w fun e w' => ∃ v', e = .returned v' ∧ w'.ownsRow w.heap.size 5 1 v' (n + 3 + m) (u8s (xs ++ hdrZ tag m ++ ys)) ∧ Below w.heap.size w w' := by
  obtain ⟨i0, hi, hz0, hz1, hz2⟩ := info_parts info5
  have hC := hdr_grow ao n tag m (by omega) (by omega) (u8s xs) w hx.nil (by rw [u8s_len]; exact hx.len) (fun b hb j u hu => by
    have hj : j < n := by have := (List.getElem?_eq_some_iff.1 hu).1; rw [u8s_len, hx.len] at this; omega
    rw [u8s_at xs j (by rw [hx.len]; omega)] at hu; rw [hx.holds b hb j hj]; exact hu) (by omega)
  clear hx
  cases ad with
  | none =>
    have e1 := hy.nil rfl
    have e2 := hyn rfl
    have e3 : ys = [] := List.eq_nil_of_length_eq_zero (by rw [hy.len]; exact e1)
    subst e1 e2 e3
    clear hy hyn
    go_enter Try.func19, Try.ntmps19
    go_wp2_with fail
    refine hC.mono ?_
    rintro e w3 ⟨v3, rfl, hown3, hb3⟩
    rw [hdr_u8s] at hown3
    clear hC
    go_wp2_with (at_builtin; refine wpList_append_own_none rfl _ _ 22 rfl w.heap.size 5 i0 1 Try.underlying22 hi _ _ _ rfl hown3 rfl ?_)
    go_wp2
    go_ret
    exact ⟨v3, rfl, by rw [List.append_nil]; exact hown3, hb3⟩
  | some a =>
    have hyl : Hid (ys.length = m) := hy.len
    have hc := hy.holds a rfl
    clear hy hyn
    go_enter Try.func19, Try.ntmps19
    go_wp2_with fail
    refine hC.mono ?_
    rintro e w3 ⟨v3, rfl, hown3, hb3⟩
    rw [hdr_u8s] at hown3
    have hz3 := hb3.size
    clear hC
    go_wp2_with (at_builtin; refine wpList_append_own _ rfl _ _ 22 rfl w.heap.size 5 i0 (.int .u8 0) 1 1 Try.underlying22 hi hz0 hz1 hz2 rfl (by decide) _ _ _ rfl hown3 a m c (u8s ys) rfl ?c0 ?c1 (u8s_one ys) ?c3 ?c4 hz3 ?_)
    case c0 => rw [u8s_len, hyl.out]; omega
    case c1 =>
      intro j u hu
      have hj : j < ys.length := by have := (List.getElem?_eq_some_iff.1 hu).1; rw [u8s_len] at this; exact this
      rw [u8s_at ys j hj] at hu
      rw [← hu]
      exact cell_kept hb3 (hc j (by rw [← hyl.out]; exact hj))
    case c3 => unfold maxLen; omega
    case c4 => omega
    intro v' w4 hown4 hgrow _
    rw [← u8s_app] at hown4
    go_wp2
    go_ret
    exact ⟨v', rfl, hown4, hb3.grown hgrow hz3 (fun k hk => (hown3.lt k hk).1)⟩

set_option maxHeartbeats 1000000 in
set_option maxRecDepth 100000 in
/-- appendItem onto a slice that the call owns; the data lie below what it owns. -/
theorem item_own (B n : Nat) (tag : Int) (sv : Value) (xs : List Int) (ad : Option Addr) (m c : Nat) (ys : List Int) (w0 w : World) (hown : w.ownsRow B 5 1 sv n (u8s xs)) (hB : B = w0.heap.size) (hbw : Below B w0 w) (hy : Rd w0 ad m ys) (hyn : ad = none → c = 0) (hm : m < 65536) (hlim : n + m + 3 ≤ 140737488355328) :
    Calls Try.prog 19 #[sv, .int .u8 tag, .slice ad m c] w fun e w' => ∃ v', e = .returned v' ∧ w'.ownsRow B 5 1 v' (n + 3 + m) (u8s (xs ++ hdrZ tag m ++ ys)) ∧ Below B w w' := by
  obtain ⟨i0, hi, hz0, hz1, hz2⟩ := info_parts info5
  have hBw : B ≤ w.heap.size := by rw [hB]; exact hbw.size
  have HB : Hid (B = w0.heap.size) := hB
  clear hB
  have hC := hdr_own B n tag m (by omega) (by omega) sv (u8s xs) w hown hBw (by omega)
  clear hown
  cases ad with
  | none =>
    have e1 := hy.nil rfl
    have e2 := hyn rfl
    have e3 : ys = [] := List.eq_nil_of_length_eq_zero (by rw [hy.len]; exact e1)
    subst e1 e2 e3
    clear hy hyn
    go_enter Try.func19, Try.ntmps19
    go_wp2_with fail
    refine hC.mono ?_
    rintro e w3 ⟨v3, rfl, hown3, hb3⟩
    rw [hdr_u8s] at hown3
    clear hC
    go_wp2_with (at_builtin; refine wpList_append_own_none rfl _ _ 22 rfl B 5 i0 1 Try.underlying22 hi _ _ _ rfl hown3 rfl ?_)
    go_wp2
    go_ret
    exact ⟨v3, rfl, by rw [List.append_nil]; exact hown3, hb3⟩
  | some a =>
    have hyl : Hid (ys.length = m) := hy.len
    have hc := hy.holds a rfl
    clear hy hyn
    go_enter Try.func19, Try.ntmps19
    go_wp2_with fail
    refine hC.mono ?_
    rintro e w3 ⟨v3, rfl, hown3, hb3⟩
    rw [hdr_u8s] at hown3
    have hz3 : B ≤ w3.heap.size := Nat.le_trans hBw hb3.size
    have hb03 : Below w0.heap.size w0 w3 := by rw [← HB.out]; exact hbw.trans hb3
    clear hC
    go_wp2_with (at_builtin; refine wpList_append_own _ rfl _ _ 22 rfl B 5 i0 (.int .u8 0) 1 1 Try.underlying22 hi hz0 hz1 hz2 rfl (by decide) _ _ _ rfl hown3 a m c (u8s ys) rfl ?c0 ?c1 (u8s_one ys) ?c3 ?c4 hz3 ?_)
    case c0 => rw [u8s_len, hyl.out]; omega
    case c1 =>
      intro j u hu
      have hj : j < ys.length := by have := (List.getElem?_eq_some_iff.1 hu).1; rw [u8s_len] at this; exact this
      rw [u8s_at ys j hj] at hu
      rw [← hu]
      exact cell_kept hb03 (hc j (by rw [← hyl.out]; exact hj))
    case c3 => unfold maxLen; omega
    case c4 => omega
    intro v' w4 hown4 hgrow _
    rw [← u8s_app] at hown4
    go_wp2
    go_ret
    exact ⟨v', rfl, hown4, hb3.grown hgrow hz3 (fun k hk => (hown3.lt k hk).1)⟩

set_option maxHeartbeats 1000000 in
set_option maxRecDepth 100000 in
/-- ZZappendItem onto a slice without room. -/
theorem zitem_grow (ao : Option Addr) (n : Nat) (tag : Int) (xs : List Int) (ad : Option Addr) (m c : Nat) (ys : List Int) (w : World) (hx : Rd w ao n xs) (hy : Rd w ad m ys) (hyn : ad = none → c = 0) (hm : m < 65536) (hlim : n + m + 3 ≤ 140737488355328) :
    Calls Try.prog 14 #[.slice ao n n, .int .u8 tag, .slice ad m c] w fun e w' => ∃ g c', e = .returned (.slice (some ⟨g, 0, none⟩) (n + 3 + m) c') ∧ w'.ownsRow w.heap.size 5 1 (.slice (some ⟨g, 0, none⟩) (n + 3 + m) c') (n + 3 + m) (u8s (xs ++ hdrZ tag m ++ ys)) ∧ Below w.heap.size w w' := by
  have hC := item_grow ao n tag xs ad m c ys w hx hy hyn hm hlim
  clear hx hy hyn
  go_enter Try.func14, Try.ntmps14
  go_wp2_with fail
  refine hC.mono ?_
  rintro e w3 ⟨v3, rfl, hown3, hb3⟩
  obtain ⟨g, c', hv⟩ := owns_shape hown3 (by omega)
  rw [hv] at hown3 ⊢
  clear hv
  go_wp2
  go_ret
  exact ⟨g, c', rfl, hown3, hb3⟩

set_option maxHeartbeats 1000000 in
set_option maxRecDepth 100000 in
/-- ZZappendItem onto a slice that the call owns. -/
theorem zitem_own (B n : Nat) (tag : Int) (sv : Value) (xs : List Int) (ad : Option Addr) (m c : Nat) (ys : List Int) (w0 w : World) (hown : w.ownsRow B 5 1 sv n (u8s xs)) (hB : B = w0.heap.size) (hbw : Below B w0 w) (hy : Rd w0 ad m ys) (hyn : ad = none → c = 0) (hm : m < 65536) (hlim : n + m + 3 ≤ 140737488355328) :
    Calls Try.prog 14 #[sv, .int .u8 tag, .slice ad m c] w fun e w' => ∃ g c', e = .returned (.slice (some ⟨g, 0, none⟩) (n + 3 + m) c') ∧ w'.ownsRow B 5 1 (.slice (some ⟨g, 0, none⟩) (n + 3 + m) c') (n + 3 + m) (u8s (xs ++ hdrZ tag m ++ ys)) ∧ Below B w w' := by
  have hC := item_own B n tag sv xs ad m c ys w0 w hown hB hbw hy hyn hm hlim
  clear hown hbw hy hyn hB
  go_enter Try.func14, Try.ntmps14
  go_wp2_with fail
  refine hC.mono ?_
  rintro e w3 ⟨v3, rfl, hown3, hb3⟩
  obtain ⟨g, c', hv⟩ := owns_shape hown3 (by omega)
  rw [hv] at hown3 ⊢
  clear hv
  go_wp2
  go_ret
  exact ⟨g, c', rfl, hown3, hb3⟩

#print axioms zitem_grow
#print axioms zitem_own
end Go.Proofs.Qxb6614970a
