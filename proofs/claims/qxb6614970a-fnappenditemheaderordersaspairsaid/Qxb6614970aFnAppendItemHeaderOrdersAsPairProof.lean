import Derived.Test.Qxb6614970aRows
import Derived.WalkKit
import Derived.ProofKit
import Derived.OpenShut
import Derived.ShutString
import Derived.ChangeOld
import Derived.Below
import Derived.Test.Qxb6614970aHdr
import Derived.Test.Qxb6614970aCmp
namespace Go.Proofs.Qxb6614970a.fnAppendItemHeaderOrdersAsPair
open Go.ChangeShapes Go.WideShapes Go.ChangeAt Go.RowKit
open Go.ChangeMaps (open_string shut_string)
set_option linter.unusedVariables false      -- a walk need not use every 'w<i>' (that an integer argument fits its kind)

theorem own : ownKnob Try.prog.godebug = none := by kernel_rfl

theorem hdr_cmp_lt (t1 n1 t2 n2 : Int) (h : t1 < t2) : cmpL (hdrZ t1 n1) (hdrZ t2 n2) = -1 := by
  simp [hdrZ, cmpL, h]
theorem hdr_cmp_gt (t1 n1 t2 n2 : Int) (h : t2 < t1) : cmpL (hdrZ t1 n1) (hdrZ t2 n2) = 1 := by
  simp only [hdrZ, cmpL]; rw [if_neg (by omega), if_pos h]
theorem hdr_cmp_len (t1 n1 t2 n2 : Int) (h : t1 = t2) : cmpL (hdrZ t1 n1) (hdrZ t2 n2) = if n1 < n2 then -1 else if n2 < n1 then 1 else 0 := by
  subst h
  simp only [hdrZ, cmpL]
  rw [if_neg (by omega), if_neg (by omega)]
  by_cases h1 : n1 / 256 < n2 / 256
  · rw [if_pos h1, if_pos (by omega)]
  · rw [if_neg h1]
    by_cases h2 : n2 / 256 < n1 / 256
    · rw [if_pos h2, if_neg (by omega), if_pos (by omega)]
    · rw [if_neg h2]
      by_cases h3 : n1 % 256 < n2 % 256
      · rw [if_pos h3, if_pos (by omega)]
      · rw [if_neg h3]
        by_cases h4 : n2 % 256 < n1 % 256
        · rw [if_pos h4, if_neg (by omega), if_pos (by omega)]
        · rw [if_neg h4, if_neg (by omega), if_neg (by omega)]

/-- What the law wants: the pairs' order. -/
def wantZ (t1 n1 t2 n2 : Int) : Int := if t1 < t2 then -1 else if t2 < t1 then 1 else if n1 < n2 then -1 else if n2 < n1 then 1 else 0
theorem hdr_cmp (t1 n1 t2 n2 : Int) : cmpL (hdrZ t1 n1) (hdrZ t2 n2) = wantZ t1 n1 t2 n2 := by
  unfold wantZ
  by_cases h1 : t1 < t2
  · rw [if_pos h1, hdr_cmp_lt _ _ _ _ h1]
  · rw [if_neg h1]
    by_cases h2 : t2 < t1
    · rw [if_pos h2, hdr_cmp_gt _ _ _ _ h2]
    · rw [if_neg h2, hdr_cmp_len _ _ _ _ (by omega)]

set_option maxHeartbeats 1000000 in
set_option maxRecDepth 100000 in
theorem walk_in (a0 : Int) (a1 : Int) (a2 : Int) (a3 : Int) (l1 : 0 ≤ a1) (u1 : a1 ≤ 65535) (l3 : 0 ≤ a3) (u3 : a3 ≤ 65535) (z : Int) (hz : wantZ a0 a1 a2 a3 = z)
    (hc : (a0 < a2 ∧ z = -1) ∨ (a2 < a0 ∧ z = 1) ∨ (a0 ≤ a2 ∧ a2 ≤ a0 ∧ a1 < a3 ∧ z = -1) ∨ (a0 ≤ a2 ∧ a2 ≤ a0 ∧ a3 < a1 ∧ z = 1) ∨ (a0 ≤ a2 ∧ a2 ≤ a0 ∧ a3 ≤ a1 ∧ a1 ≤ a3 ∧ z = 0)) (w : World) :
    Calls Try.prog 4 #[.int .u8 a0, .int .i64 a1, .int .u8 a2, .int .i64 a3] w fun e w' => e = .returned (.bool true) ∧ Below w.heap.size w w' := by
  have HZ : Hid (cmpL (hdrZ a0 a1) (hdrZ a2 a3) = z) := (hdr_cmp a0 a1 a2 a3).trans hz
  clear hz
  rcases hc with ⟨p1, rfl⟩ | ⟨p1, rfl⟩ | ⟨p1, p2, p3, rfl⟩ | ⟨p1, p2, p3, rfl⟩ | ⟨p1, p2, p3, p4, rfl⟩
  all_goals
    go_enter Try.func4, Try.ntmps4
    go_wp2_with fail
    refine (zhdr_grow none 0 a0 a1 l1 (by omega) [] w (fun _ => rfl) rfl (fun b hb => by cases hb) (by omega)).mono ?_
    rintro e w1 ⟨g1, c1, rfl, hown1, hb1⟩
    go_wp2_with fail
    refine (zhdr_grow none 0 a2 a3 l3 (by omega) [] w1 (fun _ => rfl) rfl (fun b hb => by cases hb) (by omega)).mono ?_
    rintro e w2 ⟨g2, c2, rfl, hown2, hb2⟩
    have hC := compare_at g1 0 3 c1 g2 0 3 c2 (hdrZ a0 a1) (hdrZ a2 a3) w2 rfl rfl (by omega) (by omega) (fun j hj => cell_kept hb2 (owns_cells hown1 j hj)) (owns_cells hown2)
    rw [HZ.out] at hC
    have hbb : Below w.heap.size w w2 := hb1.trans (hb2.mono hb1.size)
    clear hown1 hown2 hb1 hb2
    go_wp2_with fail
    refine hC.mono ?_
    rintro e w3 ⟨rfl, hb3⟩
    go_wp2
    go_ret
    exact ⟨rfl, hbb.trans (hb3.mono hbb.size)⟩

theorem walk (a0 : Int) (a1 : Int) (a2 : Int) (a3 : Int) (w0 : (Lit.int .u8 a0).wf = true) (w1 : (Lit.int .i64 a1).wf = true) (w2 : (Lit.int .u8 a2).wf = true) (w3 : (Lit.int .i64 a3).wf = true) (w : World) :
    Calls Try.prog 4 #[.int .u8 a0, .int .i64 a1, .int .u8 a2, .int .i64 a3] w fun e w' => e = .returned (.bool true) ∧ Below w.heap.size w w' := by
  clear w0 w1 w2 w3
  by_cases g1 : a1 < 0
  · go_enter Try.func4, Try.ntmps4
    go_wp2
    go_ret
    exact ⟨rfl, Below.refl _ _⟩
  by_cases g2 : 65535 < a1
  · go_enter Try.func4, Try.ntmps4
    go_wp2
    go_ret
    exact ⟨rfl, Below.refl _ _⟩
  by_cases g3 : a3 < 0
  · go_enter Try.func4, Try.ntmps4
    go_wp2
    go_ret
    exact ⟨rfl, Below.refl _ _⟩
  by_cases g4 : 65535 < a3
  · go_enter Try.func4, Try.ntmps4
    go_wp2
    go_ret
    exact ⟨rfl, Below.refl _ _⟩
  refine walk_in a0 a1 a2 a3 (by omega) (by omega) (by omega) (by omega) _ rfl ?_ w
  unfold wantZ
  by_cases h1 : a0 < a2
  · exact .inl ⟨h1, if_pos h1⟩
  rw [if_neg h1]
  by_cases h2 : a2 < a0
  · exact .inr (.inl ⟨h2, if_pos h2⟩)
  rw [if_neg h2]
  by_cases h3 : a1 < a3
  · exact .inr (.inr (.inl ⟨by omega, by omega, h3, if_pos h3⟩))
  rw [if_neg h3]
  by_cases h4 : a3 < a1
  · exact .inr (.inr (.inr (.inl ⟨by omega, by omega, h4, if_pos h4⟩)))
  rw [if_neg h4]
  exact .inr (.inr (.inr (.inr ⟨by omega, by omega, by omega, by omega, rfl⟩)))

/-! ### THE ROW's STEP: WRITTEN OUT: LEAVE IT -/
set_option maxRecDepth 100000 in
theorem lifted (os : Os) (started : os.Started) (H : Type) (enc : TypeId × Value → H) :
    ReturnsInHanded {} Try.checked os 4 .any (Rows.fnAppendItemHeaderOrdersAsPairSpec.pre6 enc Try.prog Try.f4 Rows.fnAppendItemHeaderOrdersAsPairRow.domain false) (Rows.fnAppendItemHeaderOrdersAsPairSpec.post enc Try.prog Try.f4 false true false false) := by
  refine returnsInHanded_of_change (C := Try.checked) own started (by kernel_rfl) Try.func4
    (ChangeSpec.witness6 (enc := enc) (C := Try.checked) false ⟨#[], #[.int .u8 0, .int .i64 0, .int .u8 0, .int .i64 0], []⟩ 8 (by kernel_rfl) (by kernel_rfl) (by kernel_rfl) (by kernel_rfl)) ?_
  intro W base args ds gs before hval0 hW hcnd _
  have hval : ∀ (j : Nat) t v, Try.f4.params[j]? = some t → args[j]? = some v → Value.okWide Try.prog W .any base t v := hval0
  have hW' := hW
  obtain ⟨p, q, hA0, hV, rfl, hfz, hnd⟩ := hW
  have hA : DataW.TrodAll enc Try.prog W 0 (fun _ => true) true Try.f4.params.toList args.toList ds p := hA0
  rw [Try.params4] at hA hval
  obtain ⟨v0, vs0, d0, ds0, p0, q0, hargs, rfl, rfl, h0, r0⟩ := trodAll_cons hA
  obtain ⟨v1, vs1, d1, ds1, p1, q1, rfl, rfl, rfl, h1, r1⟩ := trodAll_cons r0
  obtain ⟨v2, vs2, d2, ds2, p2, q2, rfl, rfl, rfl, h2, r2⟩ := trodAll_cons r1
  obtain ⟨v3, vs3, d3, ds3, p3, q3, rfl, rfl, rfl, h3, r3⟩ := trodAll_cons r2
  obtain ⟨rfl, rfl, rfl⟩ := trodAll_nil r3
  obtain rfl : args = #[v0, v1, v2, v3] := by cases args; simp_all
  obtain ⟨rfl, rfl⟩ := trodVars_none hV
  obtain ⟨a0, rfl, rfl, rfl, w0⟩ := open_int Try.underlying5 (hval 0 5 v0 rfl rfl) h0
  obtain ⟨a1, rfl, rfl, rfl, w1⟩ := open_int Try.underlying3 (hval 1 3 v1 rfl rfl) h1
  obtain ⟨a2, rfl, rfl, rfl, w2⟩ := open_int Try.underlying5 (hval 2 5 v2 rfl rfl) h2
  obtain ⟨a3, rfl, rfl, rfl, w3⟩ := open_int Try.underlying3 (hval 3 3 v3 rfl rfl) h3
  clear hA0 hval0
  refine (walk a0 a1 a2 a3 w0 w1 w2 w3 W).mono fun e W' ⟨he, bel⟩ => ?_
  subst he
  exact ⟨_, rfl, _, _, _, [], _, [], hW', trodAll_mk1 (shut_bool Try.underlying4 _), (trodAll_cons_mk (shut_int Try.underlying5 w0) (trodAll_cons_mk (shut_int Try.underlying3 w1) (trodAll_cons_mk (shut_int Try.underlying5 w2) (trodAll_cons_mk (shut_int Try.underlying3 w3) trodAll_mk0)))), rfl, bel.frame _, fun h => by cases h⟩

theorem over : Rows.fnAppendItemHeaderOrdersAsPairRow.holds Try.pinned (OpenSpec.ofChange Rows.fnAppendItemHeaderOrdersAsPairSpec) :=
  OpenClaim.holds_of_wide 4 Try.f4 rfl rfl rfl rfl rfl rfl rfl ⟨rfl, rfl, rfl, rfl, rfl⟩ rfl rfl rfl rfl rfl (by kernel_rfl) Try.func4 (by kernel_rfl)
    (of_decide_eq_true (by kernel_rfl)) (by unfold Func.isWrapper; first | (rw [if_pos (by decide +kernel)]; kernel_rfl) | (rw [if_neg (by decide +kernel)]; exact ⟨rfl, rfl⟩))
    (fun os started H enc _ => lifted os started H enc)

/-- ████ THE STATEMENT ████ -/
theorem proved : Rows.FnAppendItemHeaderOrdersAsPairSaid :=
  over
#print axioms proved
end Go.Proofs.Qxb6614970a.fnAppendItemHeaderOrdersAsPair
