/-
  FnIdSetRemoveExact (3).
-/
import Derived.Test.Qxb6605954aQuiet
namespace Go.Proofs.Qxb6605954a
open Go.RowKit
set_option linter.unusedVariables false

theorem But.heap {S : Nat → Prop} {w w' : World} (h : But S w w') {k : Nat} (hk : k < w.heap.size) (hS : ¬ S k) : w'.heap[k]? = w.heap[k]? := h.block k hk hS

abbrev Nought : Nat → Prop := fun _ => False

theorem St.kept {w w' : World} {ps g n m : Nat} {L : List (List Value)} (h : St w ps g n m L) (hb : But Nought w w') : St w' ps g n m L :=
  h.of_heap (hb.block _ h.lt.1 id) (hb.block _ h.lt.2.1 id) (hb.block _ h.lt.2.2 id) hb.size

theorem St.look_no {w : World} {ps g n m : Nat} {L : List (List Value)} {x : List Value} (h : St w ps g n m L) (hx : IsId x) (hn : x ∉ L) : ∃ c : Int, (Instr.lookup 26 (.map (some m)) (.agg x.toArray) true).run Try.prog w = .ok (.tuple #[.int .i64 c, .bool false]) w := by
  obtain ⟨D, hown, hmp⟩ := h.map
  obtain ⟨l, hl⟩ := hx.key
  obtain ⟨v, ps, hrun, hv⟩ := hown.look_ok law32 Try.underlying26 (zero3 w) (plainElem_int Try.underlying3 (by decide)) hl
  obtain ⟨c', rfl, hc, _⟩ := plainElem_int_inv Try.underlying3 hv
  have hf : Maps.has D l = false := by
    cases e : Maps.has D l with
    | false => rfl
    | true => exact absurd ((hmp.has x l hl).1 e) hn
  rw [hf] at hrun
  exact ⟨c', hrun⟩

theorem St.look_yes {w : World} {ps g n m : Nat} {L : List (List Value)} {x : List Value} {j : Nat} (h : St w ps g n m L) (hx : L[j]? = some x) : (Instr.lookup 26 (.map (some m)) (.agg x.toArray) true).run Try.prog w = .ok (.tuple #[.int .i64 j, .bool true]) w := by
  obtain ⟨D, hown, hmp⟩ := h.map
  obtain ⟨l, hl⟩ := (h.row.ids x (List.mem_of_getElem? hx)).key
  have := look_run hown hl (hmp.pos j x l hx hl)
  rw [(hmp.has x l hl).2 (List.mem_of_getElem? hx)] at this
  exact this

theorem St.len {w : World} {ps g n m : Nat} {L : List (List Value)} (h : St w ps g n m L) (ty : TypeId) : (Builtin.len_ #[26] ty #[.map (some m)]).run Try.prog w = .ok (.int .i64 L.length) w := by
  obtain ⟨D, hown, hmp⟩ := h.map
  have := hown.len Try.underlying26 ty
  rw [hmp.size] at this
  exact this

theorem St.nodup {w : World} {ps g n m : Nat} {L : List (List Value)} (h : St w ps g n m L) : L.Nodup := by
  obtain ⟨D, hown, hmp⟩ := h.map
  exact hmp.nodup

/-- The place of x among the first k, as the law reckons it. -/
def PosAt (L : List (List Value)) (x : List Value) (k : Nat) (p : Int) : Prop := (p = -1 ∧ x ∉ L.take k) ∨ ∃ j : Nat, p = j ∧ j < k ∧ L[j]? = some x

theorem PosAt.yes {L : List (List Value)} {x : List Value} {k : Nat} (h : L[k]? = some x) : PosAt L x (k + 1) k := .inr ⟨k, rfl, by omega, h⟩
theorem PosAt.no {L : List (List Value)} {x y : List Value} {k : Nat} {p : Int} (h : PosAt L x k p) (hy : L[k]? = some y) (hne : y ≠ x) : PosAt L x (k + 1) p := by
  rcases h with ⟨rfl, h⟩ | ⟨j, rfl, hj, h⟩
  · refine .inl ⟨rfl, ?_⟩
    rw [List.take_add_one, hy]
    simp [h]
    exact fun e => hne e.symm
  · exact .inr ⟨j, rfl, by omega, h⟩

theorem rangeAt_box {W : World} {b : Nat} {t : TypeId} {x : List Value} (h : W.heap[b]? = some (.cells x.toArray t (0, 0))) : W.rangeAt b 0 x := by
  intro j v hv
  rw [cell_of_row W _ _ _ _ _ h]
  simpa using hv

set_option maxRecDepth 100000 in
/-- '==' of two ints, decided ahead. -/
theorem wpList_eql_int {ops : Array Oper} {rest : List Oper} {op : Oper} {a : Act} {w : World} {Q : Exit → Act → World → Prop} (hg : op.guard = none) (x y : Operand) (ho : op.op = .binOp .eql 3 x y 3) (m n : Int) (hx : a.eval x = .int .i64 m) (hy : a.eval y = .int .i64 n) (r : Bool) (hr : (m == n) = r)
    (hK : wpList Try.prog ops Q rest (a.put op.dst (.bool r)) w) : wpList Try.prog ops Q (op :: rest) a w :=
  wpList_plain hg fun _ hk => by
    unfold Oper.wp execOp
    simp only [ho, hx, hy]
    simp [go_sem, hr]
    exact hk _ _ hK

set_option maxHeartbeats 1000000 in
set_option maxRecDepth 100000 in
theorem law3 (ao : Option Addr) (n c : Nat) (x : List Value) (L : List (List Value)) (w : World) (hr : Rid w ao n L) (hx : IsId x) (hn : n ≤ 9223372036854775807) :
    Calls Try.prog 3 #[.slice ao n c, .agg x.toArray] w fun e w' => e = .returned (.bool true) ∧ Below w.heap.size w w' := by
  obtain ⟨e0, he0⟩ : ∃ e0, e0 = w.heap.size := ⟨_, rfl⟩
  have hbox : (w.alloc (.cells x.toArray 23)).heap[e0]? = some (.cells x.toArray 23 (0, 0)) := by rw [he0]; exact heap_alloc_last w _
  have hC8 := zz8 ao n c x (w.alloc (.cells x.toArray 23)) hn
  have HR : Hid (Rid w ao n L) := hr
  have HB0 : Hid (Below w.heap.size w (w.alloc (.cells x.toArray 23))) := (Below.refl _ w).alloc (Nat.le_refl _) _
  clear hr
  go_enter Try.func3, Try.ntmps3
  go_wp2_with (refine wpList_load_row rfl 23 (.tmp 3) rfl w.heap.size rfl 23 x.toArray (0, 0) _ (heap_alloc_last w _) Try.underlying23 rfl hx.size23 ?_)
  refine hC8.mono ?_
  clear hC8
  rintro e w2 ⟨hp, hb⟩
  rw [← he0]
  have hb2 : Hid (Below w.heap.size w w2) := HB0.out.trans (hb.below (fun k hk => hk.elim) (by simp))
  have hbox2 : w2.heap[e0]? = some (.cells x.toArray 23 (0, 0)) := (hb.block _ (by rw [he0]; simp) id).trans hbox
  clear hbox hb HB0
  rcases hp with ⟨rfl, h21⟩ | rfl
  · have hn1 : n ≤ 49932 := by omega
    have HE0 : Hid (e0 = w.heap.size) := he0
    have hr2 : Rid w2 ao n L := ⟨HR.out.len, HR.out.ids, fun h0 => by
      obtain ⟨b, o, e, hbl, hc⟩ := HR.out.cells h0
      exact ⟨b, o, e, Nat.lt_of_lt_of_le hbl hb2.out.size, fun j y hy => rangeAt_of_heap (hc j y hy) (hb2.out.block b hbl)⟩⟩
    have hC9 := build ao n c L w2 hr2 (by omega)
    clear h21 he0 hn hr2
    go_wp2_with fail
    refine hC9.mono ?_
    clear hC9
    rintro e w3 ⟨hp, hb⟩
    have hb3 : Hid (Below w.heap.size w w3) := hb2.out.trans (hb.mono hb2.out.size)
    have hbox3 : w3.heap[e0]? = some (.cells x.toArray 23 (0, 0)) := (hb.block _ (Array.getElem?_eq_some_iff.1 hbox2).1).trans hbox2
    rcases hp with ⟨g, m, D, rfl, hrow, hown, hmp, hg0, hm0, hgm⟩ | rfl
    · have HG : Hid (RowR w3 g n L ∧ w3.ownsMap Try.prog 32 (plainElem Try.prog 3) m n D ∧ Mp D L ∧ w.heap.size < g ∧ w.heap.size < m ∧ g ≠ m) := by
        have h1 := hb2.out.size
        have h2 := (Array.getElem?_eq_some_iff.1 hbox2).1
        have h3 := HE0.out
        exact ⟨hrow, hown, hmp, by omega, by omega, hgm⟩
      have HBOX : Hid (w3.heap[e0]? = some (.cells x.toArray 23 (0, 0))) := hbox3
      clear hrow hown hmp hg0 hm0 hgm hb hbox2 hb2 hbox3 w2
      go_wp2
      go_loopw [8, 9] (fun p i wr => ∃ (k : Nat) (z : Int), k ≤ n ∧ i = .int .i64 k ∧ p = .int .i64 z ∧ PosAt L x k z ∧ But Nought w3 wr) (fun _ i _ => n - (intOf i).toNat)
      case atStart => exact ⟨0, -1, by omega, rfl, rfl, .inl ⟨rfl, by simp⟩, But.refl _ _⟩
      case round =>
        obtain ⟨k, z, hk, rfl, rfl, hpos, hbut⟩ := hrel
        have HPOS : Hid (PosAt L x k z) := hpos
        have HBUT : Hid (But Nought w3 wr) := hbut
        clear hpos hbut
        by_cases hlt : k < n
        · obtain ⟨b, o, rfl, hbl, hcell⟩ := HR.out.cells (by omega)
          obtain ⟨y, hy0⟩ : ∃ y, L[k]? = some y := ⟨_, List.getElem?_eq_getElem (by rw [HR.out.len]; exact hlt)⟩
          have hy : IsId y := HR.out.ids y (List.mem_of_getElem? hy0)
          have HY0 : Hid (L[k]? = some y) := hy0
          have a1 : wr.rangeAt b (o + k * 20) y := rangeAt_of_heap (rangeAt_of_heap (hcell k y hy0) (hb3.out.block b hbl)) (HBUT.out.block b (Nat.lt_of_lt_of_le hbl hb3.out.size) id)
          have a2 : wr.rangeAt e0 0 x := rangeAt_of_heap (rangeAt_box HBOX.out) (HBUT.out.block e0 (Array.getElem?_eq_some_iff.1 HBOX.out).1 id)
          have hu := Try.underlying23
          have hi := hy.size23
          have hi2 := hx.size23
          have K1 : Hid (∀ W : World, W.rangeAt b (o + k * 20) y → W.rangeAt e0 0 x → W.drew.rangeAt b (o + k * 20) y ∧ W.drew.rangeAt e0 0 x) := fun W a b => ⟨a, b⟩
          clear hy0 hcell
          by_cases exy : y = x
          · have heq : ∀ W, (Op.equalIn 10000 23 (.agg y.toArray) (.agg x.toArray)).run Try.prog W = .ok true W := fun W => by rw [exy]; exact eq23_yes hx W
            have HP : Hid (PosAt L x (k + 1) k) := PosAt.yes (by rw [← exy]; exact HY0.out)
            clear exy
            go_wp2_with fail
            refine wp_region_quiet_lit (by kernel_rfl) (by kernel_rfl) ?_
            refine q_move (.slice (some ⟨b, o, none⟩) n c) (.tmp 0) rfl rfl rfl ?_
            simp only [Act.put, List.setIfInBounds_toArray, List.set_cons_zero, List.set_cons_succ]
            refine q_move (.int .i64 k) (.tmp 9) rfl rfl rfl ?_
            simp only [Act.put, List.setIfInBounds_toArray, List.set_cons_zero, List.set_cons_succ]
            refine q_index22 (.tmp 48) (.tmp 49) b o n c k rfl rfl rfl rfl hlt ?_
            simp only [Act.put, List.setIfInBounds_toArray, List.set_cons_zero, List.set_cons_succ]
            refine q_load 23 (.tmp 50) b (o + k * 20) y rfl rfl rfl (fun W hW => by obtain ⟨q, rfl⟩ := hW; exact a1) hu rfl hi ?_
            simp only [Act.put, List.setIfInBounds_toArray, List.set_cons_zero, List.set_cons_succ]
            refine q_load 23 (.tmp 3) e0 0 x rfl rfl rfl (fun W hW => by obtain ⟨q, rfl⟩ := hW; exact a2) hu rfl hi2 ?_
            simp only [Act.put, List.setIfInBounds_toArray, List.set_cons_zero, List.set_cons_succ]
            refine q_eql (.tmp 51) (.tmp 52) y.toArray x.toArray _ rfl rfl rfl rfl heq ?_
            simp only [Act.put, List.setIfInBounds_toArray, List.set_cons_zero, List.set_cons_succ]
            refine wpQuiet_nil ?_
            intro _ hw'
            obtain ⟨nq, hw''⟩ := hw'
            subst hw''
            go_wp2
            go_roundw
            case rel => exact ⟨k + 1, k, by omega, by go_num, rfl, HP, HBUT.out.drewN nq⟩
            case measure => simp [intOf]; omega
          · have heq : ∀ W, (Op.equalIn 10000 23 (.agg y.toArray) (.agg x.toArray)).run Try.prog W = .ok false W := fun W => eq23_no hy hx exy W
            have HP : Hid (PosAt L x (k + 1) z) := HPOS.out.no HY0.out exy
            clear exy
            go_wp2_with fail
            refine wp_region_quiet_lit (by kernel_rfl) (by kernel_rfl) ?_
            refine q_move (.slice (some ⟨b, o, none⟩) n c) (.tmp 0) rfl rfl rfl ?_
            simp only [Act.put, List.setIfInBounds_toArray, List.set_cons_zero, List.set_cons_succ]
            refine q_move (.int .i64 k) (.tmp 9) rfl rfl rfl ?_
            simp only [Act.put, List.setIfInBounds_toArray, List.set_cons_zero, List.set_cons_succ]
            refine q_index22 (.tmp 48) (.tmp 49) b o n c k rfl rfl rfl rfl hlt ?_
            simp only [Act.put, List.setIfInBounds_toArray, List.set_cons_zero, List.set_cons_succ]
            refine q_load 23 (.tmp 50) b (o + k * 20) y rfl rfl rfl (fun W hW => by obtain ⟨q, rfl⟩ := hW; exact a1) hu rfl hi ?_
            simp only [Act.put, List.setIfInBounds_toArray, List.set_cons_zero, List.set_cons_succ]
            refine q_load 23 (.tmp 3) e0 0 x rfl rfl rfl (fun W hW => by obtain ⟨q, rfl⟩ := hW; exact a2) hu rfl hi2 ?_
            simp only [Act.put, List.setIfInBounds_toArray, List.set_cons_zero, List.set_cons_succ]
            refine q_eql (.tmp 51) (.tmp 52) y.toArray x.toArray _ rfl rfl rfl rfl heq ?_
            simp only [Act.put, List.setIfInBounds_toArray, List.set_cons_zero, List.set_cons_succ]
            refine wpQuiet_nil ?_
            intro _ hw'
            obtain ⟨nq, hw''⟩ := hw'
            subst hw''
            go_wp2
            go_roundw
            case rel => exact ⟨k + 1, z, by omega, by go_num, rfl, HP, HBUT.out.drewN nq⟩
            case measure => simp [intOf]; omega
        · have ek : k = n := by omega
          have HP : Hid (PosAt L x n z) := by rw [← ek]; exact HPOS.out
          have hsz : n ≤ 50000 := by omega
          have HST : Hid (St (wr.alloc (.cells #[.slice (some ⟨g, 0, none⟩) n n, .map (some m)] 82)) wr.heap.size g n m L) := by
            obtain ⟨hrow, hown, hmp, hg0, hm0, hgm⟩ := HG.out
            have hbt := HBUT.out
            have ho : wr.ownsMap Try.prog 32 (plainElem Try.prog 3) m n D := by
              obtain ⟨es, clock, hb, r⟩ := hown
              exact ⟨es, clock, (hbt.block m (Array.getElem?_eq_some_iff.1 hb).1 id).trans hb, r⟩
            exact St.made (hrow.of_heap (hbt.block g hrow.lt id) hbt.size) ho hmp HR.out.len hgm
          have hCA := znew g n m wr
          clear HPOS ek
          go_wp2_with fail
          refine hCA.mono ?_
          clear hCA
          rintro e w4 ⟨rfl, ew4⟩
          have hst4 : St w4 wr.heap.size g n m L := by rw [ew4]; exact HST.out
          have hlt4 := (Array.getElem?_eq_some_iff.1 HBOX.out).1
          have hbx4 : w4.heap[e0]? = some (.cells x.toArray 23 (0, 0)) := by
            rw [ew4, Below.heap_alloc _ _ _ (Nat.lt_of_lt_of_le hlt4 HBUT.out.size), HBUT.out.block e0 hlt4 id]
            exact HBOX.out
          have HB4 : Hid (Below w.heap.size w w4) := by
            rw [ew4]
            have h := hb3.out.trans (HBUT.out.below (fun k hk => hk.elim) hb3.out.size)
            exact h.alloc h.size _
          have HPS : Hid (w.heap.size < wr.heap.size ∧ w.heap.size < g ∧ w.heap.size < m) :=
            ⟨by have h1 := HE0.out; have h2 := HBUT.out.size; omega, HG.out.2.2.2.1, HG.out.2.2.2.2.1⟩
          clear HST hlt4 HBOX ew4 HG HBUT hb3
          generalize wr.heap.size = ps at *
          have hCB := zremove ps g n m L x w4 hst4 hx hsz
          have HND : Hid L.Nodup := hst4.nodup
          clear hst4
          go_wp2_with (refine wpList_load_row rfl 23 (.tmp 3) rfl e0 rfl 23 x.toArray (0, 0) _ hbx4 Try.underlying23 rfl hx.size23 ?_)
          refine hCB.mono ?_
          clear hCB
          rintro e w5 ⟨hp, hb⟩
          have hlt4 := (Array.getElem?_eq_some_iff.1 hbx4).1
          have hbx5 : w5.heap[e0]? = some (.cells x.toArray 23 (0, 0)) := (hb.block e0 hlt4 (by have h1 := HE0.out; have h2 := HPS.out; omega)).trans hbx4
          have HB5 : Hid (Below w.heap.size w w5) := HB4.out.trans (hb.below (fun k hk => by have h2 := HPS.out; omega) HB4.out.size)
          clear hbx4 hlt4 hb HB4
          rcases hp with ⟨i, hi0, rfl, hst5⟩ | ⟨hni, rfl, hst5⟩
          · have hz : z = (i : Int) := by
              rcases HP.out with ⟨_, hno⟩ | ⟨j, hj, _, hj2⟩
              · exact absurd (List.mem_of_getElem? hi0) (by rwa [List.take_of_length_le (by rw [HR.out.len]; exact Nat.le_refl _)] at hno)
              · rw [hj, nodup_get HND.out hj2 hi0]
            have HZ : Hid (z = (i : Int)) := hz
            have hz0 : (0 : Int) ≤ z := by omega
            clear hz
            have hil : i < n := by have := (List.getElem?_eq_some_iff.1 hi0).1; rw [HR.out.len] at this; exact this
            obtain ⟨q, rfl⟩ : ∃ q, n = q + 1 := ⟨n - 1, by omega⟩
            have hql : (rem L i).length = q := by rw [rem_length L i (by rw [HR.out.len]; exact hil), HR.out.len, Nat.add_sub_cancel]
            have hxno : x ∉ rem L i := fun h => ((rem_mem HND.out hi0 x).1 h).2 rfl
            obtain ⟨cz, hlook⟩ := hst5.look_no hx hxno
            have hlenm := fun ty => hst5.len ty
            have hc0 := hst5.c0
            rw [hql] at hlenm hc0
            have hC12 := zids ps (.slice (some ⟨g, 0, none⟩) q (q + 1)) w5 ⟨_, _, _, rfl⟩ hc0
            have hC13 := zat ps m w5 hst5.c1
            have HST5 : Hid (St w5 ps g (q + 1) m (rem L i)) := hst5
            have HQL : Hid ((rem L i).length = q) := hql
            have HI0 : Hid (L[i]? = some x) := hi0
            clear hst5 hql hxno hi0 hc0 HP
            go_wp2_with (first
              | (go_at_call 12; refine hC12.mono ?_; rintro e w5 ⟨rfl, rfl⟩)
              | (go_at_call 13; refine hC13.mono ?_; rintro e w5 ⟨rfl, rfl⟩)
              | (refine wpList_load_row rfl 23 (.tmp 3) rfl e0 rfl 23 x.toArray (0, 0) _ hbx5 Try.underlying23 rfl hx.size23 ?_))
            clear hlook hlenm hC12 hC13 hbx5 HND
            have hqb : (q : Int) ≤ 49932 := by omega
            clear hn1 hsz hz0 hil
            go_loopw [17] (fun i wr => ∃ k : Nat, k ≤ q ∧ i = .int .i64 k ∧ But Nought w5 wr) (fun i _ => q - (intOf i).toNat)
            case atStart => exact ⟨0, by omega, rfl, But.refl _ _⟩
            case round =>
              obtain ⟨k, hk, rfl, hbut⟩ := hrel
              have HBW : Hid (But Nought w5 wr) := hbut
              clear hbut
              by_cases hlt : k < q
              · obtain ⟨b, o, rfl, hbl, hcell⟩ := HR.out.cells (by omega)
                have HC : Hid (∀ (j : Nat) v, L[j]? = some v → wr.rangeAt b (o + j * 20) v) := fun j v hv => rangeAt_of_heap (rangeAt_of_heap (hcell j v hv) (HB5.out.block b hbl)) (HBW.out.block b (Nat.lt_of_lt_of_le hbl HB5.out.size) id)
                obtain ⟨y, hy0⟩ : ∃ y, (rem L i)[k]? = some y := ⟨_, List.getElem?_eq_getElem (by rw [HQL.out]; exact hlt)⟩
                have hget := rem_get L i k (by rw [HR.out.len]; exact hlt)
                rw [hy0] at hget
                have hy : IsId y := HST5.out.row.ids y (List.mem_of_getElem? hy0)
                have HSW : Hid (St (wr.alloc (.cells y.toArray 23)) ps g (q + 1) m (rem L i)) := (HST5.out.kept HBW.out).box _
                have HYL : Hid ((rem L i)[k]? = some y) := hy0
                have hgl : g < wr.heap.size := Nat.lt_of_lt_of_le HST5.out.lt.2.1 HBW.out.size
                have c1 : Hid ((wr.alloc (.cells y.toArray 23)).rangeAt g (k * 20) y) := HSW.out.row.rng k y hy0
                have c2 : Hid ((wr.alloc (.cells y.toArray 23)).rangeAt wr.heap.size 0 y) := rangeAt_box (heap_alloc_last wr _)
                have ONE : Hid (y.toArray.all (·.oneCell') = true) := all_oneCell_toArray hy.one
                have HSZ : Hid ((20 : Nat) = y.toArray.size) := by show _ = _; rw [List.size_toArray, hy.len]
                have HEQ : Hid (∀ W, (Op.equalIn 10000 23 (.agg y.toArray) (.agg y.toArray)).run Try.prog W = .ok true W) := fun W => eq23_yes hy W
                clear hy0 hcell
                have il0 : (0 : Int) ≤ (k : Int) := by omega
                have il1 : (k : Int) < (q : Int) := by omega
                by_cases hki : k = i
                · rw [if_pos hki] at hget
                  have hlast := lastOf_get L (by rw [HR.out.len]; omega)
                  rw [← hget, HR.out.len, Nat.add_sub_cancel] at hlast
                  obtain ⟨u, hu0⟩ : ∃ u, L[k]? = some u := ⟨_, List.getElem?_eq_getElem (by rw [HR.out.len]; omega)⟩
                  have hu : IsId u := HR.out.ids u (List.mem_of_getElem? hu0)
                  have d1 : wr.rangeAt b (o + k * 20) u := HC.out k u hu0
                  have d2 : (wr.alloc (.cells u.toArray 23)).rangeAt b (o + q * 20) y := rangeAt_of_heap (HC.out q y hlast) (Below.heap_alloc _ _ _ (Nat.lt_of_lt_of_le hbl (Nat.le_trans HB5.out.size HBW.out.size)))
                  have ONEu : Hid (u.toArray.all (·.oneCell') = true) := all_oneCell_toArray hu.one
                  have HSZu : Hid ((20 : Nat) = u.toArray.size) := by show _ = _; rw [List.size_toArray, hu.len]
                  clear hget hlast hu0 HC
                  have hkz : Hid (((k : Int) == z) = true) := by show _ = _; rw [HZ.out, hki]; simp
                  clear hki
                  go_wp2_with (first
                    | (refine wpList_eql_int rfl (.tmp 101) (.tmp 102) rfl k z rfl rfl _ hkz.out ?_; simp only [Act.put, List.setIfInBounds_toArray, List.set_cons_zero, List.set_cons_succ])
                    | (refine wpList_load_mid rfl 23 (.tmp 99) rfl b (o + k * 20) rfl u _ d1 Try.underlying23 rfl hu.size23 ?_)
                    | (refine wpList_store_row rfl 23 (.tmp 18) (.tmp 100) rfl wr.heap.size u.toArray rfl rfl 23 _ (heap_alloc_last wr _) hu.size23 HSZu.out ONEu.out ?_; rw [World.setRow_alloc_new])
                    | (refine wpList_load_mid rfl 23 (.tmp 108) rfl b (o + q * 20) rfl y _ d2 Try.underlying23 rfl hy.size23 ?_)
                    | (refine wpList_store_row rfl 23 (.tmp 18) (.tmp 109) rfl wr.heap.size y.toArray rfl rfl 23 _ (heap_alloc_last wr _) hy.size23 (HSZu.out.symm.trans HSZ.out) ONE.out ?_; rw [World.setRow_alloc_new]; simp only [Act.put, List.setIfInBounds_toArray, List.set_cons_zero, List.set_cons_succ]))
                  refine wp_region_quiet_lit (by kernel_rfl) (by kernel_rfl) ?_
                  refine q_move (.slice (some ⟨g, 0, none⟩) q (q + 1)) (.tmp 12) rfl rfl rfl ?_
                  simp only [Act.put, List.setIfInBounds_toArray, List.set_cons_zero, List.set_cons_succ]
                  refine q_move (.int .i64 k) (.tmp 17) rfl rfl rfl ?_
                  simp only [Act.put, List.setIfInBounds_toArray, List.set_cons_zero, List.set_cons_succ]
                  refine q_index25 (.tmp 110) (.tmp 111) g q (q + 1) k rfl rfl rfl rfl hlt ?_
                  simp only [Act.put, List.setIfInBounds_toArray, List.set_cons_zero, List.set_cons_succ]
                  refine q_load 32 (.tmp 112) g (k * 20) y rfl rfl rfl (fun W hW => by obtain ⟨q, rfl⟩ := hW; exact c1.out) Try.underlying32 rfl hy.size32 ?_
                  simp only [Act.put, List.setIfInBounds_toArray, List.set_cons_zero, List.set_cons_succ]
                  refine q_load 23 (.tmp 18) wr.heap.size 0 y rfl rfl rfl (fun W hW => by obtain ⟨q, rfl⟩ := hW; exact c2.out) Try.underlying23 rfl hy.size23 ?_
                  simp only [Act.put, List.setIfInBounds_toArray, List.set_cons_zero, List.set_cons_succ]
                  refine q_neq (.tmp 113) (.tmp 114) y.toArray y.toArray true false rfl rfl rfl rfl rfl HEQ.out ?_
                  simp only [Act.put, List.setIfInBounds_toArray, List.set_cons_zero, List.set_cons_succ]
                  refine wpQuiet_nil ?_
                  intro _ hw'
                  obtain ⟨nq, hw''⟩ := hw'
                  subst hw''
                  have HL2 : Hid (∀ W : World, W.heap = (wr.alloc (.cells y.toArray 23)).heap → (Instr.lookup 26 (.map (some m)) (.agg y.toArray) true).run Try.prog W = .ok (.tuple #[.int .i64 k, .bool true]) W) := fun W hW => (HSW.out.kept ⟨rfl, rfl, rfl, Nat.le_refl _, fun _ _ _ => rfl⟩ |>.of_heap (by rw [hW]) (by rw [hW]) (by rw [hW]) (by rw [hW]; exact Nat.le_refl _)).look_yes HYL.out
                  have hlk := HL2.out ((wr.alloc (.cells y.toArray 23)).drewN nq) rfl
                  have c3 : ((wr.alloc (.cells y.toArray 23)).drewN nq).rangeAt g (k * 20) y := c1.out
                  go_wp2_with (refine wpList_load_mid rfl 32 (.tmp 120) rfl g (k * 20) rfl y _ c3 Try.underlying32 rfl hy.size32 ?_)
                  go_roundw
                  case rel => exact ⟨k + 1, by omega, by go_num, (HBW.out.alloc _).drewN nq⟩
                  case measure => simp [intOf]; omega
                · rw [if_neg hki] at hget
                  have d1 : wr.rangeAt b (o + k * 20) y := HC.out k y hget.symm
                  have hkz : Hid (((k : Int) == z) = false) := by show _ = _; rw [HZ.out]; simp; omega
                  clear hget HC hki
                  go_wp2_with (first
                    | (refine wpList_eql_int rfl (.tmp 101) (.tmp 102) rfl k z rfl rfl _ hkz.out ?_; simp only [Act.put, List.setIfInBounds_toArray, List.set_cons_zero, List.set_cons_succ])
                    | (refine wpList_load_mid rfl 23 (.tmp 99) rfl b (o + k * 20) rfl y _ d1 Try.underlying23 rfl hy.size23 ?_)
                    | (refine wpList_store_row rfl 23 (.tmp 18) (.tmp 100) rfl wr.heap.size y.toArray rfl rfl 23 _ (heap_alloc_last wr _) hy.size23 HSZ.out ONE.out ?_; rw [World.setRow_alloc_new]))
                  refine wp_region_quiet_lit (by kernel_rfl) (by kernel_rfl) ?_
                  refine q_move (.slice (some ⟨g, 0, none⟩) q (q + 1)) (.tmp 12) rfl rfl rfl ?_
                  simp only [Act.put, List.setIfInBounds_toArray, List.set_cons_zero, List.set_cons_succ]
                  refine q_move (.int .i64 k) (.tmp 17) rfl rfl rfl ?_
                  simp only [Act.put, List.setIfInBounds_toArray, List.set_cons_zero, List.set_cons_succ]
                  refine q_index25 (.tmp 110) (.tmp 111) g q (q + 1) k rfl rfl rfl rfl hlt ?_
                  simp only [Act.put, List.setIfInBounds_toArray, List.set_cons_zero, List.set_cons_succ]
                  refine q_load 32 (.tmp 112) g (k * 20) y rfl rfl rfl (fun W hW => by obtain ⟨q, rfl⟩ := hW; exact c1.out) Try.underlying32 rfl hy.size32 ?_
                  simp only [Act.put, List.setIfInBounds_toArray, List.set_cons_zero, List.set_cons_succ]
                  refine q_load 23 (.tmp 18) wr.heap.size 0 y rfl rfl rfl (fun W hW => by obtain ⟨q, rfl⟩ := hW; exact c2.out) Try.underlying23 rfl hy.size23 ?_
                  simp only [Act.put, List.setIfInBounds_toArray, List.set_cons_zero, List.set_cons_succ]
                  refine q_neq (.tmp 113) (.tmp 114) y.toArray y.toArray true false rfl rfl rfl rfl rfl HEQ.out ?_
                  simp only [Act.put, List.setIfInBounds_toArray, List.set_cons_zero, List.set_cons_succ]
                  refine wpQuiet_nil ?_
                  intro _ hw'
                  obtain ⟨nq, hw''⟩ := hw'
                  subst hw''
                  have HL2 : Hid (∀ W : World, W.heap = (wr.alloc (.cells y.toArray 23)).heap → (Instr.lookup 26 (.map (some m)) (.agg y.toArray) true).run Try.prog W = .ok (.tuple #[.int .i64 k, .bool true]) W) := fun W hW => (HSW.out.kept ⟨rfl, rfl, rfl, Nat.le_refl _, fun _ _ _ => rfl⟩ |>.of_heap (by rw [hW]) (by rw [hW]) (by rw [hW]) (by rw [hW]; exact Nat.le_refl _)).look_yes HYL.out
                  have hlk := HL2.out ((wr.alloc (.cells y.toArray 23)).drewN nq) rfl
                  have c3 : ((wr.alloc (.cells y.toArray 23)).drewN nq).rangeAt g (k * 20) y := c1.out
                  go_wp2_with (refine wpList_load_mid rfl 32 (.tmp 120) rfl g (k * 20) rfl y _ c3 Try.underlying32 rfl hy.size32 ?_)
                  go_roundw
                  case rel => exact ⟨k + 1, by omega, by go_num, (HBW.out.alloc _).drewN nq⟩
                  case measure => simp [intOf]; omega
              · have hfin : Below w.heap.size w wr := HB5.out.trans (HBW.out.below (fun k hk => hk.elim) HB5.out.size)
                go_wp2
                go_ret
                exact ⟨rfl, hfin⟩
          · have hz : z = -1 := by
              rcases HP.out with ⟨h, _⟩ | ⟨j, hj, _, hj2⟩
              · exact h
              · exact absurd (List.mem_of_getElem? hj2) hni
            subst hz
            have hql : L.length = n := HR.out.len
            have hlenm := fun ty => hst5.len ty
            have hc0 := hst5.c0
            rw [hql] at hlenm hc0
            have hC12 := zids ps (.slice (some ⟨g, 0, none⟩) n n) w5 ⟨_, _, _, rfl⟩ hc0
            have hC13 := zat ps m w5 hst5.c1
            have HST5 : Hid (St w5 ps g n m L) := hst5
            have HQL : Hid (L.length = n) := hql
            clear hst5 hql hni hc0 HP
            go_wp2_with (first
              | (go_at_call 12; refine hC12.mono ?_; rintro e w5 ⟨rfl, rfl⟩)
              | (go_at_call 13; refine hC13.mono ?_; rintro e w5 ⟨rfl, rfl⟩))
            clear hlenm hC12 hC13 hbx5 HND
            have hqb : (n : Int) ≤ 49932 := by omega
            clear hn1 hsz
            go_loopw [17] (fun i wr => ∃ k : Nat, k ≤ n ∧ i = .int .i64 k ∧ But Nought w5 wr) (fun i _ => n - (intOf i).toNat)
            case atStart => exact ⟨0, by omega, rfl, But.refl _ _⟩
            case round =>
              obtain ⟨k, hk, rfl, hbut⟩ := hrel
              have HBW : Hid (But Nought w5 wr) := hbut
              clear hbut
              by_cases hlt : k < n
              · obtain ⟨b, o, rfl, hbl, hcell⟩ := HR.out.cells (by omega)
                have HC : Hid (∀ (j : Nat) v, L[j]? = some v → wr.rangeAt b (o + j * 20) v) := fun j v hv => rangeAt_of_heap (rangeAt_of_heap (hcell j v hv) (HB5.out.block b hbl)) (HBW.out.block b (Nat.lt_of_lt_of_le hbl HB5.out.size) id)
                obtain ⟨y, hy0⟩ : ∃ y, L[k]? = some y := ⟨_, List.getElem?_eq_getElem (by rw [HQL.out]; exact hlt)⟩
                have hy : IsId y := HST5.out.row.ids y (List.mem_of_getElem? hy0)
                have HSW : Hid (St (wr.alloc (.cells y.toArray 23)) ps g n m L) := (HST5.out.kept HBW.out).box _
                have HYL : Hid (L[k]? = some y) := hy0
                have hgl : g < wr.heap.size := Nat.lt_of_lt_of_le HST5.out.lt.2.1 HBW.out.size
                have c1 : Hid ((wr.alloc (.cells y.toArray 23)).rangeAt g (k * 20) y) := HSW.out.row.rng k y hy0
                have c2 : Hid ((wr.alloc (.cells y.toArray 23)).rangeAt wr.heap.size 0 y) := rangeAt_box (heap_alloc_last wr _)
                have ONE : Hid (y.toArray.all (·.oneCell') = true) := all_oneCell_toArray hy.one
                have HSZ : Hid ((20 : Nat) = y.toArray.size) := by show _ = _; rw [List.size_toArray, hy.len]
                have HEQ : Hid (∀ W, (Op.equalIn 10000 23 (.agg y.toArray) (.agg y.toArray)).run Try.prog W = .ok true W) := fun W => eq23_yes hy W
                clear hy0 hcell
                have il0 : (0 : Int) ≤ (k : Int) := by omega
                have il1 : (k : Int) < (n : Int) := by omega
                have d1 : wr.rangeAt b (o + k * 20) y := HC.out k y HYL.out
                have hkz : Hid (((k : Int) == -1) = false) := by show _ = _; simp
                clear HC
                go_wp2_with (first
                  | (refine wpList_eql_int rfl (.tmp 101) (.tmp 102) rfl k (-1) rfl rfl _ hkz.out ?_; simp only [Act.put, List.setIfInBounds_toArray, List.set_cons_zero, List.set_cons_succ])
                  | (refine wpList_load_mid rfl 23 (.tmp 99) rfl b (o + k * 20) rfl y _ d1 Try.underlying23 rfl hy.size23 ?_)
                  | (refine wpList_store_row rfl 23 (.tmp 18) (.tmp 100) rfl wr.heap.size y.toArray rfl rfl 23 _ (heap_alloc_last wr _) hy.size23 HSZ.out ONE.out ?_; rw [World.setRow_alloc_new]))
                refine wp_region_quiet_lit (by kernel_rfl) (by kernel_rfl) ?_
                refine q_move (.slice (some ⟨g, 0, none⟩) n n) (.tmp 12) rfl rfl rfl ?_
                simp only [Act.put, List.setIfInBounds_toArray, List.set_cons_zero, List.set_cons_succ]
                refine q_move (.int .i64 k) (.tmp 17) rfl rfl rfl ?_
                simp only [Act.put, List.setIfInBounds_toArray, List.set_cons_zero, List.set_cons_succ]
                refine q_index25 (.tmp 110) (.tmp 111) g n n k rfl rfl rfl rfl hlt ?_
                simp only [Act.put, List.setIfInBounds_toArray, List.set_cons_zero, List.set_cons_succ]
                refine q_load 32 (.tmp 112) g (k * 20) y rfl rfl rfl (fun W hW => by obtain ⟨q, rfl⟩ := hW; exact c1.out) Try.underlying32 rfl hy.size32 ?_
                simp only [Act.put, List.setIfInBounds_toArray, List.set_cons_zero, List.set_cons_succ]
                refine q_load 23 (.tmp 18) wr.heap.size 0 y rfl rfl rfl (fun W hW => by obtain ⟨q, rfl⟩ := hW; exact c2.out) Try.underlying23 rfl hy.size23 ?_
                simp only [Act.put, List.setIfInBounds_toArray, List.set_cons_zero, List.set_cons_succ]
                refine q_neq (.tmp 113) (.tmp 114) y.toArray y.toArray true false rfl rfl rfl rfl rfl HEQ.out ?_
                simp only [Act.put, List.setIfInBounds_toArray, List.set_cons_zero, List.set_cons_succ]
                refine wpQuiet_nil ?_
                intro _ hw'
                obtain ⟨nq, hw''⟩ := hw'
                subst hw''
                have HL2 : Hid (∀ W : World, W.heap = (wr.alloc (.cells y.toArray 23)).heap → (Instr.lookup 26 (.map (some m)) (.agg y.toArray) true).run Try.prog W = .ok (.tuple #[.int .i64 k, .bool true]) W) := fun W hW => (HSW.out.kept ⟨rfl, rfl, rfl, Nat.le_refl _, fun _ _ _ => rfl⟩ |>.of_heap (by rw [hW]) (by rw [hW]) (by rw [hW]) (by rw [hW]; exact Nat.le_refl _)).look_yes HYL.out
                have hlk := HL2.out ((wr.alloc (.cells y.toArray 23)).drewN nq) rfl
                have c3 : ((wr.alloc (.cells y.toArray 23)).drewN nq).rangeAt g (k * 20) y := c1.out
                go_wp2_with (refine wpList_load_mid rfl 32 (.tmp 120) rfl g (k * 20) rfl y _ c3 Try.underlying32 rfl hy.size32 ?_)
                go_roundw
                case rel => exact ⟨k + 1, by omega, by go_num, (HBW.out.alloc _).drewN nq⟩
                case measure => simp [intOf]; omega
              · have hfin : Below w.heap.size w wr := HB5.out.trans (HBW.out.below (fun k hk => hk.elim) HB5.out.size)
                go_wp2
                go_ret
                exact ⟨rfl, hfin⟩
    · go_wp2
      go_ret
      exact ⟨rfl, hb3.out⟩
  · go_wp2
    go_ret
    exact ⟨rfl, hb2⟩

#print axioms law3
end Go.Proofs.Qxb6605954a
