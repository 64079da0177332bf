/-
  The hash-set model of FnIdSetRemoveScript: a map from ids to bools.
-/
import Derived.Test.Qxb6605954aLaw3
import Derived.Test.Qxb6605954aZz14
namespace Go.Proofs.Qxb6605954a
open Go.RowKit
open Go.Maps (Keyed Tidy)
set_option linter.unusedVariables false

abbrev bd (r : Bool) : DataW Unit := .lit (.bool r)

/-- The model D holds just the ids of L. -/
structure Md (D : DataW Unit) (L : List (List Value)) : Prop where
  tidy : Tidy D
  yes : ∀ x l, KeyIs x l → x ∈ L → D.atKey l (bd false) = bd true
  no : ∀ x l, KeyIs x l → x ∉ L → D.atKey l (bd false) = bd false

theorem Md.start : Md (.map []) [] where
  tidy := Maps.tidy_empty
  yes := fun x l _ h => by simp at h
  no := fun x l _ _ => WideAt.atKey_none _ (fun p hp => by simp at hp)

theorem Md.snoc {D : DataW Unit} {L : List (List Value)} {x : List Value} {l : Lit} (h : Md D L) (hl : KeyIs x l) : Md (D.put l (bd true)) (L ++ [x]) where
  tidy := h.tidy.put hl.lit _
  yes := fun y k hk hy => by
    by_cases e : y = x
    · subst e
      rw [hk.same hl, Maps.atKey_put_same h.tidy.isMap hl.lit]
    · rw [Maps.atKey_put_other (hk.ne hl e)]
      exact h.yes y k hk (by simpa [e] using hy)
  no := fun y k hk hy => by
    have e : y ≠ x := fun e => hy (by simp [e])
    rw [Maps.atKey_put_other (hk.ne hl e)]
    exact h.no y k hk (fun hm => hy (by simp [hm]))

theorem Md.remove {D : DataW Unit} {L L' : List (List Value)} {x : List Value} {l : Lit} (h : Md D L) (hl : KeyIs x l) (hm : ∀ z, z ∈ L' ↔ z ∈ L ∧ z ≠ x) : Md (D.del l) L' where
  tidy := h.tidy.del _
  yes := fun y k hk hy => by
    obtain ⟨h1, h2⟩ := (hm y).1 hy
    rw [Maps.atKey_del_other (hk.ne hl h2)]
    exact h.yes y k hk h1
  no := fun y k hk hy => by
    by_cases e : y = x
    · subst e
      rw [hk.same hl, Maps.atKey_del_same]
    · rw [Maps.atKey_del_other (hk.ne hl e)]
      exact h.no y k hk (fun h1 => hy ((hm y).2 ⟨h1, e⟩))

theorem plainElem_bool_inv {P : Program} {e : TypeId} (he : P.underlying e = some .bool) {v : Value} {z : DataW Unit × List MemPlace} (h : plainElem P e v = some z) : ∃ r, v = .bool r ∧ z = (.lit (.bool r), []) := by
  unfold plainElem at h
  rw [he] at h
  cases v <;> simp at h
  subst h
  exact ⟨_, rfl, rfl⟩

theorem zero4 (w : World) : (zeroValue 4).run Try.prog w = .ok (.bool false) w := by kernel_rfl

theorem look_bool {w : World} {b n : Nat} {D : DataW Unit} {x : List Value} {l : Lit} {r : Bool} (hown : w.ownsMap Try.prog 32 (plainElem Try.prog 4) b n D) (hl : KeyIs x l) (hat : D.atKey l (bd false) = bd r) :
    (Instr.lookup 37 (.map (some b)) (.agg x.toArray) false).run Try.prog w = .ok (.bool r) w := by
  obtain ⟨es, clock, hb, F, _, rfl⟩ := hown
  rcases Maps.fit_look false law32 Try.underlying37 (zero4 w) hb F hl with ⟨hrun, _, hz⟩ | ⟨e0, y, _, _, hrun, hRv, hz, _⟩
  · rw [hz] at hat
    have : r = false := by simpa using hat.symm
    rw [this]; exact hrun
  · obtain ⟨r', hv, rfl⟩ := plainElem_bool_inv Try.underlying4 hRv
    rw [hz] at hat
    have : r' = r := by simpa using hat
    rw [← this, ← hv]; exact hrun

/-- Block b is the model of L. -/
def MdR (w : World) (b n : Nat) (L : List (List Value)) : Prop := ∃ D, w.ownsMap Try.prog 32 (plainElem Try.prog 4) b n D ∧ Md D L

theorem MdR.lt {w : World} {b n : Nat} {L : List (List Value)} (h : MdR w b n L) : b < w.heap.size := by
  obtain ⟨D, ho, _⟩ := h
  exact ho.lt
theorem MdR.of_heap {w w' : World} {b n : Nat} {L : List (List Value)} (h : MdR w b n L) (hb : w'.heap[b]? = w.heap[b]?) : MdR w' b n L := by
  obtain ⟨D, ⟨es, clock, hx, r⟩, hm⟩ := h
  exact ⟨D, ⟨es, clock, hb.trans hx, r⟩, hm⟩
theorem MdR.look_yes {w : World} {b n : Nat} {L : List (List Value)} {x : List Value} (h : MdR w b n L) (hx : IsId x) (hin : x ∈ L) : (Instr.lookup 37 (.map (some b)) (.agg x.toArray) false).run Try.prog w = .ok (.bool true) w := by
  obtain ⟨D, ho, hm⟩ := h
  obtain ⟨l, hl⟩ := hx.key
  exact look_bool ho hl (hm.yes x l hl hin)
theorem MdR.look_no {w : World} {b n : Nat} {L : List (List Value)} {x : List Value} (h : MdR w b n L) (hx : IsId x) (hin : x ∉ L) : (Instr.lookup 37 (.map (some b)) (.agg x.toArray) false).run Try.prog w = .ok (.bool false) w := by
  obtain ⟨D, ho, hm⟩ := h
  obtain ⟨l, hl⟩ := hx.key
  exact look_bool ho hl (hm.no x l hl hin)

theorem wpList_put {b n : Nat} {L : List (List Value)} {x : List Value} {ops : Array Oper} {rest : List Oper} {o : Oper} {a : Act} {Q : Exit → Act → World → Prop} (w : World) (h : MdR w b n L) (hx : IsId x) (hn : n ≤ 100000)
    (hg : o.guard = none) (m xx v : Operand) (hop : o.op = Op.mapUpdate 37 m xx v) (hm : a.eval m = .map (some b)) (hxx : a.eval xx = .agg x.toArray) (hv : a.eval v = .bool true)
    (hK : ∀ w', MdR w' b (n + 1) (L ++ [x]) → But (fun k => k = b) w w' → wpList Try.prog ops Q rest (a.put o.dst undef) w') : wpList Try.prog ops Q (o :: rest) a w := by
  obtain ⟨D, ho, hmd⟩ := h
  obtain ⟨l, hl⟩ := hx.key
  refine wpList_mapUpdate_own w hg m xx v 37 hop 32 4 law32 Try.underlying37 _ b n D hm ho (by unfold maxLen; omega) _ _ l hxx hv hl (bd true) [] (plainElem_bool Try.underlying4 true) ?_
  intro w' ho' hgr
  exact hK w' ⟨_, ho', hmd.snoc hl⟩ ((But.refl _ w).grown hgr (fun k hk => by cases hk; rfl))

theorem wpList_del {b n : Nat} {L L' : List (List Value)} {x : List Value} {ops : Array Oper} {rest : List Oper} {o : Oper} {a : Act} {Q : Exit → Act → World → Prop} (w : World) (h : MdR w b n L) (hx : IsId x) (hmem : ∀ z, z ∈ L' ↔ z ∈ L ∧ z ≠ x)
    (hg : o.guard = none) (m xx : Operand) (hop : o.op = Op.call { callee := Callee.builtin Builtin.delete, args := #[m, xx], argTypes := #[37, 32] }) (hm : a.eval m = .map (some b)) (hxx : a.eval xx = .agg x.toArray)
    (hK : ∀ w', MdR w' b n L' → But (fun k => k = b) w w' → wpList Try.prog ops Q rest (a.put o.dst (.tuple #[])) w') : wpList Try.prog ops Q (o :: rest) a w := by
  obtain ⟨D, ho, hmd⟩ := h
  obtain ⟨l, hl⟩ := hx.key
  refine wpList_delete_own w hg m xx 37 32 hop 4 law32 Try.underlying37 _ b n D hm ho _ l hxx hl ?_
  intro w' ho' hgr
  exact hK w' ⟨_, ho', hmd.remove hl hmem⟩ ((But.refl _ w).grown hgr.grown (fun k hk => by cases hk; rfl))

#print axioms wpList_del
end Go.Proofs.Qxb6605954a
