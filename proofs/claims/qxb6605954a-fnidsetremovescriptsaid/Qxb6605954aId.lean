/-
  An id is a list of twenty cells; its key; the list's and the map's plain laws.
-/
import Derived.Test.Qxb6605954aRows
import Derived.DeepKeys4
import Derived.MapViews
import Derived.Maps.OwnSet
namespace Go.Proofs.Qxb6605954a
open Go.Maps (Keyed Tidy)
set_option linter.unusedVariables false

theorem laidOut : laidOutB Try.prog = true := by kernel_rfl
theorem row32 : (32 : TypeId) < Try.prog.types.size := of_decide_eq_true (by kernel_rfl)
theorem wide32 : (match Try.prog.underlying 32 with | some (.array _ _) | some (.struct _) => true | _ => false) = true := by rw [Try.underlying32]
theorem wide23 : (match Try.prog.underlying 23 with | some (.array _ _) | some (.struct _) => true | _ => false) = true := by rw [Try.underlying23]
theorem keyAt23 : Try.prog.keyTypeAt 2 23 = true := by kernel_rfl
set_option maxRecDepth 100000 in
theorem law32 : Keyed Try.prog 32 := Keyed.of_law (deep_law_laid laidOut (m := 2) (by omega) row32 (by kernel_rfl) wide32)

/-- x, as a key of the map, reads as l. -/
def KeyIs (x : List Value) (l : Lit) : Prop := keyOf Try.prog 32 (.agg x.toArray) = some l

structure IsId (x : List Value) : Prop where
  len : x.length = 20
  one : ∀ v ∈ x, v.oneCell' = true
  key : ∃ l, KeyIs x l
  key' : ∃ l, keyOf Try.prog 23 (.agg x.toArray) = some l

theorem KeyIs.inj {x y : List Value} {l : Lit} (hx : KeyIs x l) (hy : KeyIs y l) : x = y := by
  have := law32.inj hx hy
  simpa using this
theorem KeyIs.same {x : List Value} {l l' : Lit} (hx : KeyIs x l) (hy : KeyIs x l') : l = l' := by
  have h1 : some l = some l' := hx.symm.trans hy
  exact Option.some.inj h1
theorem KeyIs.ne {x y : List Value} {l l' : Lit} (hx : KeyIs x l) (hy : KeyIs y l') (h : x ≠ y) : l ≠ l' := fun e => h (hx.inj (e ▸ hy))
theorem KeyIs.lit {x : List Value} {l : Lit} (hx : KeyIs x l) : WideAt.IsKeyLit l := law32.key hx

set_option maxRecDepth 100000 in
theorem eq23_yes {x : List Value} (hx : IsId x) (w : World) : (Op.equalIn 10000 23 (.agg x.toArray) (.agg x.toArray)).run Try.prog w = .ok true w := by
  obtain ⟨l, hl⟩ := hx.key'
  obtain ⟨r, hr, hiff⟩ := run_equal_deep w (m := 2) (by omega) keyAt23 wide23 hl hl
  rw [hiff.2 rfl] at hr
  exact hr
set_option maxRecDepth 100000 in
theorem law23 : Keyed Try.prog 23 := Keyed.of_law (deep_law_laid laidOut (m := 2) (by omega) (show (23 : TypeId) < Try.prog.types.size from of_decide_eq_true (by kernel_rfl)) (by kernel_rfl) wide23)
set_option maxRecDepth 100000 in
theorem eq23_no {x y : List Value} (hx : IsId x) (hy : IsId y) (h : x ≠ y) (w : World) : (Op.equalIn 10000 23 (.agg x.toArray) (.agg y.toArray)).run Try.prog w = .ok false w := by
  obtain ⟨l, hl⟩ := hx.key'
  obtain ⟨l', hl'⟩ := hy.key'
  obtain ⟨r, hr, hiff⟩ := run_equal_deep w (m := 2) (by omega) keyAt23 wide23 hl hl'
  have hne : l ≠ l' := fun e => h (by subst e; have := law23.inj hl hl'; simpa using this)
  have hf : r = false := by
    cases r with
    | false => rfl
    | true => exact absurd (hiff.1 rfl) hne
  rw [hf] at hr
  exact hr

/-! ### the list: slot i takes the last one's id, and the list gets shorter by one -/
def lastOf (L : List (List Value)) : List Value := L.getD (L.length - 1) []
def rem (L : List (List Value)) (i : Nat) : List (List Value) := (L.set i (lastOf L)).take (L.length - 1)

theorem rem_length (L : List (List Value)) (i : Nat) (h : i < L.length) : (rem L i).length = L.length - 1 := by simp [rem]
theorem lastOf_get (L : List (List Value)) (h : 0 < L.length) : L[L.length - 1]? = some (lastOf L) := by
  simp only [lastOf, List.getD_eq_getElem?_getD]
  rw [List.getElem?_eq_getElem (by omega)]
  rfl
theorem rem_get (L : List (List Value)) (i j : Nat) (hj : j < L.length - 1) : (rem L i)[j]? = if j = i then some (lastOf L) else L[j]? := by
  rw [rem, List.getElem?_take, if_pos hj]
  by_cases e : j = i
  · subst e; rw [if_pos rfl, List.getElem?_set_self (by omega)]
  · rw [if_neg e, List.getElem?_set_ne (by omega)]

theorem nodup_get {L : List (List Value)} (h : L.Nodup) {i j : Nat} {x : List Value} (hi : L[i]? = some x) (hj : L[j]? = some x) : i = j := by
  obtain ⟨hi1, hi2⟩ := List.getElem?_eq_some_iff.1 hi
  obtain ⟨hj1, hj2⟩ := List.getElem?_eq_some_iff.1 hj
  by_cases hlt : i < j
  · exact absurd (hi2.trans hj2.symm) (List.pairwise_iff_getElem.1 h i j hi1 hj1 hlt)
  · by_cases hgt : j < i
    · exact absurd (hj2.trans hi2.symm) (List.pairwise_iff_getElem.1 h j i hj1 hi1 hgt)
    · omega

theorem rem_mem {L : List (List Value)} (hn : L.Nodup) {i : Nat} {x : List Value} (hi : L[i]? = some x) (z : List Value) : z ∈ rem L i ↔ z ∈ L ∧ z ≠ x := by
  have hil : i < L.length := (List.getElem?_eq_some_iff.1 hi).1
  constructor
  · intro hz
    obtain ⟨j, hj⟩ := List.getElem?_of_mem hz
    have hjl : j < L.length - 1 := by have := (List.getElem?_eq_some_iff.1 hj).1; rw [rem_length L i hil] at this; exact this
    rw [rem_get L i j hjl] at hj
    by_cases e : j = i
    · rw [if_pos e, ← lastOf_get L (by omega)] at hj
      refine ⟨List.mem_of_getElem? hj, fun ez => ?_⟩
      subst ez
      have := nodup_get hn hj hi
      omega
    · rw [if_neg e] at hj
      refine ⟨List.mem_of_getElem? hj, fun ez => ?_⟩
      subst ez
      exact e (nodup_get hn hj hi)
  · rintro ⟨hz, hne⟩
    obtain ⟨k, hk⟩ := List.getElem?_of_mem hz
    have hkl : k < L.length := (List.getElem?_eq_some_iff.1 hk).1
    have hki : k ≠ i := fun e => by subst e; rw [hk] at hi; exact hne (Option.some.inj hi)
    by_cases e : k = L.length - 1
    · have h1 := rem_get L i i (by omega)
      rw [if_pos rfl, ← lastOf_get L (by omega), ← e, hk] at h1
      exact List.mem_of_getElem? h1
    · have h1 := rem_get L i k (by omega)
      rw [if_neg hki, hk] at h1
      exact List.mem_of_getElem? h1

theorem rem_nodup {L : List (List Value)} (hn : L.Nodup) {i : Nat} (hil : i < L.length) : (rem L i).Nodup := by
  refine List.pairwise_iff_getElem.2 fun a b ha hb hab => ?_
  rw [rem_length L i hil] at ha hb
  intro e
  have h1 := rem_get L i a ha
  have h2 := rem_get L i b hb
  have e1 : (rem L i)[a]? = (rem L i)[b]? := by
    rw [List.getElem?_eq_getElem (by rw [rem_length L i hil]; exact ha), List.getElem?_eq_getElem (by rw [rem_length L i hil]; exact hb), e]
  rw [h1, h2] at e1
  have hl := lastOf_get L (by omega)
  by_cases ea : a = i
  · by_cases eb : b = i
    · omega
    · rw [if_pos ea, if_neg eb] at e1
      have := nodup_get hn e1.symm hl
      omega
  · by_cases eb : b = i
    · rw [if_neg ea, if_pos eb] at e1
      have := nodup_get hn e1 hl
      omega
    · rw [if_neg ea, if_neg eb, List.getElem?_eq_getElem (show a < L.length by omega)] at e1
      have := nodup_get hn (List.getElem?_eq_getElem (show a < L.length by omega)) e1.symm
      omega

/-! ### the map -/
abbrev i64d (n : Int) : DataW Unit := .lit (.int .i64 n)

/-- The index map D follows the list L. -/
structure Mp (D : DataW Unit) (L : List (List Value)) : Prop where
  tidy : Tidy D
  has : ∀ x l, KeyIs x l → (Maps.has D l = true ↔ x ∈ L)
  pos : ∀ (j : Nat) x l, L[j]? = some x → KeyIs x l → D.atKey l (i64d 0) = i64d j
  size : Maps.size D = L.length
  ids : ∀ x ∈ L, IsId x
  nodup : L.Nodup

theorem Mp.start : Mp (.map []) [] where
  tidy := Maps.tidy_empty
  has := fun x l _ => by simp [Maps.has_eq]
  pos := fun j x l h => by simp at h
  size := rfl
  ids := fun x h => by simp at h
  nodup := List.nodup_nil

theorem Mp.snoc {D : DataW Unit} {L : List (List Value)} {x : List Value} {l : Lit} (h : Mp D L) (hx : IsId x) (hl : KeyIs x l) (hn : x ∉ L) : Mp (D.put l (i64d L.length)) (L ++ [x]) where
  tidy := h.tidy.put hl.lit _
  has := fun y k hk => by
    by_cases e : y = x
    · subst e
      rw [hk.same hl, Maps.has_put_same h.tidy.isMap hl.lit]
      simp
    · rw [Maps.has_put_other (hk.ne hl e), h.has y k hk]
      simp [e]
  pos := fun j y k hj hk => by
    by_cases e : j < L.length
    · rw [List.getElem?_append_left e] at hj
      have hne : y ≠ x := fun ey => hn (ey ▸ List.mem_of_getElem? hj)
      rw [Maps.atKey_put_other (hk.ne hl hne)]
      exact h.pos j y k hj hk
    · have hjl : j < (L ++ [x]).length := (List.getElem?_eq_some_iff.1 hj).1
      simp only [List.length_append, List.length_cons, List.length_nil] at hjl
      have ej : j = L.length := by omega
      subst ej
      simp at hj
      subst hj
      rw [hk.same hl, Maps.atKey_put_same h.tidy.isMap hl.lit]
  size := by
    have hf : Maps.has D l = false := by
      cases e : Maps.has D l with
      | false => rfl
      | true => exact absurd ((h.has x l hl).1 e) hn
    rw [Maps.size_put h.tidy, hf, h.size]
    simp
  ids := fun y hy => by
    rcases List.mem_append.1 hy with hy | hy
    · exact h.ids y hy
    · simp at hy; subst hy; exact hx
  nodup := by
    refine List.nodup_append.2 ⟨h.nodup, by simp, fun a ha b hb => ?_⟩
    simp at hb
    subst hb
    exact fun e => hn (e ▸ ha)

theorem Mp.remove {D : DataW Unit} {L : List (List Value)} {x : List Value} {l ly : Lit} {i : Nat} (h : Mp D L) (hi : L[i]? = some x) (hl : KeyIs x l) (hly : KeyIs (lastOf L) ly) : Mp ((D.put ly (i64d i)).del l) (rem L i) where
  tidy := (h.tidy.put hly.lit _).del _
  has := fun y k hk => by
    have hil : i < L.length := (List.getElem?_eq_some_iff.1 hi).1
    rw [rem_mem h.nodup hi y]
    by_cases e : y = x
    · subst e
      rw [hk.same hl, Maps.has_del_same]
      simp
    · rw [Maps.has_del_other (hk.ne hl e)]
      by_cases e2 : y = lastOf L
      · rw [e2] at hk ⊢
        rw [hk.same hly, Maps.has_put_same h.tidy.isMap hly.lit]
        have : lastOf L ∈ L := List.mem_of_getElem? (lastOf_get L (by omega))
        simp [this]
        exact fun q => e (e2.trans q)
      · rw [Maps.has_put_other (hk.ne hly e2), h.has y k hk]
        simp [e]
  pos := fun j y k hj hk => by
    have hil : i < L.length := (List.getElem?_eq_some_iff.1 hi).1
    have hjl : j < L.length - 1 := by have := (List.getElem?_eq_some_iff.1 hj).1; rw [rem_length L i hil] at this; exact this
    have hym : y ≠ x := ((rem_mem h.nodup hi y).1 (List.mem_of_getElem? hj)).2
    rw [Maps.atKey_del_other (hk.ne hl hym)]
    rw [rem_get L i j hjl] at hj
    by_cases e : j = i
    · rw [if_pos e] at hj
      have ey : y = lastOf L := (Option.some.inj hj).symm
      subst ey
      rw [hk.same hly, Maps.atKey_put_same h.tidy.isMap hly.lit, e]
    · rw [if_neg e] at hj
      have hne : y ≠ lastOf L := fun ey => by
        have := nodup_get h.nodup (ey ▸ hj) (lastOf_get L (by omega))
        omega
      rw [Maps.atKey_put_other (hk.ne hly hne)]
      exact h.pos j y k hj hk
  size := by
    have hil : i < L.length := (List.getElem?_eq_some_iff.1 hi).1
    have hlm : Maps.has D ly = true := (h.has _ _ hly).2 (List.mem_of_getElem? (lastOf_get L (by omega)))
    have s1 : Maps.size (D.put ly (i64d i)) = L.length := by rw [Maps.size_put h.tidy, hlm, h.size]; simp
    have hx : Maps.has (D.put ly (i64d i)) l = true := by
      by_cases e : x = lastOf L
      · rw [e] at hl; rw [hl.same hly, Maps.has_put_same h.tidy.isMap hly.lit]
      · rw [Maps.has_put_other (hl.ne hly e)]; exact (h.has _ _ hl).2 (List.mem_of_getElem? hi)
    have s2 := Maps.size_del (k := l) (h.tidy.put hly.lit (i64d i))
    rw [hx, s1] at s2
    rw [rem_length L i hil]
    simp at s2
    omega
  ids := fun y hy => h.ids y ((rem_mem h.nodup hi y).1 hy).1
  nodup := rem_nodup h.nodup (List.getElem?_eq_some_iff.1 hi).1

#print axioms Mp.snoc
#print axioms Mp.remove
end Go.Proofs.Qxb6605954a
