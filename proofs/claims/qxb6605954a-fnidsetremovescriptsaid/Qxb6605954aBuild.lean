/-
  The contract of zzBuildIDs (9).
-/
import Derived.Test.Qxb6605954aMem
namespace Go.Proofs.Qxb6605954a
open Go.RowKit
set_option linter.unusedVariables false

theorem info32 : (Try.prog.info? 32).map (fun i => (i.zero, i.size, i.bytes)) = some (some (.agg noughts.toArray), 20, 20) := by kernel_rfl

theorem run_makeMapN {P : Program} {t k e : TypeId} (ht : P.underlying t = some (.map k e)) (n : Int) (w : World) : (Instr.makeMap t (some (.int .i64 n))).run P w = .ok (.map (some w.heap.size)) (w.alloc (.map #[] 0)) := by
  simp [Instr.makeMap, run_underlying ht, asInt, asIntOf]

theorem grownBy_setCells (w : World) (b o : Nat) (vs : List Value) : w.grownBy (w.setCells b o vs) (some b) := by
  have h := (But.refl (fun k => k = b) w).setCells b o rfl vs
  exact ⟨h.os, h.tape, h.output, h.size, fun k hk hne => h.block k hk (fun e => hne (by rw [e]))⟩

theorem heap_new_setCells (w : World) (ob : Obj) (g o : Nat) (vs : List Value) (h : g < w.heap.size) : ((w.alloc ob).setCells g o vs).heap[w.heap.size]? = some ob := by
  rw [heap_setCells_other _ _ _ _ _ (by omega)]
  exact heap_alloc_last w ob

/-- What zzBuildIDs leaves where it says yes: the ids' row, and the map that follows it. -/
def BuildYes (w0 : World) (n : Nat) (L : List (List Value)) (e : Ending) (w' : World) : Prop :=
  ∃ g m D, e = .returned (.tuple #[.slice (some ⟨g, 0, none⟩) n n, .map (some m), .bool true]) ∧ RowR w' g n L ∧ w'.ownsMap Try.prog 32 (plainElem Try.prog 3) m n D ∧ Mp D L ∧ w0.heap.size ≤ g ∧ w0.heap.size ≤ m ∧ g ≠ m
def BuildPost (w0 : World) (n : Nat) (L : List (List Value)) (e : Ending) (w' : World) : Prop :=
  BuildYes w0 n L e w' ∨ e = .returned (.tuple #[.slice none 0 0, .map none, .bool false])

/-- The slice of ids at ao reads as L. -/
structure Rid (w : World) (ao : Option Addr) (n : Nat) (L : List (List Value)) : Prop where
  len : L.length = n
  ids : ∀ x ∈ L, IsId x
  cells : 0 < n → ∃ b o, ao = some ⟨b, o, none⟩ ∧ b < w.heap.size ∧ ∀ (j : Nat) x, L[j]? = some x → w.rangeAt b (o + j * 20) x

theorem owns_room {w : World} {B g n : Nat} {cs : List Value} (h : w.ownsRow B 32 20 (.slice (some ⟨g, 0, none⟩) n n) n cs) : w.there g 0 (n * 20) := fun j hj => by
  rw [Nat.zero_add, h.cellAt j hj, h.frozenAt j, List.getElem?_eq_getElem (by rw [h.1]; exact hj)]
  exact ⟨rfl, rfl⟩

set_option maxHeartbeats 400000 in
set_option maxRecDepth 100000 in
theorem build_n (b o n c : Nat) (L : List (List Value)) (w : World) (hl : L.length = n) (hid : ∀ x ∈ L, IsId x) (hbl : b < w.heap.size) (hr : Hid (∀ (j : Nat) x, L[j]? = some x → w.rangeAt b (o + j * 20) x)) (hn : n ≤ 50000) :
    Calls Try.prog 9 #[.slice (some ⟨b, o, none⟩) n c] w fun e w' => BuildPost w n L e w' ∧ Below w.heap.size w w' := by
  obtain ⟨i0, hi, hz0, hz1, hz2⟩ := info_parts info32
  have hmm := fun w => run_makeMapN Try.underlying26 n w
  have HL : Hid (L.length = n) := hl
  clear hl
  go_enter Try.func9, Try.ntmps9
  go_wp2_with (at_make; refine wpList_make_full _ rfl (.tmp 12) (.tmp 12) 25 rfl w.heap.size 32 i0 (.agg noughts.toArray) 20 Try.underlying25 hi hz0 hz1 .i64 .i64 _ _ n rfl rfl rfl rfl (by rw [hz2]; omega) (by unfold maxLen; omega) (Nat.le_refl _) ?_)
  intro w1 hown1 hgrow1
  clear hi hz0 hz1 hz2
  have hb1 : Below w.heap.size w w1 := (Below.refl _ w).grown hgrow1 (Nat.le_refl _) (fun k hk => by cases hk)
  have hg1 := owns_room hown1
  have hlt1 : w.heap.size < w1.heap.size := (hown1.lt _ rfl).2
  clear hown1 hgrow1
  obtain ⟨g, hg⟩ : ∃ g, g = w.heap.size := ⟨_, rfl⟩
  obtain ⟨m, hm⟩ : ∃ m, m = w1.heap.size := ⟨_, rfl⟩
  go_wp2
  rw [← hg] at hg1 hlt1 ⊢
  rw [← hm] at hlt1 ⊢
  have HG : Hid (g = w.heap.size) := hg
  have HM : Hid (m = w1.heap.size) := hm
  have HNE : m ≠ g := by omega
  go_loopw [7] (fun i wr => ∃ k : Nat, k ≤ n ∧ i = .int .i64 k ∧ RowR wr g n (L.take k) ∧ (∃ D, wr.ownsMap Try.prog 32 (plainElem Try.prog 3) m k D ∧ Mp D (L.take k)) ∧ Below w.heap.size w wr) (fun i _ => n - (intOf i).toNat)
  case atStart =>
    refine ⟨0, by omega, rfl, ?_, ⟨.map [], ?_, Mp.start⟩, ?_⟩
    · exact ⟨fun j x h => by simp at h, World.there_alloc hg1 _, by simp, by simp; omega, fun x h => by simp at h⟩
    · rw [hm]; exact World.ownsMap_made _ _ _ _
    · exact hb1.alloc hb1.size _
  case round =>
    obtain ⟨k, hk, rfl, hrow, ⟨D, hown, hmp⟩, hb⟩ := hrel
    clear hg1 hb1 hg hm hmm
    by_cases hlt : k < n
    · obtain ⟨x, hx⟩ : ∃ x, L[k]? = some x := ⟨_, List.getElem?_eq_getElem (by rw [HL.out]; exact hlt)⟩
      have idx : IsId x := hid x (List.mem_of_getElem? hx)
      have hx1 : wr.rangeAt b (o + k * 20) x := rangeAt_of_heap (hr.out k x hx) (hb.block b hbl)
      have HX : Hid (L[k]? = some x) := hx
      clear hx
      obtain ⟨l, hl⟩ := idx.key
      have one : x.toArray.all (·.oneCell') = true := all_oneCell_toArray idx.one
      have hsz : (20 : Nat) = x.toArray.size := by rw [List.size_toArray, idx.len]
      have HSZ : Hid ((20 : Nat) = x.toArray.size) := hsz
      have ONE : Hid (x.toArray.all (·.oneCell') = true) := one
      clear one hsz
      have hgl : g < wr.heap.size := hrow.lt
      have hml : m < wr.heap.size := hown.lt
      by_cases hin : x ∈ L.take k
      · have hh : Maps.has D l = true := (hmp.has x l hl).2 hin
        clear hin hmp hrow
        go_wp2_with (first
          | (refine wpList_load_mid rfl 23 (.tmp 25) rfl b (o + k * 20) rfl x _ hx1 Try.underlying23 rfl idx.size23 ?_)
          | (refine wpList_store_row rfl 32 (.tmp 8) (.tmp 26) rfl wr.heap.size x.toArray rfl rfl 32 _ (heap_alloc_last wr _) idx.size32 HSZ.out ONE.out ?_; rw [World.setRow_alloc_new])
          | (refine wpList_load_row rfl 32 (.tmp 8) rfl wr.heap.size rfl 32 x.toArray (0, 0) _ (heap_alloc_last wr _) Try.underlying32 rfl idx.size32 ?_)
          | (at_lookup; refine wpList_lookup_own_ok_int _ rfl _ _ 26 rfl 32 3 .i64 law32 Try.underlying26 Try.underlying3 (zero3 _) m k D rfl (hown.alloc _) _ l rfl hl ?_; intro ci hat hwc))
        go_ret3
        exact ⟨.inr rfl, hb.alloc hb.size _⟩
      · have hh : Maps.has D l = false := by
          cases e : Maps.has D l with
          | false => rfl
          | true => exact absurd ((hmp.has x l hl).1 e) hin
        have hLk : (L.take k).length = k := by rw [List.length_take, HL.out]; omega
        have hLs : L.take (k + 1) = L.take k ++ [x] := by rw [List.take_add_one, HX.out]; rfl
        have hpush : ∀ ob, RowR ((wr.alloc ob).setCells g (k * 20) x) g n (L.take (k + 1)) := fun ob => by
          have h := (hrow.of_heap (w' := wr.alloc ob) (Below.heap_alloc _ _ _ hgl) (by simp)).push idx (by rw [hLk]; exact hlt)
          rw [hLk] at h
          rw [hLs]; exact h
        have hmp' : Mp (D.put l (i64d k)) (L.take (k + 1)) := by
          have h := hmp.snoc idx hl hin
          rw [hLk] at h
          rw [hLs]; exact h
        have hthere : ∀ ob, (wr.alloc ob).there g (k * 20) x.toArray.size := fun ob => by
          rw [← HSZ.out]; exact World.there_alloc (hrow.at hlt) ob
        have hown2 : ∀ ob, ((wr.alloc ob).setCells g (k * 20) x).ownsMap Try.prog 32 (plainElem Try.prog 3) m k D := fun ob => (hown.alloc ob).kept (grownBy_setCells _ _ _ _) (by simpa using HNE)
        clear hLk hLs hin hmp hrow
        go_wp2_with (first
          | (refine wpList_load_mid rfl 23 (.tmp 25) rfl b (o + k * 20) rfl x _ hx1 Try.underlying23 rfl idx.size23 ?_)
          | (refine wpList_store_row rfl 32 (.tmp 8) (.tmp 26) rfl wr.heap.size x.toArray rfl rfl 32 _ (heap_alloc_last wr _) idx.size32 HSZ.out ONE.out ?_; rw [World.setRow_alloc_new])
          | (refine wpList_load_row rfl 32 (.tmp 8) rfl wr.heap.size rfl 32 x.toArray (0, 0) _ (heap_alloc_last wr _) Try.underlying32 rfl idx.size32 ?_)
          | (at_lookup; refine wpList_lookup_own_ok_int _ rfl _ _ 26 rfl 32 3 .i64 law32 Try.underlying26 Try.underlying3 (zero3 _) m k D rfl (hown.alloc _) _ l rfl hl ?_; intro ci hat hwc)
          | (refine wpList_store_mid rfl 32 (.tmp 37) (.tmp 36) rfl g (k * 20) x.toArray rfl rfl (hthere _) idx.size32 ONE.out ?_)
          | (refine wpList_load_row rfl 32 (.tmp 8) rfl wr.heap.size rfl 32 x.toArray (0, 0) _ (heap_new_setCells wr _ g _ _ hgl) Try.underlying32 rfl idx.size32 ?_)
          | (at_mapUpdate; refine wpList_mapUpdate_own _ rfl _ _ _ 26 rfl 32 3 law32 Try.underlying26 _ m k D rfl (hown2 _) (by unfold maxLen; omega) _ _ l rfl rfl hl (i64d k) [] (plainElem_int Try.underlying3 (WalkArith.wf_i64 (by omega))) ?_; intro w3 hown3 hgrow3))
        have hp := (hpush (.cells x.toArray 32)).of_heap (w' := w3) (hgrow3.block g (by rw [size_setCells]; simp; omega) (by simpa using HNE.symm)) hgrow3.size
        have hb3 : Below w.heap.size w w3 := by
          have h1 : Below w.heap.size w (wr.alloc (.cells x.toArray 32)) := hb.alloc hb.size _
          have h2 : Below w.heap.size w ((wr.alloc (.cells x.toArray 32)).setCells g (k * 20) x) := h1.grown (grownBy_setCells _ _ _ _) h1.size (fun k' hk' => by cases hk'; rw [HG.out]; exact Nat.le_refl _)
          exact h2.grown hgrow3 h2.size (fun k' hk' => by cases hk'; have := HG.out; omega)
        clear hown2 hthere hpush hgrow3
        go_wp2
        go_roundw
        case rel => exact ⟨k + 1, by omega, by go_num, hp, ⟨_, hown3, hmp'⟩, hb3⟩
        case measure => simp [intOf]; omega
    · have ek : k = n := by omega
      have eL : L.take k = L := List.take_of_length_le (by rw [HL.out]; omega)
      rw [eL] at hrow hmp
      rw [ek] at hown
      clear ek eL
      go_wp2
      go_ret3
      exact ⟨.inl ⟨g, m, D, rfl, hrow, hown, hmp, by rw [HG.out]; exact Nat.le_refl _, by have := HG.out; omega, HNE.symm⟩, hb⟩

set_option maxHeartbeats 400000 in
set_option maxRecDepth 100000 in
theorem build_zero (ao : Option Addr) (c : Nat) (w : World) :
    Calls Try.prog 9 #[.slice ao 0 c] w fun e w' => BuildPost w 0 [] e w' ∧ Below w.heap.size w w' := by
  obtain ⟨i0, hi, hz0, hz1, hz2⟩ := info_parts info32
  have hmm := fun w => run_makeMapN Try.underlying26 0 w
  go_enter Try.func9, Try.ntmps9
  go_wp2_with (at_make; refine wpList_make_full _ rfl (.tmp 12) (.tmp 12) 25 rfl w.heap.size 32 i0 (.agg noughts.toArray) 20 Try.underlying25 hi hz0 hz1 .i64 .i64 _ _ 0 rfl rfl rfl rfl (by rw [hz2]; omega) (by unfold maxLen; omega) (Nat.le_refl _) ?_)
  intro w1 hown1 hgrow1
  clear hi hz0 hz1 hz2
  have hb1 : Below w.heap.size w w1 := (Below.refl _ w).grown hgrow1 (Nat.le_refl _) (fun k hk => by cases hk)
  have hg1 := owns_room hown1
  have hlt1 : w.heap.size < w1.heap.size := (hown1.lt _ rfl).2
  clear hown1 hgrow1
  go_wp2
  refine wp_loop_rounds 1 ?_
  rw [rounds_succ]
  go_wp2
  go_ret3
  refine ⟨.inl ⟨w.heap.size, w1.heap.size, .map [], rfl, ?_, World.ownsMap_made _ _ _ _, Mp.start, Nat.le_refl _, by omega, by omega⟩, hb1.alloc hb1.size _⟩
  exact ⟨fun j x h => by simp at h, World.there_alloc hg1 _, by simp, by simp; omega, fun x h => by simp at h⟩

/-- zzBuildIDs. -/
theorem build (ao : Option Addr) (n c : Nat) (L : List (List Value)) (w : World) (hr : Rid w ao n L) (hn : n ≤ 50000) :
    Calls Try.prog 9 #[.slice ao n c] w fun e w' => BuildPost w n L e w' ∧ Below w.heap.size w w' := by
  by_cases h0 : 0 < n
  · obtain ⟨b, o, rfl, hbl, hc⟩ := hr.cells h0
    exact build_n b o n c L w hr.len hr.ids hbl hc hn
  · have e0 : n = 0 := by omega
    subst e0
    have eL : L = [] := List.eq_nil_of_length_eq_zero hr.len
    subst eL
    exact build_zero ao c w

#print axioms build
end Go.Proofs.Qxb6605954a
