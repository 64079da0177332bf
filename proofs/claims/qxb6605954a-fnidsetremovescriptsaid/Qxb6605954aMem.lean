/-
  Rows of ids in memory; frames.
-/
import Derived.Test.Qxb6605954aId
import Derived.WalkKit
import Derived.WalkSmall
import Derived.BigQuiet
import Derived.Deep.MidRow
import Derived.Deep.WholeRow
import Derived.Deep.RegionHeld3
import Derived.Deep.DeepCutAuto
namespace Go.Proofs.Qxb6605954a
open Go.RowKit
set_option linter.unusedVariables false

theorem size32 : (Try.prog.info? 32).map (·.size) = some 20 := by kernel_rfl
theorem size23 : (Try.prog.info? 23).map (·.size) = some 20 := by kernel_rfl
theorem zero3 (w : World) : (zeroValue 3).run Try.prog w = .ok (.int .i64 0) w := by kernel_rfl

/-- Twenty noughts: an id's zero cells. -/
def noughts : List Value := List.replicate 20 (.int .u8 0)

theorem IsId.size32 {x : List Value} (h : IsId x) : (Try.prog.info? 32).map (·.size) = some x.length := by rw [Qxb6605954a.size32, h.len]
theorem IsId.size23 {x : List Value} (h : IsId x) : (Try.prog.info? 23).map (·.size) = some x.length := by rw [Qxb6605954a.size23, h.len]

/-- Of whatever block is not one of S nothing has turned. -/
structure But (S : Nat → Prop) (w w' : World) : Prop where
  os : w'.os = w.os
  tape : w'.tape = w.tape
  output : w'.output = w.output
  size : w.heap.size ≤ w'.heap.size
  block : ∀ k, k < w.heap.size → ¬ S k → w'.heap[k]? = w.heap[k]?

theorem But.refl (S : Nat → Prop) (w : World) : But S w w := ⟨rfl, rfl, rfl, Nat.le_refl _, fun _ _ _ => rfl⟩
theorem But.trans {S : Nat → Prop} {a b c : World} (h : But S a b) (k : But S b c) : But S a c :=
  ⟨k.os.trans h.os, k.tape.trans h.tape, k.output.trans h.output, Nat.le_trans h.size k.size, fun i hi hS => (k.block i (Nat.lt_of_lt_of_le hi h.size) hS).trans (h.block i hi hS)⟩
theorem But.drew {S : Nat → Prop} {a w : World} (h : But S a w) : But S a w.drew := ⟨h.os, h.tape, h.output, h.size, h.block⟩
theorem But.drewN {S : Nat → Prop} {a w : World} (h : But S a w) (n : Nat) : But S a (w.drewN n) := h.trans ⟨rfl, rfl, rfl, Nat.le_refl _, fun _ _ _ => rfl⟩
theorem But.alloc {S : Nat → Prop} {a w : World} (h : But S a w) (o : Obj) : But S a (w.alloc o) :=
  h.trans ⟨rfl, rfl, rfl, by simp, fun k hk _ => Below.heap_alloc _ _ _ hk⟩
theorem But.setCell {S : Nat → Prop} {a w : World} (h : But S a w) (p : Addr) (hp : S p.block) (u : Value) : But S a (w.setCell p u) :=
  h.trans ⟨rfl, rfl, rfl, by simp [World.setCell], fun k hk hS => Below.heap_setCell _ _ _ _ (fun e => hS (e ▸ hp))⟩
theorem But.grown {S : Nat → Prop} {a w w' : World} {row : Option Nat} (h : But S a w) (hg : w.grownBy w' row) (hr : ∀ k, row = some k → S k) : But S a w' :=
  h.trans ⟨hg.os, hg.tape, hg.output, hg.size, fun k hk hS => hg.block k hk (fun e => hS (hr k e.symm))⟩
theorem But.below {S : Nat → Prop} {w w' : World} (h : But S w w') {B : Nat} (hS : ∀ k, S k → B ≤ k) (hB : B ≤ w.heap.size) : Below B w w' :=
  ⟨h.os, h.tape, h.output, h.size, fun k hk => h.block k (by omega) (fun e => by have := hS k e; omega)⟩
theorem But.mono {S T : Nat → Prop} {w w' : World} (h : But S w w') (hST : ∀ k, S k → T k) : But T w w' := ⟨h.os, h.tape, h.output, h.size, fun k hk hT => h.block k hk (fun e => hT (hST k e))⟩

theorem heap_setCells_other (w : World) (b : Nat) : ∀ (vs : List Value) (o k : Nat), k ≠ b → (w.setCells b o vs).heap[k]? = w.heap[k]?
  | [], _, _, _ => rfl
  | v :: r, o, k, h => by
    rw [World.setCells]
    rw [heap_setCells_other (w.setCell ⟨b, o, none⟩ v) b r (o + 1) k h]
    exact Below.heap_setCell _ _ _ _ h
theorem size_setCells (w : World) (b : Nat) (vs : List Value) (o : Nat) : (w.setCells b o vs).heap.size = w.heap.size := by
  induction vs generalizing w o with
  | nil => rfl
  | cons v r ih => rw [World.setCells, ih]; simp [World.setCell]
theorem But.setCells {S : Nat → Prop} {a w : World} (h : But S a w) (b o : Nat) (hb : S b) (vs : List Value) : But S a (w.setCells b o vs) := by
  refine h.trans ⟨?_, ?_, ?_, by rw [size_setCells]; exact Nat.le_refl _, fun k hk hS => heap_setCells_other w b vs o k (fun e => hS (e ▸ hb))⟩
  · induction vs generalizing w o with
    | nil => rfl
    | cons v r ih => exact (ih (h.setCell ⟨b, o, none⟩ hb v) (o + 1)).trans rfl
  · induction vs generalizing w o with
    | nil => rfl
    | cons v r ih => exact (ih (h.setCell ⟨b, o, none⟩ hb v) (o + 1)).trans rfl
  · induction vs generalizing w o with
    | nil => rfl
    | cons v r ih => exact (ih (h.setCell ⟨b, o, none⟩ hb v) (o + 1)).trans rfl

theorem rangeAt_of_heap {w w' : World} {b o : Nat} {cs : List Value} (h : w.rangeAt b o cs) (hb : w'.heap[b]? = w.heap[b]?) : w'.rangeAt b o cs := fun j v hv => by
  rw [World.cell?_of_block (w := w) hb]; exact h j v hv
theorem there_of_heap {w w' : World} {b o n : Nat} (h : w.there b o n) (hb : w'.heap[b]? = w.heap[b]?) : w'.there b o n := fun j hj => by
  rw [World.cell?_of_block (w := w) hb, World.frozen?_of_block (w := w) hb]; exact h j hj

/-- Block g holds the ids L, one behind the other, and has room for n. -/
structure RowR (w : World) (g n : Nat) (L : List (List Value)) : Prop where
  rng : ∀ (j : Nat) x, L[j]? = some x → w.rangeAt g (j * 20) x
  room : w.there g 0 (n * 20)
  le : L.length ≤ n
  lt : g < w.heap.size
  ids : ∀ x ∈ L, IsId x

theorem RowR.of_heap {w w' : World} {g n : Nat} {L : List (List Value)} (h : RowR w g n L) (hb : w'.heap[g]? = w.heap[g]?) (hs : w.heap.size ≤ w'.heap.size) : RowR w' g n L :=
  ⟨fun j x hx => rangeAt_of_heap (h.rng j x hx) hb, there_of_heap h.room hb, h.le, Nat.lt_of_lt_of_le h.lt hs, h.ids⟩

theorem RowR.at {w : World} {g n : Nat} {L : List (List Value)} (h : RowR w g n L) {i : Nat} (hi : i < n) : w.there g (i * 20) 20 := fun j hj => by
  have := h.room (i * 20 + j) (by omega)
  rw [Nat.zero_add] at this
  exact this

theorem RowR.store {w : World} {g n : Nat} {L : List (List Value)} {x : List Value} (h : RowR w g n L) (hx : IsId x) {i : Nat} (hi : i < L.length) : RowR (w.setCells g (i * 20) x) g n (L.set i x) where
  rng := fun j y hy => by
    by_cases e : j = i
    · subst e
      rw [List.getElem?_set_self hi] at hy
      cases hy
      exact World.rangeAt_setCells_same _ _ _ _ (by rw [hx.len]; exact h.at (by have := h.le; omega))
    · rw [List.getElem?_set_ne (by omega)] at hy
      have hly := (h.ids y (List.mem_of_getElem? hy)).len
      exact World.rangeAt_setCells_apart (h.rng j y hy) _ _ _ (by rw [hly, hx.len]; omega)
  room := World.there_setCells h.room _ _ _
  le := by rw [List.length_set]; exact h.le
  lt := by rw [size_setCells]; exact h.lt
  ids := fun y hy => by
    rcases List.mem_or_eq_of_mem_set hy with hy | hy
    · exact h.ids y hy
    · subst hy; exact hx

theorem RowR.push {w : World} {g n : Nat} {L : List (List Value)} {x : List Value} (h : RowR w g n L) (hx : IsId x) (hi : L.length < n) : RowR (w.setCells g (L.length * 20) x) g n (L ++ [x]) where
  rng := fun j y hy => by
    by_cases e : j < L.length
    · rw [List.getElem?_append_left e] at hy
      have hly := (h.ids y (List.mem_of_getElem? hy)).len
      exact World.rangeAt_setCells_apart (h.rng j y hy) _ _ _ (by rw [hly, hx.len]; omega)
    · have hjl := (List.getElem?_eq_some_iff.1 hy).1
      simp only [List.length_append, List.length_cons, List.length_nil] at hjl
      have ej : j = L.length := by omega
      subst ej
      simp at hy
      subst hy
      exact World.rangeAt_setCells_same _ _ _ _ (by rw [hx.len]; exact h.at hi)
  room := World.there_setCells h.room _ _ _
  le := by simp; omega
  lt := by rw [size_setCells]; exact h.lt
  ids := fun y hy => by
    rcases List.mem_append.1 hy with hy | hy
    · exact h.ids y hy
    · simp at hy; subst hy; exact hx

theorem RowR.take {w : World} {g n : Nat} {L : List (List Value)} (h : RowR w g n L) (k : Nat) : RowR w g n (L.take k) where
  rng := fun j y hy => by
    rw [List.getElem?_take] at hy
    split at hy
    · exact h.rng j y hy
    · cases hy
  room := h.room
  le := by rw [List.length_take]; have := h.le; omega
  lt := h.lt
  ids := fun y hy => h.ids y (List.mem_of_mem_take hy)

#print axioms RowR.push
end Go.Proofs.Qxb6605954a
