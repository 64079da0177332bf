/-
  How slices and the map are told to the walks.
-/
import Derived.Test.Qxb6605708aRows
import Derived.WalkKit
import Derived.WalkSmall
import Derived.BigQuiet
import Derived.Maps.OwnSet
namespace Go.Proofs.Qxb6605708a
open Go.RowKit
open Go.Maps (Keyed int_keyed keyOf_int_mk)
set_option linter.unusedVariables false

/-- The slice at ao, of n elements, reads as the numbers xs. -/
structure Rk (k : IntKind) (w : World) (ao : Option Addr) (n : Nat) (xs : List Int) : Prop where
  len : xs.length = n
  cells : 0 < n → ∃ b o, ao = some ⟨b, o, none⟩ ∧ b < w.heap.size ∧ ∀ j, j < n → w.cell? ⟨b, o + j, none⟩ = some (.int k (xs.getD j 0))

theorem cell_kept {w w' : World} {a : Addr} {v : Value} (hb : Below w.heap.size w w') (h : w.cell? a = some v) : w'.cell? a = some v :=
  (hb.cell (World.block_lt_of_cell? w a h)).trans h

theorem Rk.kept {k : IntKind} {w w' : World} {ao : Option Addr} {n : Nat} {xs : List Int} (h : Rk k w ao n xs) (hb : Below w.heap.size w w') : Rk k w' ao n xs :=
  ⟨h.len, fun hn => by
    obtain ⟨b, o, e, hl, hc⟩ := h.cells hn
    exact ⟨b, o, e, Nat.lt_of_lt_of_le hl hb.size, fun j hj => cell_kept hb (hc j hj)⟩⟩

theorem Rk.cases {k : IntKind} {w : World} {ao : Option Addr} {n : Nat} {xs : List Int} (h : Rk k w ao n xs) : n < 1 ∨ ∃ b o, ao = some ⟨b, o, none⟩ ∧ b < w.heap.size ∧ ∀ j, j < n → w.cell? ⟨b, o + j, none⟩ = some (.int k (xs.getD j 0)) := by
  by_cases h0 : 0 < n
  · exact .inr (h.cells h0)
  · exact .inl (by omega)

/-- Every number of xs is an int32. -/
def Small (xs : List Int) : Prop := ∀ j, -2147483648 ≤ xs.getD j 0 ∧ xs.getD j 0 ≤ 2147483647

/-- Each of the first n numbers lies from 0 to below m. -/
def Ix (xs : List Int) (n m : Nat) : Prop := ∀ j, j < n → 0 ≤ xs.getD j 0 ∧ xs.getD j 0 < m

theorem Ix.step {xs : List Int} {k m : Nat} (h : Ix xs k m) (h0 : 0 ≤ xs.getD k 0) (h1 : xs.getD k 0 < m) : Ix xs (k + 1) m := by
  intro j hj
  by_cases e : j = k
  · subst e; exact ⟨h0, h1⟩
  · exact h j (by omega)

theorem grown_of_below {w w' : World} (hb : Below w.heap.size w w') : w.grownBy w' none := ⟨hb.os, hb.tape, hb.output, hb.size, fun k hk _ => hb.block k hk⟩

/-- What the walks are told of the map: its look-ups and its length, in every later world. -/
structure MapR (w : World) (mv : Value) (V : Int → Int) (L : Nat) : Prop where
  look : ∀ W, Below w.heap.size w W → ∀ e : Int, (Lit.int .i32 e).wf = true → (Instr.lookup 24 mv (.int .i32 e) false).run Try.prog W = .ok (.int .i64 (V e)) W
  len : ∀ W, Below w.heap.size w W → ∀ ty, (Builtin.len_ #[24] ty #[mv]).run Try.prog W = .ok (.int .i64 L) W
  size : L ≤ 9223372036854775807

theorem MapR.kept {w w' : World} {mv : Value} {V : Int → Int} {L : Nat} (h : MapR w mv V L) (hb : Below w.heap.size w w') : MapR w' mv V L :=
  ⟨fun W hW e he => h.look W (hb.trans (hW.mono hb.size)) e he, fun W hW ty => h.len W (hb.trans (hW.mono hb.size)) ty, h.size⟩

theorem law21 : Keyed Try.prog 21 := int_keyed Try.underlying21
theorem zero3 (w : World) : (zeroValue 3).run Try.prog w = .ok (.int .i64 0) w := by kernel_rfl

theorem MapR.nilMap (w : World) : MapR w (.map none) (fun _ => 0) 0 :=
  ⟨fun W _ e he => Maps.look_nil false law21 Try.underlying24 (zero3 W) (keyOf_int_mk Try.underlying21 he), fun W _ ty => Maps.len_nil Try.underlying24 ty, by omega⟩

/-- The element at a key, as a number. -/
def valAt {H : Type} (D : DataW H) (e : Int) : Int := match D.atKey (.int .i32 e) (.lit (.int .i64 0)) with | .lit (.int _ c) => c | _ => 0

theorem MapR.own {H : Type} {w : World} {b n : Nat} {D : DataW H} (hown : w.ownsMap Try.prog 21 (plainElem Try.prog 3) b n D) (hn : n ≤ 9223372036854775807) : MapR w (.map (some b)) (valAt D) (Maps.size D) where
  look := fun W hW e he => by
    have h := hown.kept (grown_of_below hW) (by simp)
    obtain ⟨c, hrun, hat, _⟩ := h.lookup_int law21 Try.underlying24 Try.underlying3 (zero3 W) (keyOf_int_mk Try.underlying21 he)
    rw [hrun]
    unfold valAt
    rw [hat]
  len := fun W hW ty => (hown.kept (grown_of_below hW) (by simp)).len Try.underlying24 ty
  size := Nat.le_trans hown.size_le hn

/-- Either the answer is true, and p; or it is false. -/
def YesOr (p : Prop) (e : Ending) : Prop := (e = .returned (.bool true) ∧ p) ∨ e = .returned (.bool false)

#print axioms MapR.own
end Go.Proofs.Qxb6605708a
