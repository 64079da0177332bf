/-
  The arguments opened: an id, a slice of ids.
-/
import Derived.Test.Qxb6605954aBuild
import Derived.ProofKit
import Derived.OpenShut
import Derived.ChangeOld
import Derived.Below
import Derived.Deep.Slices
namespace Go.Proofs.Qxb6605954a
open Go.ChangeShapes Go.WideShapes Go.ChangeAt Go.RowKit Go.WideElems
set_option linter.unusedVariables false

theorem cells23 : Try.prog.cellsOf 23 = 20 := by kernel_rfl
theorem cells32 : Try.prog.cellsOf 32 = 20 := by kernel_rfl
theorem cells5 : Try.prog.cellsOf 5 = 1 := by kernel_rfl

section
variable {H : Type} {enc : TypeId × Value → H} {w : World} {base : Nat} {spare : Nat → Bool} {held : Bool} {fuel : Nat}

theorem trod32 {cs : List Value} {x : DataW H × List MemPlace} (h : DataW.trod enc Try.prog w base spare held fuel 23 cs = some x) : DataW.trod enc Try.prog w base spare held fuel 32 cs = some x := by
  cases fuel with
  | zero => simp [DataW.trod] at h
  | succ n =>
    rw [DataW.trod_step] at h ⊢
    unfold DataW.trodStep at h ⊢
    simp only [Try.underlying23, cells23] at h
    simp only [Try.underlying32, cells32]
    exact h

set_option maxRecDepth 100000 in
theorem isId_of_trod {cs : List Value} {x : DataW H × List MemPlace} (h : DataW.trod enc Try.prog w base spare held fuel 23 cs = some x) : IsId cs := by
  obtain ⟨xs, m, _, _, hl, hxl, hx⟩ := DataW.trod_array Try.underlying23 h
  rw [cells23] at hl
  refine ⟨hl, fun v hv => ?_, ?_, ?_⟩
  · obtain ⟨i, hi⟩ := List.getElem?_of_mem hv
    have hil : i < 20 := by have := (List.getElem?_eq_some_iff.1 hi).1; omega
    have h1 := hx i hil
    rw [cells5, Nat.mul_one, List.getElem?_eq_getElem (by omega)] at h1
    obtain ⟨q, hq, _⟩ := DataW.trod_int Try.underlying5 h1
    have hd : (cs.drop i).take 1 = [v] := by
      obtain ⟨h2, h3⟩ := List.getElem?_eq_some_iff.1 hi
      rw [List.drop_eq_getElem_cons h2, h3]; rfl
    rw [hd] at hq
    have : v = .int .u8 q := by simpa using hq
    rw [this]; rfl
  · exact ⟨_, (keyOf_asKey (k := 32) (d := x.1) (ps := x.2) (by kernel_rfl) wide32 (by simp [Value.formed, Try.underlying32, cells32, hl]) ⟨fuel, trod32 (x := x) (by simpa [Value.cells] using h)⟩).1⟩
  · exact ⟨_, (keyOf_asKey (k := 23) (d := x.1) (ps := x.2) (by kernel_rfl) wide23 (by simp [Value.formed, Try.underlying23, cells23, hl]) ⟨fuel, by simpa [Value.cells] using h⟩).1⟩

/-- A slice of ids that came in. -/
theorem rid_of_trod {a : Option Addr} {len cap : Nat} {d : DataW H} {p : List MemPlace} (h : DataW.Trod enc Try.prog w base spare held 22 (.slice a len cap) d p) : ∃ L, Rid w a len L ∧ len ≤ maxLen := by
  obtain ⟨fuel, hf⟩ := h
  rcases Deep.open_slice Try.underlying22 hf with ⟨hcs, _⟩ | ⟨x, l, c, m, n, D, Pl, hcs, _, hl, hm, hmm, _, hx⟩
  · simp [Value.cells] at hcs
    obtain ⟨rfl, rfl, rfl⟩ := hcs
    exact ⟨[], ⟨rfl, fun y hy => by simp at hy, fun h0 => absurd h0 (Nat.lt_irrefl 0)⟩, Nat.zero_le _⟩
  · simp [Value.cells] at hcs
    obtain ⟨rfl, rfl, rfl⟩ := hcs
    have hlm : len ≤ m := by rw [hmm]; split <;> omega
    rw [cells23] at hx
    obtain ⟨F, hF⟩ := Deep.choose_lt (α := List Value) (n := len) (p := fun i cs' => w.cells? base (x.add (i * 20)) 20 = some cs' ∧ DataW.trod enc Try.prog w base spare held n 23 cs' = some (D i, Pl i)) (fun i hi => hx i (by omega))
    refine ⟨(List.range len).map F, ⟨by simp, fun y hy => ?_, fun h0 => ?_⟩, by omega⟩
    · simp only [List.mem_map, List.mem_range] at hy
      obtain ⟨i, hi, rfl⟩ := hy
      exact isId_of_trod (hF i hi).2
    · obtain ⟨b, o, spot⟩ := x
      have hcell : ∀ i, i < len → ∀ j v, (F i)[j]? = some v → w.cell? (((⟨b, o, spot⟩ : Addr).add (i * 20)).add j) = some v := fun i hi j v hv => by
        obtain ⟨_, hlen, hc⟩ := World.cells?_some (hF i hi).1
        rw [hc j (by have := (List.getElem?_eq_some_iff.1 hv).1; omega)]
        exact hv
      have hspot : spot = none := by
        have hz : (F 0).length = 20 := (isId_of_trod (hF 0 h0).2).len
        have h1 := hcell 0 h0 0 _ (List.getElem?_eq_getElem (show 0 < (F 0).length by omega))
        simpa [Addr.add] using World.cell?_spot h1
      subst hspot
      have hcs : ∀ (i : Nat) y, ((List.range len).map F)[i]? = some y → w.rangeAt b (o + i * 20) y := fun i y hy j v hv => by
        have hil : i < len := by have := (List.getElem?_eq_some_iff.1 hy).1; simpa using this
        have ey : F i = y := by
          rw [List.getElem?_map, List.getElem?_range hil] at hy
          simpa using hy
        have h1 := hcell i hil j v (by rw [ey]; exact hv)
        rw [Addr.add_mid, Addr.add_mid] at h1
        exact h1
      refine ⟨b, o, rfl, ?_, hcs⟩
      have hz : (F 0).length = 20 := (isId_of_trod (hF 0 h0).2).len
      have h1 := hcell 0 h0 0 _ (List.getElem?_eq_getElem (show 0 < (F 0).length by omega))
      rw [Addr.add_mid, Addr.add_mid] at h1
      exact World.block_lt_of_cell? w _ h1
end

theorem okWide_array {P : Program} {t e : TypeId} {n : Nat} {w : World} {r : Reach} {base : Nat} {v : Value} (ht : P.underlying t = some (.array n e)) (h : Value.okWide P w r base t v) : ∃ xs : List Value, v = .agg xs.toArray := by
  unfold Value.okWide at h
  rw [ht] at h
  obtain ⟨cs, rfl, _⟩ := h
  exact ⟨cs.toList, by simp⟩

theorem own : ownKnob Try.prog.godebug = none := by kernel_rfl

#print axioms rid_of_trod
end Go.Proofs.Qxb6605954a
