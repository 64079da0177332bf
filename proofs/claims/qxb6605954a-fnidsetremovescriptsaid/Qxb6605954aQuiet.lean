/-
  The operations of the laws' drawn regions (they only read): one law each for the quiet walk.
-/
import Derived.Test.Qxb6605954aSmall
namespace Go.Proofs.Qxb6605954a
open Go.RowKit
set_option linter.unusedVariables false
section
variable {ops : Array Oper} {o : Oper} {rest : List Oper} {a : Act} {C : World → Prop} {Q : Act → Prop}

theorem q_move (v : Value) (x : Operand) (hw : Region.wanted o (yielded ops a.tmps) = true) (h : o.op = .move x) (hx : a.eval x = v) (hk : wpQuiet Try.prog ops C Q rest (a.put o.dst v)) : wpQuiet Try.prog ops C Q (o :: rest) a :=
  wpQuiet_step fun K hK => by
    rw [if_pos hw]
    exact ⟨v, fun W hW => by
      unfold Oper.quietAt execOp
      simp only [h, hx]
      exact ⟨rfl, rfl⟩, hK _ hk⟩

set_option maxRecDepth 100000 in
theorem q_index22 (x y : Operand) (b off n c k : Nat) (hw : Region.wanted o (yielded ops a.tmps) = true) (h : o.op = .indexAddr 22 x y) (hx : a.eval x = .slice (some ⟨b, off, none⟩) n c) (hy : a.eval y = .int .i64 k) (hlt : k < n)
    (hk : wpQuiet Try.prog ops C Q rest (a.put o.dst (.pointer (some ⟨b, off + k * 20, none⟩)))) : wpQuiet Try.prog ops C Q (o :: rest) a :=
  wpQuiet_step fun K hK => by
    rw [if_pos hw]
    have i0 : (0 : Int) ≤ (k : Int) := by omega
    have i1 : (k : Int) < (n : Int) := by omega
    refine ⟨_, fun W hW => ?_, hK _ hk⟩
    unfold Oper.quietAt execOp
    simp only [h, hx, hy]
    simp [go_sem, i0, i1]

set_option maxRecDepth 100000 in
theorem q_index25 (x y : Operand) (b n c k : Nat) (hw : Region.wanted o (yielded ops a.tmps) = true) (h : o.op = .indexAddr 25 x y) (hx : a.eval x = .slice (some ⟨b, 0, none⟩) n c) (hy : a.eval y = .int .i64 k) (hlt : k < n)
    (hk : wpQuiet Try.prog ops C Q rest (a.put o.dst (.pointer (some ⟨b, k * 20, none⟩)))) : wpQuiet Try.prog ops C Q (o :: rest) a :=
  wpQuiet_step fun K hK => by
    rw [if_pos hw]
    have i0 : (0 : Int) ≤ (k : Int) := by omega
    have i1 : (k : Int) < (n : Int) := by omega
    refine ⟨_, fun W hW => ?_, hK _ hk⟩
    unfold Oper.quietAt execOp
    simp only [h, hx, hy]
    simp [go_sem, i0, i1]

/-- A long array's load. -/
theorem q_load (ty : TypeId) (x : Operand) (b off : Nat) (cs : List Value) {d : TypeDesc} (hw : Region.wanted o (yielded ops a.tmps) = true) (h : o.op = .load ty x) (hx : a.eval x = .pointer (some ⟨b, off, none⟩)) (hc : ∀ W, C W → W.rangeAt b off cs) (hu : Try.prog.underlying ty = some d) (hd : d.isRow = true) (hi : (Try.prog.info? ty).map (·.size) = some cs.length)
    (hk : wpQuiet Try.prog ops C Q rest (a.put o.dst (.agg cs.toArray))) : wpQuiet Try.prog ops C Q (o :: rest) a :=
  wpQuiet_step fun K hK => by
    rw [if_pos hw]
    exact ⟨_, fun W hW => by
      unfold Oper.quietAt execOp
      simp only [h, hx, Instr.loadAt, Instr.sureAddr, Sem.run_bind, Sem.run_pure, Result.andThen_ok, run_loadVar_mid W b off ty cs d (hc W hW) hu hd hi]
      exact ⟨rfl, rfl⟩, hK _ hk⟩

set_option maxRecDepth 100000 in
theorem q_eql (x y : Operand) (u v : Array Value) (r : Bool) (hw : Region.wanted o (yielded ops a.tmps) = true) (h : o.op = .binOp .eql 23 x y 23) (hx : a.eval x = .agg u) (hy : a.eval y = .agg v) (hr : ∀ W, (Op.equalIn 10000 23 (.agg u) (.agg v)).run Try.prog W = .ok r W)
    (hk : wpQuiet Try.prog ops C Q rest (a.put o.dst (.bool r))) : wpQuiet Try.prog ops C Q (o :: rest) a :=
  wpQuiet_step fun K hK => by
    rw [if_pos hw]
    refine ⟨_, fun W hW => ?_, hK _ hk⟩
    unfold Oper.quietAt execOp
    simp only [h, hx, hy]
    simp [go_sem, hr]

set_option maxRecDepth 100000 in
theorem q_neq (x y : Operand) (u v : Array Value) (r r' : Bool) (hrr : (!r) = r') (hw : Region.wanted o (yielded ops a.tmps) = true) (h : o.op = .binOp .neq 23 x y 23) (hx : a.eval x = .agg u) (hy : a.eval y = .agg v) (hr : ∀ W, (Op.equalIn 10000 23 (.agg u) (.agg v)).run Try.prog W = .ok r W)
    (hk : wpQuiet Try.prog ops C Q rest (a.put o.dst (.bool r'))) : wpQuiet Try.prog ops C Q (o :: rest) a :=
  wpQuiet_step fun K hK => by
    rw [if_pos hw]
    refine ⟨_, fun W hW => ?_, hK _ hk⟩
    unfold Oper.quietAt execOp
    simp only [h, hx, hy]
    simp [go_sem, hr, hrr]
end
#print axioms q_neq
end Go.Proofs.Qxb6605954a
