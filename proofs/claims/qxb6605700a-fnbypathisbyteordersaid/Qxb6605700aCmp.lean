/-
  The contracts of bytealg.CompareString (28), strings.Compare (24), graph.byPath (18), graph.ZZbyPath (7), zzCmpBytes (8).
-/
import Derived.Test.Qxb6605700aRows
import Derived.WalkKit
import Derived.Lib.Bytealg
import Derived.Lib.Walk
import Derived.Deep.QuietTactic
import Derived.Deep.RegionWith
namespace Go.Proofs.Qxb6605700a
open Go.RowKit
set_option linter.unusedVariables false

set_option maxHeartbeats 1000000 in
set_option maxRecDepth 100000 in
theorem cmpString (a b : ByteArray) (w : World) :
    Calls Try.prog 28 #[.string a, .string b] w fun e w' => e = .returned (.int .i64 (Lib.compareBytes a.data.toList b.data.toList)) ∧ w' = w := by
  go_enter Try.func28, Try.ntmps28
  go_wp2
  rw [run_callFunc_extern Try.func32 (by kernel_rfl) (by kernel_rfl) (by kernel_rfl) (e := Extern.BytealgCompare.compare) (by kernel_rfl), Lib.run_compareString]
  simp only [Result.andThen]
  rw [Oper.upon_value]
  go_wp2
  go_ret
  exact ⟨rfl, rfl⟩

set_option maxHeartbeats 1000000 in
theorem compare (a b : ByteArray) (w : World) :
    Calls Try.prog 24 #[.string a, .string b] w fun e w' => e = .returned (.int .i64 (Lib.compareBytes a.data.toList b.data.toList)) ∧ w' = w := by
  go_enter Try.func24, Try.ntmps24
  go_wp2_with fail
  refine (cmpString a b w).mono ?_
  rintro e w' ⟨rfl, rfl⟩
  go_wp2
  go_ret
  exact ⟨rfl, rfl⟩

set_option maxHeartbeats 1000000 in
set_option maxRecDepth 100000 in
theorem byPath (p q : Nat) (a b : ByteArray) (w : World) (hp : w.cell? ⟨p, 0, none⟩ = some (.string a)) (hq : w.cell? ⟨q, 0, none⟩ = some (.string b)) :
    Calls Try.prog 18 #[.pointer (some ⟨p, 0, none⟩), .pointer (some ⟨q, 0, none⟩)] w fun e w' => e = .returned (.int .i64 (Lib.compareBytes a.data.toList b.data.toList)) ∧ Below w.heap.size w w' := by
  go_enter Try.func18, Try.ntmps18
  go_wp2
  go_region_with (go_at_call 24; refine (compare a b _).mono ?_; rintro e w' ⟨rfl, rfl⟩)
  all_goals
    go_wp2
    go_ret
    exact ⟨rfl, (Below.refl _ _).drew⟩

set_option maxHeartbeats 1000000 in
theorem zbyPath (p q : Nat) (a b : ByteArray) (w : World) (hp : w.cell? ⟨p, 0, none⟩ = some (.string a)) (hq : w.cell? ⟨q, 0, none⟩ = some (.string b)) :
    Calls Try.prog 7 #[.pointer (some ⟨p, 0, none⟩), .pointer (some ⟨q, 0, none⟩)] w fun e w' => e = .returned (.int .i64 (Lib.compareBytes a.data.toList b.data.toList)) ∧ Below w.heap.size w w' := by
  have hC := byPath p q a b w hp hq
  clear hp hq
  go_enter Try.func7, Try.ntmps7
  go_wp2_with fail
  refine hC.mono ?_
  rintro e w' ⟨rfl, hb⟩
  go_wp2
  go_ret
  exact ⟨rfl, hb⟩

#print axioms zbyPath
end Go.Proofs.Qxb6605700a
