/-
  The walk of FnAppendItemSelfDelimiting (6), joined.
-/
import Derived.Test.Qxb6614970aW6ss
import Derived.Test.Qxb6614970aW6sn
import Derived.Test.Qxb6614970aW6ns
import Derived.Test.Qxb6614970aW6nn
import Derived.Test.Qxb6614970aLen
namespace Go.Proofs.Qxb6614970a.fnAppendItemSelfDelimiting
open Go.RowKit
set_option linter.unusedVariables false

theorem walk_in (t1 : Int) (a1 : Option Addr) (n1 c1 : Nat) (xs : List Int) (t2 : Int) (a2 : Option Addr) (n2 c2 : Nat) (ys : List Int) (w : World) (hx : Rd w a1 n1 xs) (hxn : a1 = none → c1 = 0) (hy : Rd w a2 n2 ys) (hyn : a2 = none → c2 = 0) (h1 : n1 ≤ 65535) (h2 : n2 ≤ 65535) :
    Calls Try.prog 6 #[.int .u8 t1, .slice a1 n1 c1, .int .u8 t2, .slice a2 n2 c2] w fun e w' => e = .returned (.bool true) ∧ Below w.heap.size w w' := by
  cases a1 with
  | none =>
    have e1 := hx.nil rfl
    have e2 := hxn rfl
    subst e1 e2
    cases a2 with
    | none =>
      have e1 := hy.nil rfl
      have e2 := hyn rfl
      subst e1 e2
      exact walk_nn t1 t2 w
    | some a2 => exact walk_ns a2 n2 c2 ys t1 t2 w hy h2
  | some a1 =>
    cases a2 with
    | none =>
      have e1 := hy.nil rfl
      have e2 := hyn rfl
      subst e1 e2
      exact walk_sn a1 n1 c1 xs t1 t2 w hx h1
    | some a2 => exact walk_ss a1 n1 c1 xs a2 n2 c2 ys t1 t2 w hx h1 hy h2

set_option maxHeartbeats 1000000 in
set_option maxRecDepth 100000 in
theorem walk_out (t1 : Int) (a1 : Option Addr) (n1 c1 : Nat) (t2 : Int) (a2 : Option Addr) (n2 c2 : Nat) (w : World) (h : 65535 < n1 ∨ 65535 < n2) (m1 : n1 ≤ 9223372036854775807) (m2 : n2 ≤ 9223372036854775807) :
    Calls Try.prog 6 #[.int .u8 t1, .slice a1 n1 c1, .int .u8 t2, .slice a2 n2 c2] w fun e w' => e = .returned (.bool true) ∧ Below w.heap.size w w' := by
  by_cases g1 : 1048576 < n1
  · go_enter Try.func6, Try.ntmps6
    go_wp2
    go_ret
    exact ⟨rfl, Below.refl _ _⟩
  by_cases g2 : 1048576 < n2
  · go_enter Try.func6, Try.ntmps6
    go_wp2
    go_ret
    exact ⟨rfl, Below.refl _ _⟩
  by_cases g3 : 1048576 < n1 + n2
  · go_enter Try.func6, Try.ntmps6
    go_wp2
    go_ret
    exact ⟨rfl, Below.refl _ _⟩
  by_cases g4 : 65535 < n1
  · clear h
    go_enter Try.func6, Try.ntmps6
    go_wp2
    go_ret
    exact ⟨rfl, Below.refl _ _⟩
  · have g5 : 65535 < n2 := by omega
    clear h
    go_enter Try.func6, Try.ntmps6
    go_wp2
    go_ret
    exact ⟨rfl, Below.refl _ _⟩

theorem walk (a0 : Int) (a1 : Option Addr) (len1 cap1 : Nat) (z1 : List Int) (a2 : Int) (a3 : Option Addr) (len3 cap3 : Nat) (z3 : List Int) (w : World) (w0 : (Lit.int .u8 a0).wf = true) (w1 : IsRow .u8 w a1 len1 cap1 z1) (w2 : (Lit.int .u8 a2).wf = true) (w3 : IsRow .u8 w a3 len3 cap3 z3) :
    Calls Try.prog 6 #[.int .u8 a0, .slice a1 len1 cap1, .int .u8 a2, .slice a3 len3 cap3] w fun e w' => e = .returned (.bool true) ∧ Below w.heap.size w w' := by
  by_cases h : 65535 < len1 ∨ 65535 < len3
  · exact walk_out a0 a1 len1 cap1 a2 a3 len3 cap3 w h w1.bound w3.bound
  · exact walk_in a0 a1 len1 cap1 _ a2 a3 len3 cap3 _ w w1.rd (fun e => (w1.nil e).2) w3.rd (fun e => (w3.nil e).2) (by omega) (by omega)

#print axioms walk
end Go.Proofs.Qxb6614970a.fnAppendItemSelfDelimiting
