/-
  The walk of FnAppendItemTwoItemsReadBack (5), joined.
-/
import Derived.Test.Qxb6614970aW5ss
import Derived.Test.Qxb6614970aW5sn
import Derived.Test.Qxb6614970aW5ns
import Derived.Test.Qxb6614970aW5nn
namespace Go.Proofs.Qxb6614970a.fnAppendItemTwoItemsReadBack
open Go.RowKit
set_option linter.unusedVariables false

theorem walk_in (a0 : Option Addr) (n0 c0 : Nat) (ds : List Int) (t1 : Int) (a1 : Option Addr) (n1 c1 : Nat) (xs : List Int) (t2 : Int) (a2 : Option Addr) (n2 c2 : Nat) (ys : List Int) (w : World) (hd : Rd w a0 n0 ds) (hdn : a0 = none → c0 = 0) (hx : Rd w a1 n1 xs) (hxn : a1 = none → c1 = 0) (hy : Rd w a2 n2 ys) (hyn : a2 = none → c2 = 0) (h1 : n1 ≤ 65535) (h2 : n2 ≤ 65535) (hs : n0 + n1 + n2 ≤ 1048576) :
    Calls Try.prog 5 #[.slice a0 n0 c0, .int .u8 t1, .slice a1 n1 c1, .int .u8 t2, .slice a2 n2 c2] w fun e w' => e = .returned (.bool true) ∧ Below w.heap.size w w' := by
  cases a1 with
  | none =>
    have e1 := hx.nil rfl
    have e2 := hxn rfl
    subst e1 e2
    cases a2 with
    | none =>
      have e1 := hy.nil rfl
      have e2 := hyn rfl
      subst e1 e2
      exact walk_nn a0 n0 c0 ds t1 t2 w hd hdn (by omega)
    | some a2 => exact walk_ns a0 n0 c0 ds a2 n2 c2 ys t1 t2 w hd hdn hy h2 (by omega)
  | some a1 =>
    cases a2 with
    | none =>
      have e1 := hy.nil rfl
      have e2 := hyn rfl
      subst e1 e2
      exact walk_sn a0 n0 c0 ds a1 n1 c1 xs t1 t2 w hd hdn hx h1 (by omega)
    | some a2 => exact walk_ss a0 n0 c0 ds a1 n1 c1 xs a2 n2 c2 ys t1 t2 w hd hdn hx h1 hy h2 hs

set_option maxHeartbeats 1000000 in
set_option maxRecDepth 100000 in
theorem walk_out (a0 : Option Addr) (n0 c0 : Nat) (t1 : Int) (a1 : Option Addr) (n1 c1 : Nat) (t2 : Int) (a2 : Option Addr) (n2 c2 : Nat) (w : World) (h : ¬ (n1 ≤ 65535 ∧ n2 ≤ 65535 ∧ n0 + n1 + n2 ≤ 1048576)) (m0 : n0 ≤ 9223372036854775807) (m1 : n1 ≤ 9223372036854775807) (m2 : n2 ≤ 9223372036854775807) :
    Calls Try.prog 5 #[.slice a0 n0 c0, .int .u8 t1, .slice a1 n1 c1, .int .u8 t2, .slice a2 n2 c2] w fun e w' => e = .returned (.bool true) ∧ Below w.heap.size w w' := by
  by_cases g0 : 1048576 < n0
  · clear h
    go_enter Try.func5, Try.ntmps5
    go_wp2
    go_ret
    exact ⟨rfl, Below.refl _ _⟩
  by_cases g1 : 1048576 < n1
  · clear h
    go_enter Try.func5, Try.ntmps5
    go_wp2
    go_ret
    exact ⟨rfl, Below.refl _ _⟩
  by_cases g2 : 1048576 < n0 + n1
  · clear h
    go_enter Try.func5, Try.ntmps5
    go_wp2
    go_ret
    exact ⟨rfl, Below.refl _ _⟩
  by_cases g3 : 1048576 < n2
  · clear h
    go_enter Try.func5, Try.ntmps5
    go_wp2
    go_ret
    exact ⟨rfl, Below.refl _ _⟩
  by_cases g4 : 1048576 < n0 + n1 + n2
  · clear h
    go_enter Try.func5, Try.ntmps5
    go_wp2
    go_ret
    exact ⟨rfl, Below.refl _ _⟩
  by_cases g5 : 65535 < n1
  · clear h
    go_enter Try.func5, Try.ntmps5
    go_wp2
    go_ret
    exact ⟨rfl, Below.refl _ _⟩
  · have g6 : 65535 < n2 := by omega
    clear h
    go_enter Try.func5, Try.ntmps5
    go_wp2
    go_ret
    exact ⟨rfl, Below.refl _ _⟩

theorem walk (a0 : Option Addr) (len0 cap0 : Nat) (z0 : List Int) (a1 : Int) (a2 : Option Addr) (len2 cap2 : Nat) (z2 : List Int) (a3 : Int) (a4 : Option Addr) (len4 cap4 : Nat) (z4 : List Int) (w : World) (w0 : IsRow .u8 w a0 len0 cap0 z0) (w1 : (Lit.int .u8 a1).wf = true) (w2 : IsRow .u8 w a2 len2 cap2 z2) (w3 : (Lit.int .u8 a3).wf = true) (w4 : IsRow .u8 w a4 len4 cap4 z4) :
    Calls Try.prog 5 #[.slice a0 len0 cap0, .int .u8 a1, .slice a2 len2 cap2, .int .u8 a3, .slice a4 len4 cap4] w fun e w' => e = .returned (.bool true) ∧ Below w.heap.size w w' := by
  by_cases h : len2 ≤ 65535 ∧ len4 ≤ 65535 ∧ len0 + len2 + len4 ≤ 1048576
  · exact walk_in a0 len0 cap0 _ a1 a2 len2 cap2 _ a3 a4 len4 cap4 _ w w0.rd (fun e => (w0.nil e).2) w2.rd (fun e => (w2.nil e).2) w4.rd (fun e => (w4.nil e).2) h.1 h.2.1 h.2.2
  · exact walk_out a0 len0 cap0 a1 a2 len2 cap2 a3 a4 len4 cap4 w h w0.bound w2.bound w4.bound

#print axioms walk
end Go.Proofs.Qxb6614970a.fnAppendItemTwoItemsReadBack
