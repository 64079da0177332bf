/-
  The contract of zzBytes_FnIdSetRemoveScript (14).
-/
import Derived.Test.Qxb6605954aSmall
namespace Go.Proofs.Qxb6605954a
open Go.RowKit
set_option linter.unusedVariables false

set_option maxHeartbeats 400000 in
set_option maxRecDepth 100000 in
theorem zz14 (ao : Option Addr) (n c : Nat) (bo : Option Addr) (s d : Nat) (w : World) (hn : n ≤ 9223372036854775807) (hs : s ≤ 9223372036854775807) :
    Calls Try.prog 14 #[.slice ao n c, .slice bo s d] w fun e w' => YesOr (21 * n + 21 * s ≤ 1048576) e ∧ w' = w := by
  have HN : Hid (n ≤ 9223372036854775807 ∧ s ≤ 9223372036854775807) := ⟨hn, hs⟩
  have hs1 : (s : Int) ≤ 9223372036854775807 := by omega
  by_cases g1 : (1048576 : Int) < (n : Int)
  · clear hn hs
    have hn1 : (n : Int) ≤ 9223372036854775807 := by have := HN.out; omega
    go_enter Try.func14, Try.ntmps14
    go_wp2
    go_ret
    exact ⟨.inr rfl, rfl⟩
  · have g2 : (n : Int) ≤ 1048576 := by omega
    clear g1 hn hs
    go_enter Try.func14, Try.ntmps14
    go_wp2
    go_loop [5, 6] (fun t i => ∃ k z : Nat, k ≤ n ∧ i = .int .i64 k ∧ t = .int .i64 z ∧ (z : Int) ≤ 1048576 ∧ Hid (z = n + 20 * k)) (fun _ i => n - (intOf i).toNat)
    case atStart => exact ⟨0, n, by omega, rfl, rfl, by omega, rfl⟩
    case round =>
      obtain ⟨k, z, hk, rfl, rfl, hb, HS⟩ := hrel
      by_cases hlt : k < n
      · by_cases hbig : (1048576 : Int) < (z : Int) + 20
        · go_wp2
          go_ret
          exact ⟨.inr rfl, rfl⟩
        · go_wp2
          go_round
          case rel => exact ⟨k + 1, z + 20, by omega, by go_num, by go_num, by omega, (show _ = _ by have := HS.out; omega)⟩
          case measure => simp [intOf]; omega
      · have HZ : Hid (z = 21 * n) := by have := HS.out; show _ = _; omega
        clear HS g2
        by_cases g3 : (1048576 : Int) < (s : Int)
        · go_wp2
          go_ret
          exact ⟨.inr rfl, rfl⟩
        · by_cases g4 : (1048576 : Int) < (z : Int) + (s : Int)
          · go_wp2
            go_ret
            exact ⟨.inr rfl, rfl⟩
          · go_wp2
            go_loop [5, 7] (fun t i => ∃ k q : Nat, k ≤ s ∧ i = .int .i64 k ∧ t = .int .i64 q ∧ (q : Int) ≤ 1048576 ∧ Hid (q = z + s + 20 * k)) (fun _ i => s - (intOf i).toNat)
            case atStart => exact ⟨0, z + s, by omega, rfl, by go_num, by omega, rfl⟩
            case round =>
              clear g4 g3
              obtain ⟨k, q, hk, rfl, rfl, hb, HS⟩ := hrel
              by_cases hlt : k < s
              · by_cases hbig : (1048576 : Int) < (q : Int) + 20
                · go_wp2
                  go_ret
                  exact ⟨.inr rfl, rfl⟩
                · go_wp2
                  go_round
                  case rel => exact ⟨k + 1, q + 20, by omega, by go_num, by go_num, by omega, (show _ = _ by have := HS.out; omega)⟩
                  case measure => simp [intOf]; omega
              · have hfin : Hid (21 * n + 21 * s ≤ 1048576) := by have h1 := HS.out; have h2 := HZ.out; show _ ≤ _; omega
                go_wp2
                go_ret
                exact ⟨.inl ⟨rfl, hfin⟩, rfl⟩

#print axioms zz14
end Go.Proofs.Qxb6605954a
