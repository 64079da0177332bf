/-
  The contracts of zzBytes_FnIdSetRemoveExact (8), ZZnewIDSet (10), ZZidSetIDs (12), ZZidSetAt (13).
-/
import Derived.Test.Qxb6605954aRemove
namespace Go.Proofs.Qxb6605954a
open Go.RowKit
set_option linter.unusedVariables false

/-- Either the answer is true, and p; or it is false. -/
def YesOr (p : Prop) (e : Ending) : Prop := (e = .returned (.bool true) ∧ p) ∨ e = .returned (.bool false)

set_option maxHeartbeats 400000 in
set_option maxRecDepth 100000 in
theorem zz8 (ao : Option Addr) (n c : Nat) (x : List Value) (w : World) (hn : n ≤ 9223372036854775807) :
    Calls Try.prog 8 #[.slice ao n c, .agg x.toArray] w fun e w' => YesOr (21 * n ≤ 1048576) e ∧ But (fun _ => False) w w' := by
  by_cases g1 : 1048576 < n
  · go_enter Try.func8, Try.ntmps8
    go_wp2
    go_ret
    exact ⟨.inr rfl, (But.refl _ w).alloc _⟩
  · have g2 : n ≤ 1048576 := by omega
    clear g1
    go_enter Try.func8, Try.ntmps8
    go_wp2
    go_loop [5, 6] (fun t i => ∃ k s : Nat, k ≤ n ∧ i = .int .i64 k ∧ t = .int .i64 s ∧ (s : Int) ≤ 1048576 ∧ Hid (s = n + 20 * k)) (fun _ i => n - (intOf i).toNat)
    case atStart => exact ⟨0, n, by omega, rfl, rfl, by omega, rfl⟩
    case round =>
      obtain ⟨k, s, hk, rfl, rfl, hb, HS⟩ := hrel
      by_cases hlt : k < n
      · clear g2
        by_cases hbig : (1048576 : Int) < (s : Int) + 20
        · go_wp2
          go_ret
          exact ⟨.inr rfl, (But.refl _ w).alloc _⟩
        · go_wp2
          go_round
          case rel => exact ⟨k + 1, s + 20, by omega, by go_num, by go_num, by omega, (show _ = _ by have := HS.out; omega)⟩
          case measure => simp [intOf]; omega
      · have hfin : Hid (21 * n ≤ 1048576) := by have := HS.out; show _ ≤ _; omega
        go_wp2
        go_ret
        exact ⟨.inl ⟨rfl, hfin⟩, (But.refl _ w).alloc _⟩

set_option maxHeartbeats 400000 in
set_option maxRecDepth 100000 in
theorem znew (g n m : Nat) (w : World) :
    Calls Try.prog 10 #[.slice (some ⟨g, 0, none⟩) n n, .map (some m)] w fun e w' => e = .returned (.pointer (some ⟨w.heap.size, 0, none⟩)) ∧ w' = w.alloc (.cells #[.slice (some ⟨g, 0, none⟩) n n, .map (some m)] 82) := by
  go_enter Try.func10, Try.ntmps10
  go_wp2
  go_ret
  exact ⟨rfl, rfl⟩

set_option maxHeartbeats 400000 in
theorem zids (ps : Nat) (v : Value) (w : World) (h : ∃ a n c, v = .slice a n c) (hc : w.cell? ⟨ps, 0, none⟩ = some v) :
    Calls Try.prog 12 #[.pointer (some ⟨ps, 0, none⟩)] w fun e w' => e = .returned v ∧ w' = w := by
  obtain ⟨a, n, c, rfl⟩ := h
  go_enter Try.func12, Try.ntmps12
  go_wp2
  go_ret
  exact ⟨rfl, rfl⟩

set_option maxHeartbeats 400000 in
theorem zat (ps m : Nat) (w : World) (hc : w.cell? ⟨ps, 1, none⟩ = some (.map (some m))) :
    Calls Try.prog 13 #[.pointer (some ⟨ps, 0, none⟩)] w fun e w' => e = .returned (.map (some m)) ∧ w' = w := by
  go_enter Try.func13, Try.ntmps13
  go_wp2
  go_ret
  exact ⟨rfl, rfl⟩

theorem St.made {w : World} {g n m : Nat} {L : List (List Value)} {D : DataW Unit} (hr : RowR w g n L) (ho : w.ownsMap Try.prog 32 (plainElem Try.prog 3) m n D) (hm : Mp D L) (hl : L.length = n) (hne : g ≠ m) :
    St (w.alloc (.cells #[.slice (some ⟨g, 0, none⟩) n n, .map (some m)] 82)) w.heap.size g n m L where
  c0 := by rw [hl]; exact World.cell?_alloc_at _ _ _ _ rfl
  c1 := World.cell?_alloc_at _ _ _ _ rfl
  fr := World.frozen?_alloc_at _ _ _ _ rfl
  row := hr.of_heap (Below.heap_alloc _ _ _ hr.lt) (by simp)
  map := ⟨D, by rw [hl]; exact ho.alloc _, hm⟩
  ne1 := by have := hr.lt; omega
  ne2 := by have := ho.lt; omega
  ne3 := hne

#print axioms zz8
#print axioms St.made
end Go.Proofs.Qxb6605954a
