/-
  The contract of mostInRange (7).
-/
import Derived.Test.Qxb6605708aBase
namespace Go.Proofs.Qxb6605708a
open Go.RowKit
set_option linter.unusedVariables false

set_option maxHeartbeats 1000000 in
set_option maxRecDepth 100000 in
theorem inRange_eee (ao : Option Addr) (no co : Nat) (os : List Int) (aw : Option Addr) (nw cw : Nat) (ws : List Int) (ad : Option Addr) (nd cd : Nat) (ds : List Int) (ah : Option Addr) (ch : Nat) (ag : Option Addr) (ng cg : Nat) (w : World)
    (h0 : no < 1) (h1 : nw < 1) (h2 : nd < 1) (so : Small os) (sw : Small ws) (sd : Small ds) (lo : no ≤ 32768) (lg : ng ≤ 32768) (lw : nw ≤ 16384) (ld : nd ≤ 16384) :
    Calls Try.prog 7 #[.slice ao no co, .slice ah ng ch, .slice ag ng cg, .slice aw nw cw, .slice ad nd cd] w fun e w' => YesOr (Ix os no ng ∧ Ix ws nw ng ∧ Ix ds nd no) e ∧ w' = w := by
  go_enter Try.func7, Try.ntmps7
  go_wp2
  go_loop [12] (fun i => ∃ k : Nat, k ≤ no ∧ i = .int .i64 k ∧ Hid (Ix os k ng)) (fun i => no - (intOf i).toNat)
  case atStart => exact ⟨0, by omega, rfl, fun j hj => absurd hj (by omega)⟩
  case round =>
    obtain ⟨k, hk, rfl, hx⟩ := hrel
    by_cases hlt : k < no
    · first
      | (exfalso; omega)
      | (have g := cso.out k hlt
         obtain ⟨z, hz⟩ : ∃ z, z = os.getD k 0 := ⟨_, rfl⟩
         have s1 : -2147483648 ≤ z := by rw [hz]; exact (so k).1
         have s2 : z ≤ 2147483647 := by rw [hz]; exact (so k).2
         rw [← hz] at g
         have HZ : Hid (z = os.getD k 0) := hz
         clear hz
         by_cases z0 : z < 0
         · go_wp2
           go_ret
           exact ⟨.inr rfl, rfl⟩
         · by_cases z1 : (ng : Int) ≤ z
           · go_wp2
             go_ret
             exact ⟨.inr rfl, rfl⟩
           · go_wp2
             go_round
             case rel => exact ⟨k + 1, by omega, by go_num, hx.out.step (by rw [← HZ.out]; omega) (by rw [← HZ.out]; omega)⟩
             case measure => simp [intOf]; omega)
    · have hX : Hid (Ix os no ng) := by
        have e : k = no := by omega
        subst e; exact hx
      clear hx
      go_wp2
      have hXo := hX
      clear hX
      go_loop [13] (fun i => ∃ k : Nat, k ≤ nw ∧ i = .int .i64 k ∧ Hid (Ix ws k ng)) (fun i => nw - (intOf i).toNat)
      case atStart => exact ⟨0, by omega, rfl, fun j hj => absurd hj (by omega)⟩
      case round =>
        obtain ⟨k, hk, rfl, hx⟩ := hrel
        by_cases hlt : k < nw
        · first
          | (exfalso; omega)
          | (have g := csw.out k hlt
             obtain ⟨z, hz⟩ : ∃ z, z = ws.getD k 0 := ⟨_, rfl⟩
             have s1 : -2147483648 ≤ z := by rw [hz]; exact (sw k).1
             have s2 : z ≤ 2147483647 := by rw [hz]; exact (sw k).2
             rw [← hz] at g
             have HZ : Hid (z = ws.getD k 0) := hz
             clear hz
             by_cases z0 : z < 0
             · go_wp2
               go_ret
               exact ⟨.inr rfl, rfl⟩
             · by_cases z1 : (ng : Int) ≤ z
               · go_wp2
                 go_ret
                 exact ⟨.inr rfl, rfl⟩
               · go_wp2
                 go_round
                 case rel => exact ⟨k + 1, by omega, by go_num, hx.out.step (by rw [← HZ.out]; omega) (by rw [← HZ.out]; omega)⟩
                 case measure => simp [intOf]; omega)
        · have hX : Hid (Ix ws nw ng) := by
            have e : k = nw := by omega
            subst e; exact hx
          clear hx
          go_wp2
          have hXw := hX
          clear hX
          go_loop [14] (fun i => ∃ k : Nat, k ≤ nd ∧ i = .int .i64 k ∧ Hid (Ix ds k no)) (fun i => nd - (intOf i).toNat)
          case atStart => exact ⟨0, by omega, rfl, fun j hj => absurd hj (by omega)⟩
          case round =>
            obtain ⟨k, hk, rfl, hx⟩ := hrel
            by_cases hlt : k < nd
            · first
              | (exfalso; omega)
              | (have g := csd.out k hlt
                 obtain ⟨z, hz⟩ : ∃ z, z = ds.getD k 0 := ⟨_, rfl⟩
                 have s1 : -2147483648 ≤ z := by rw [hz]; exact (sd k).1
                 have s2 : z ≤ 2147483647 := by rw [hz]; exact (sd k).2
                 rw [← hz] at g
                 have HZ : Hid (z = ds.getD k 0) := hz
                 clear hz
                 by_cases z0 : z < 0
                 · go_wp2
                   go_ret
                   exact ⟨.inr rfl, rfl⟩
                 · by_cases z1 : (no : Int) ≤ z
                   · go_wp2
                     go_ret
                     exact ⟨.inr rfl, rfl⟩
                   · go_wp2
                     go_round
                     case rel => exact ⟨k + 1, by omega, by go_num, hx.out.step (by rw [← HZ.out]; omega) (by rw [← HZ.out]; omega)⟩
                     case measure => simp [intOf]; omega)
            · have hX : Hid (Ix ds nd no) := by
                have e : k = nd := by omega
                subst e; exact hx
              clear hx
              go_wp2
              go_ret
              exact ⟨.inl ⟨rfl, hXo.out, hXw.out, hX.out⟩, rfl⟩

set_option maxHeartbeats 1000000 in
set_option maxRecDepth 100000 in
theorem inRange_een (ao : Option Addr) (no co : Nat) (os : List Int) (aw : Option Addr) (nw cw : Nat) (ws : List Int) (bd od nd cd : Nat) (ds : List Int) (ah : Option Addr) (ch : Nat) (ag : Option Addr) (ng cg : Nat) (w : World)
    (h0 : no < 1) (h1 : nw < 1) (csd : Hid (∀ j, j < nd → w.cell? ⟨bd, od + j, none⟩ = some (.int .i32 (ds.getD j 0)))) (so : Small os) (sw : Small ws) (sd : Small ds) (lo : no ≤ 32768) (lg : ng ≤ 32768) (lw : nw ≤ 16384) (ld : nd ≤ 16384) :
    Calls Try.prog 7 #[.slice ao no co, .slice ah ng ch, .slice ag ng cg, .slice aw nw cw, .slice (some ⟨bd, od, none⟩) nd cd] w fun e w' => YesOr (Ix os no ng ∧ Ix ws nw ng ∧ Ix ds nd no) e ∧ w' = w := by
  go_enter Try.func7, Try.ntmps7
  go_wp2
  go_loop [12] (fun i => ∃ k : Nat, k ≤ no ∧ i = .int .i64 k ∧ Hid (Ix os k ng)) (fun i => no - (intOf i).toNat)
  case atStart => exact ⟨0, by omega, rfl, fun j hj => absurd hj (by omega)⟩
  case round =>
    obtain ⟨k, hk, rfl, hx⟩ := hrel
    by_cases hlt : k < no
    · first
      | (exfalso; omega)
      | (have g := cso.out k hlt
         obtain ⟨z, hz⟩ : ∃ z, z = os.getD k 0 := ⟨_, rfl⟩
         have s1 : -2147483648 ≤ z := by rw [hz]; exact (so k).1
         have s2 : z ≤ 2147483647 := by rw [hz]; exact (so k).2
         rw [← hz] at g
         have HZ : Hid (z = os.getD k 0) := hz
         clear hz
         by_cases z0 : z < 0
         · go_wp2
           go_ret
           exact ⟨.inr rfl, rfl⟩
         · by_cases z1 : (ng : Int) ≤ z
           · go_wp2
             go_ret
             exact ⟨.inr rfl, rfl⟩
           · go_wp2
             go_round
             case rel => exact ⟨k + 1, by omega, by go_num, hx.out.step (by rw [← HZ.out]; omega) (by rw [← HZ.out]; omega)⟩
             case measure => simp [intOf]; omega)
    · have hX : Hid (Ix os no ng) := by
        have e : k = no := by omega
        subst e; exact hx
      clear hx
      go_wp2
      have hXo := hX
      clear hX
      go_loop [13] (fun i => ∃ k : Nat, k ≤ nw ∧ i = .int .i64 k ∧ Hid (Ix ws k ng)) (fun i => nw - (intOf i).toNat)
      case atStart => exact ⟨0, by omega, rfl, fun j hj => absurd hj (by omega)⟩
      case round =>
        obtain ⟨k, hk, rfl, hx⟩ := hrel
        by_cases hlt : k < nw
        · first
          | (exfalso; omega)
          | (have g := csw.out k hlt
             obtain ⟨z, hz⟩ : ∃ z, z = ws.getD k 0 := ⟨_, rfl⟩
             have s1 : -2147483648 ≤ z := by rw [hz]; exact (sw k).1
             have s2 : z ≤ 2147483647 := by rw [hz]; exact (sw k).2
             rw [← hz] at g
             have HZ : Hid (z = ws.getD k 0) := hz
             clear hz
             by_cases z0 : z < 0
             · go_wp2
               go_ret
               exact ⟨.inr rfl, rfl⟩
             · by_cases z1 : (ng : Int) ≤ z
               · go_wp2
                 go_ret
                 exact ⟨.inr rfl, rfl⟩
               · go_wp2
                 go_round
                 case rel => exact ⟨k + 1, by omega, by go_num, hx.out.step (by rw [← HZ.out]; omega) (by rw [← HZ.out]; omega)⟩
                 case measure => simp [intOf]; omega)
        · have hX : Hid (Ix ws nw ng) := by
            have e : k = nw := by omega
            subst e; exact hx
          clear hx
          go_wp2
          have hXw := hX
          clear hX
          go_loop [14] (fun i => ∃ k : Nat, k ≤ nd ∧ i = .int .i64 k ∧ Hid (Ix ds k no)) (fun i => nd - (intOf i).toNat)
          case atStart => exact ⟨0, by omega, rfl, fun j hj => absurd hj (by omega)⟩
          case round =>
            obtain ⟨k, hk, rfl, hx⟩ := hrel
            by_cases hlt : k < nd
            · first
              | (exfalso; omega)
              | (have g := csd.out k hlt
                 obtain ⟨z, hz⟩ : ∃ z, z = ds.getD k 0 := ⟨_, rfl⟩
                 have s1 : -2147483648 ≤ z := by rw [hz]; exact (sd k).1
                 have s2 : z ≤ 2147483647 := by rw [hz]; exact (sd k).2
                 rw [← hz] at g
                 have HZ : Hid (z = ds.getD k 0) := hz
                 clear hz
                 by_cases z0 : z < 0
                 · go_wp2
                   go_ret
                   exact ⟨.inr rfl, rfl⟩
                 · by_cases z1 : (no : Int) ≤ z
                   · go_wp2
                     go_ret
                     exact ⟨.inr rfl, rfl⟩
                   · go_wp2
                     go_round
                     case rel => exact ⟨k + 1, by omega, by go_num, hx.out.step (by rw [← HZ.out]; omega) (by rw [← HZ.out]; omega)⟩
                     case measure => simp [intOf]; omega)
            · have hX : Hid (Ix ds nd no) := by
                have e : k = nd := by omega
                subst e; exact hx
              clear hx
              go_wp2
              go_ret
              exact ⟨.inl ⟨rfl, hXo.out, hXw.out, hX.out⟩, rfl⟩

set_option maxHeartbeats 1000000 in
set_option maxRecDepth 100000 in
theorem inRange_ene (ao : Option Addr) (no co : Nat) (os : List Int) (bw ow nw cw : Nat) (ws : List Int) (ad : Option Addr) (nd cd : Nat) (ds : List Int) (ah : Option Addr) (ch : Nat) (ag : Option Addr) (ng cg : Nat) (w : World)
    (h0 : no < 1) (csw : Hid (∀ j, j < nw → w.cell? ⟨bw, ow + j, none⟩ = some (.int .i32 (ws.getD j 0)))) (h2 : nd < 1) (so : Small os) (sw : Small ws) (sd : Small ds) (lo : no ≤ 32768) (lg : ng ≤ 32768) (lw : nw ≤ 16384) (ld : nd ≤ 16384) :
    Calls Try.prog 7 #[.slice ao no co, .slice ah ng ch, .slice ag ng cg, .slice (some ⟨bw, ow, none⟩) nw cw, .slice ad nd cd] w fun e w' => YesOr (Ix os no ng ∧ Ix ws nw ng ∧ Ix ds nd no) e ∧ w' = w := by
  go_enter Try.func7, Try.ntmps7
  go_wp2
  go_loop [12] (fun i => ∃ k : Nat, k ≤ no ∧ i = .int .i64 k ∧ Hid (Ix os k ng)) (fun i => no - (intOf i).toNat)
  case atStart => exact ⟨0, by omega, rfl, fun j hj => absurd hj (by omega)⟩
  case round =>
    obtain ⟨k, hk, rfl, hx⟩ := hrel
    by_cases hlt : k < no
    · first
      | (exfalso; omega)
      | (have g := cso.out k hlt
         obtain ⟨z, hz⟩ : ∃ z, z = os.getD k 0 := ⟨_, rfl⟩
         have s1 : -2147483648 ≤ z := by rw [hz]; exact (so k).1
         have s2 : z ≤ 2147483647 := by rw [hz]; exact (so k).2
         rw [← hz] at g
         have HZ : Hid (z = os.getD k 0) := hz
         clear hz
         by_cases z0 : z < 0
         · go_wp2
           go_ret
           exact ⟨.inr rfl, rfl⟩
         · by_cases z1 : (ng : Int) ≤ z
           · go_wp2
             go_ret
             exact ⟨.inr rfl, rfl⟩
           · go_wp2
             go_round
             case rel => exact ⟨k + 1, by omega, by go_num, hx.out.step (by rw [← HZ.out]; omega) (by rw [← HZ.out]; omega)⟩
             case measure => simp [intOf]; omega)
    · have hX : Hid (Ix os no ng) := by
        have e : k = no := by omega
        subst e; exact hx
      clear hx
      go_wp2
      have hXo := hX
      clear hX
      go_loop [13] (fun i => ∃ k : Nat, k ≤ nw ∧ i = .int .i64 k ∧ Hid (Ix ws k ng)) (fun i => nw - (intOf i).toNat)
      case atStart => exact ⟨0, by omega, rfl, fun j hj => absurd hj (by omega)⟩
      case round =>
        obtain ⟨k, hk, rfl, hx⟩ := hrel
        by_cases hlt : k < nw
        · first
          | (exfalso; omega)
          | (have g := csw.out k hlt
             obtain ⟨z, hz⟩ : ∃ z, z = ws.getD k 0 := ⟨_, rfl⟩
             have s1 : -2147483648 ≤ z := by rw [hz]; exact (sw k).1
             have s2 : z ≤ 2147483647 := by rw [hz]; exact (sw k).2
             rw [← hz] at g
             have HZ : Hid (z = ws.getD k 0) := hz
             clear hz
             by_cases z0 : z < 0
             · go_wp2
               go_ret
               exact ⟨.inr rfl, rfl⟩
             · by_cases z1 : (ng : Int) ≤ z
               · go_wp2
                 go_ret
                 exact ⟨.inr rfl, rfl⟩
               · go_wp2
                 go_round
                 case rel => exact ⟨k + 1, by omega, by go_num, hx.out.step (by rw [← HZ.out]; omega) (by rw [← HZ.out]; omega)⟩
                 case measure => simp [intOf]; omega)
        · have hX : Hid (Ix ws nw ng) := by
            have e : k = nw := by omega
            subst e; exact hx
          clear hx
          go_wp2
          have hXw := hX
          clear hX
          go_loop [14] (fun i => ∃ k : Nat, k ≤ nd ∧ i = .int .i64 k ∧ Hid (Ix ds k no)) (fun i => nd - (intOf i).toNat)
          case atStart => exact ⟨0, by omega, rfl, fun j hj => absurd hj (by omega)⟩
          case round =>
            obtain ⟨k, hk, rfl, hx⟩ := hrel
            by_cases hlt : k < nd
            · first
              | (exfalso; omega)
              | (have g := csd.out k hlt
                 obtain ⟨z, hz⟩ : ∃ z, z = ds.getD k 0 := ⟨_, rfl⟩
                 have s1 : -2147483648 ≤ z := by rw [hz]; exact (sd k).1
                 have s2 : z ≤ 2147483647 := by rw [hz]; exact (sd k).2
                 rw [← hz] at g
                 have HZ : Hid (z = ds.getD k 0) := hz
                 clear hz
                 by_cases z0 : z < 0
                 · go_wp2
                   go_ret
                   exact ⟨.inr rfl, rfl⟩
                 · by_cases z1 : (no : Int) ≤ z
                   · go_wp2
                     go_ret
                     exact ⟨.inr rfl, rfl⟩
                   · go_wp2
                     go_round
                     case rel => exact ⟨k + 1, by omega, by go_num, hx.out.step (by rw [← HZ.out]; omega) (by rw [← HZ.out]; omega)⟩
                     case measure => simp [intOf]; omega)
            · have hX : Hid (Ix ds nd no) := by
                have e : k = nd := by omega
                subst e; exact hx
              clear hx
              go_wp2
              go_ret
              exact ⟨.inl ⟨rfl, hXo.out, hXw.out, hX.out⟩, rfl⟩

set_option maxHeartbeats 1000000 in
set_option maxRecDepth 100000 in
theorem inRange_enn (ao : Option Addr) (no co : Nat) (os : List Int) (bw ow nw cw : Nat) (ws : List Int) (bd od nd cd : Nat) (ds : List Int) (ah : Option Addr) (ch : Nat) (ag : Option Addr) (ng cg : Nat) (w : World)
    (h0 : no < 1) (csw : Hid (∀ j, j < nw → w.cell? ⟨bw, ow + j, none⟩ = some (.int .i32 (ws.getD j 0)))) (csd : Hid (∀ j, j < nd → w.cell? ⟨bd, od + j, none⟩ = some (.int .i32 (ds.getD j 0)))) (so : Small os) (sw : Small ws) (sd : Small ds) (lo : no ≤ 32768) (lg : ng ≤ 32768) (lw : nw ≤ 16384) (ld : nd ≤ 16384) :
    Calls Try.prog 7 #[.slice ao no co, .slice ah ng ch, .slice ag ng cg, .slice (some ⟨bw, ow, none⟩) nw cw, .slice (some ⟨bd, od, none⟩) nd cd] w fun e w' => YesOr (Ix os no ng ∧ Ix ws nw ng ∧ Ix ds nd no) e ∧ w' = w := by
  go_enter Try.func7, Try.ntmps7
  go_wp2
  go_loop [12] (fun i => ∃ k : Nat, k ≤ no ∧ i = .int .i64 k ∧ Hid (Ix os k ng)) (fun i => no - (intOf i).toNat)
  case atStart => exact ⟨0, by omega, rfl, fun j hj => absurd hj (by omega)⟩
  case round =>
    obtain ⟨k, hk, rfl, hx⟩ := hrel
    by_cases hlt : k < no
    · first
      | (exfalso; omega)
      | (have g := cso.out k hlt
         obtain ⟨z, hz⟩ : ∃ z, z = os.getD k 0 := ⟨_, rfl⟩
         have s1 : -2147483648 ≤ z := by rw [hz]; exact (so k).1
         have s2 : z ≤ 2147483647 := by rw [hz]; exact (so k).2
         rw [← hz] at g
         have HZ : Hid (z = os.getD k 0) := hz
         clear hz
         by_cases z0 : z < 0
         · go_wp2
           go_ret
           exact ⟨.inr rfl, rfl⟩
         · by_cases z1 : (ng : Int) ≤ z
           · go_wp2
             go_ret
             exact ⟨.inr rfl, rfl⟩
           · go_wp2
             go_round
             case rel => exact ⟨k + 1, by omega, by go_num, hx.out.step (by rw [← HZ.out]; omega) (by rw [← HZ.out]; omega)⟩
             case measure => simp [intOf]; omega)
    · have hX : Hid (Ix os no ng) := by
        have e : k = no := by omega
        subst e; exact hx
      clear hx
      go_wp2
      have hXo := hX
      clear hX
      go_loop [13] (fun i => ∃ k : Nat, k ≤ nw ∧ i = .int .i64 k ∧ Hid (Ix ws k ng)) (fun i => nw - (intOf i).toNat)
      case atStart => exact ⟨0, by omega, rfl, fun j hj => absurd hj (by omega)⟩
      case round =>
        obtain ⟨k, hk, rfl, hx⟩ := hrel
        by_cases hlt : k < nw
        · first
          | (exfalso; omega)
          | (have g := csw.out k hlt
             obtain ⟨z, hz⟩ : ∃ z, z = ws.getD k 0 := ⟨_, rfl⟩
             have s1 : -2147483648 ≤ z := by rw [hz]; exact (sw k).1
             have s2 : z ≤ 2147483647 := by rw [hz]; exact (sw k).2
             rw [← hz] at g
             have HZ : Hid (z = ws.getD k 0) := hz
             clear hz
             by_cases z0 : z < 0
             · go_wp2
               go_ret
               exact ⟨.inr rfl, rfl⟩
             · by_cases z1 : (ng : Int) ≤ z
               · go_wp2
                 go_ret
                 exact ⟨.inr rfl, rfl⟩
               · go_wp2
                 go_round
                 case rel => exact ⟨k + 1, by omega, by go_num, hx.out.step (by rw [← HZ.out]; omega) (by rw [← HZ.out]; omega)⟩
                 case measure => simp [intOf]; omega)
        · have hX : Hid (Ix ws nw ng) := by
            have e : k = nw := by omega
            subst e; exact hx
          clear hx
          go_wp2
          have hXw := hX
          clear hX
          go_loop [14] (fun i => ∃ k : Nat, k ≤ nd ∧ i = .int .i64 k ∧ Hid (Ix ds k no)) (fun i => nd - (intOf i).toNat)
          case atStart => exact ⟨0, by omega, rfl, fun j hj => absurd hj (by omega)⟩
          case round =>
            obtain ⟨k, hk, rfl, hx⟩ := hrel
            by_cases hlt : k < nd
            · first
              | (exfalso; omega)
              | (have g := csd.out k hlt
                 obtain ⟨z, hz⟩ : ∃ z, z = ds.getD k 0 := ⟨_, rfl⟩
                 have s1 : -2147483648 ≤ z := by rw [hz]; exact (sd k).1
                 have s2 : z ≤ 2147483647 := by rw [hz]; exact (sd k).2
                 rw [← hz] at g
                 have HZ : Hid (z = ds.getD k 0) := hz
                 clear hz
                 by_cases z0 : z < 0
                 · go_wp2
                   go_ret
                   exact ⟨.inr rfl, rfl⟩
                 · by_cases z1 : (no : Int) ≤ z
                   · go_wp2
                     go_ret
                     exact ⟨.inr rfl, rfl⟩
                   · go_wp2
                     go_round
                     case rel => exact ⟨k + 1, by omega, by go_num, hx.out.step (by rw [← HZ.out]; omega) (by rw [← HZ.out]; omega)⟩
                     case measure => simp [intOf]; omega)
            · have hX : Hid (Ix ds nd no) := by
                have e : k = nd := by omega
                subst e; exact hx
              clear hx
              go_wp2
              go_ret
              exact ⟨.inl ⟨rfl, hXo.out, hXw.out, hX.out⟩, rfl⟩

set_option maxHeartbeats 1000000 in
set_option maxRecDepth 100000 in
theorem inRange_nee (bo oo no co : Nat) (os : List Int) (aw : Option Addr) (nw cw : Nat) (ws : List Int) (ad : Option Addr) (nd cd : Nat) (ds : List Int) (ah : Option Addr) (ch : Nat) (ag : Option Addr) (ng cg : Nat) (w : World)
    (cso : Hid (∀ j, j < no → w.cell? ⟨bo, oo + j, none⟩ = some (.int .i32 (os.getD j 0)))) (h1 : nw < 1) (h2 : nd < 1) (so : Small os) (sw : Small ws) (sd : Small ds) (lo : no ≤ 32768) (lg : ng ≤ 32768) (lw : nw ≤ 16384) (ld : nd ≤ 16384) :
    Calls Try.prog 7 #[.slice (some ⟨bo, oo, none⟩) no co, .slice ah ng ch, .slice ag ng cg, .slice aw nw cw, .slice ad nd cd] w fun e w' => YesOr (Ix os no ng ∧ Ix ws nw ng ∧ Ix ds nd no) e ∧ w' = w := by
  go_enter Try.func7, Try.ntmps7
  go_wp2
  go_loop [12] (fun i => ∃ k : Nat, k ≤ no ∧ i = .int .i64 k ∧ Hid (Ix os k ng)) (fun i => no - (intOf i).toNat)
  case atStart => exact ⟨0, by omega, rfl, fun j hj => absurd hj (by omega)⟩
  case round =>
    obtain ⟨k, hk, rfl, hx⟩ := hrel
    by_cases hlt : k < no
    · first
      | (exfalso; omega)
      | (have g := cso.out k hlt
         obtain ⟨z, hz⟩ : ∃ z, z = os.getD k 0 := ⟨_, rfl⟩
         have s1 : -2147483648 ≤ z := by rw [hz]; exact (so k).1
         have s2 : z ≤ 2147483647 := by rw [hz]; exact (so k).2
         rw [← hz] at g
         have HZ : Hid (z = os.getD k 0) := hz
         clear hz
         by_cases z0 : z < 0
         · go_wp2
           go_ret
           exact ⟨.inr rfl, rfl⟩
         · by_cases z1 : (ng : Int) ≤ z
           · go_wp2
             go_ret
             exact ⟨.inr rfl, rfl⟩
           · go_wp2
             go_round
             case rel => exact ⟨k + 1, by omega, by go_num, hx.out.step (by rw [← HZ.out]; omega) (by rw [← HZ.out]; omega)⟩
             case measure => simp [intOf]; omega)
    · have hX : Hid (Ix os no ng) := by
        have e : k = no := by omega
        subst e; exact hx
      clear hx
      go_wp2
      have hXo := hX
      clear hX
      go_loop [13] (fun i => ∃ k : Nat, k ≤ nw ∧ i = .int .i64 k ∧ Hid (Ix ws k ng)) (fun i => nw - (intOf i).toNat)
      case atStart => exact ⟨0, by omega, rfl, fun j hj => absurd hj (by omega)⟩
      case round =>
        obtain ⟨k, hk, rfl, hx⟩ := hrel
        by_cases hlt : k < nw
        · first
          | (exfalso; omega)
          | (have g := csw.out k hlt
             obtain ⟨z, hz⟩ : ∃ z, z = ws.getD k 0 := ⟨_, rfl⟩
             have s1 : -2147483648 ≤ z := by rw [hz]; exact (sw k).1
             have s2 : z ≤ 2147483647 := by rw [hz]; exact (sw k).2
             rw [← hz] at g
             have HZ : Hid (z = ws.getD k 0) := hz
             clear hz
             by_cases z0 : z < 0
             · go_wp2
               go_ret
               exact ⟨.inr rfl, rfl⟩
             · by_cases z1 : (ng : Int) ≤ z
               · go_wp2
                 go_ret
                 exact ⟨.inr rfl, rfl⟩
               · go_wp2
                 go_round
                 case rel => exact ⟨k + 1, by omega, by go_num, hx.out.step (by rw [← HZ.out]; omega) (by rw [← HZ.out]; omega)⟩
                 case measure => simp [intOf]; omega)
        · have hX : Hid (Ix ws nw ng) := by
            have e : k = nw := by omega
            subst e; exact hx
          clear hx
          go_wp2
          have hXw := hX
          clear hX
          go_loop [14] (fun i => ∃ k : Nat, k ≤ nd ∧ i = .int .i64 k ∧ Hid (Ix ds k no)) (fun i => nd - (intOf i).toNat)
          case atStart => exact ⟨0, by omega, rfl, fun j hj => absurd hj (by omega)⟩
          case round =>
            obtain ⟨k, hk, rfl, hx⟩ := hrel
            by_cases hlt : k < nd
            · first
              | (exfalso; omega)
              | (have g := csd.out k hlt
                 obtain ⟨z, hz⟩ : ∃ z, z = ds.getD k 0 := ⟨_, rfl⟩
                 have s1 : -2147483648 ≤ z := by rw [hz]; exact (sd k).1
                 have s2 : z ≤ 2147483647 := by rw [hz]; exact (sd k).2
                 rw [← hz] at g
                 have HZ : Hid (z = ds.getD k 0) := hz
                 clear hz
                 by_cases z0 : z < 0
                 · go_wp2
                   go_ret
                   exact ⟨.inr rfl, rfl⟩
                 · by_cases z1 : (no : Int) ≤ z
                   · go_wp2
                     go_ret
                     exact ⟨.inr rfl, rfl⟩
                   · go_wp2
                     go_round
                     case rel => exact ⟨k + 1, by omega, by go_num, hx.out.step (by rw [← HZ.out]; omega) (by rw [← HZ.out]; omega)⟩
                     case measure => simp [intOf]; omega)
            · have hX : Hid (Ix ds nd no) := by
                have e : k = nd := by omega
                subst e; exact hx
              clear hx
              go_wp2
              go_ret
              exact ⟨.inl ⟨rfl, hXo.out, hXw.out, hX.out⟩, rfl⟩

set_option maxHeartbeats 1000000 in
set_option maxRecDepth 100000 in
theorem inRange_nen (bo oo no co : Nat) (os : List Int) (aw : Option Addr) (nw cw : Nat) (ws : List Int) (bd od nd cd : Nat) (ds : List Int) (ah : Option Addr) (ch : Nat) (ag : Option Addr) (ng cg : Nat) (w : World)
    (cso : Hid (∀ j, j < no → w.cell? ⟨bo, oo + j, none⟩ = some (.int .i32 (os.getD j 0)))) (h1 : nw < 1) (csd : Hid (∀ j, j < nd → w.cell? ⟨bd, od + j, none⟩ = some (.int .i32 (ds.getD j 0)))) (so : Small os) (sw : Small ws) (sd : Small ds) (lo : no ≤ 32768) (lg : ng ≤ 32768) (lw : nw ≤ 16384) (ld : nd ≤ 16384) :
    Calls Try.prog 7 #[.slice (some ⟨bo, oo, none⟩) no co, .slice ah ng ch, .slice ag ng cg, .slice aw nw cw, .slice (some ⟨bd, od, none⟩) nd cd] w fun e w' => YesOr (Ix os no ng ∧ Ix ws nw ng ∧ Ix ds nd no) e ∧ w' = w := by
  go_enter Try.func7, Try.ntmps7
  go_wp2
  go_loop [12] (fun i => ∃ k : Nat, k ≤ no ∧ i = .int .i64 k ∧ Hid (Ix os k ng)) (fun i => no - (intOf i).toNat)
  case atStart => exact ⟨0, by omega, rfl, fun j hj => absurd hj (by omega)⟩
  case round =>
    obtain ⟨k, hk, rfl, hx⟩ := hrel
    by_cases hlt : k < no
    · first
      | (exfalso; omega)
      | (have g := cso.out k hlt
         obtain ⟨z, hz⟩ : ∃ z, z = os.getD k 0 := ⟨_, rfl⟩
         have s1 : -2147483648 ≤ z := by rw [hz]; exact (so k).1
         have s2 : z ≤ 2147483647 := by rw [hz]; exact (so k).2
         rw [← hz] at g
         have HZ : Hid (z = os.getD k 0) := hz
         clear hz
         by_cases z0 : z < 0
         · go_wp2
           go_ret
           exact ⟨.inr rfl, rfl⟩
         · by_cases z1 : (ng : Int) ≤ z
           · go_wp2
             go_ret
             exact ⟨.inr rfl, rfl⟩
           · go_wp2
             go_round
             case rel => exact ⟨k + 1, by omega, by go_num, hx.out.step (by rw [← HZ.out]; omega) (by rw [← HZ.out]; omega)⟩
             case measure => simp [intOf]; omega)
    · have hX : Hid (Ix os no ng) := by
        have e : k = no := by omega
        subst e; exact hx
      clear hx
      go_wp2
      have hXo := hX
      clear hX
      go_loop [13] (fun i => ∃ k : Nat, k ≤ nw ∧ i = .int .i64 k ∧ Hid (Ix ws k ng)) (fun i => nw - (intOf i).toNat)
      case atStart => exact ⟨0, by omega, rfl, fun j hj => absurd hj (by omega)⟩
      case round =>
        obtain ⟨k, hk, rfl, hx⟩ := hrel
        by_cases hlt : k < nw
        · first
          | (exfalso; omega)
          | (have g := csw.out k hlt
             obtain ⟨z, hz⟩ : ∃ z, z = ws.getD k 0 := ⟨_, rfl⟩
             have s1 : -2147483648 ≤ z := by rw [hz]; exact (sw k).1
             have s2 : z ≤ 2147483647 := by rw [hz]; exact (sw k).2
             rw [← hz] at g
             have HZ : Hid (z = ws.getD k 0) := hz
             clear hz
             by_cases z0 : z < 0
             · go_wp2
               go_ret
               exact ⟨.inr rfl, rfl⟩
             · by_cases z1 : (ng : Int) ≤ z
               · go_wp2
                 go_ret
                 exact ⟨.inr rfl, rfl⟩
               · go_wp2
                 go_round
                 case rel => exact ⟨k + 1, by omega, by go_num, hx.out.step (by rw [← HZ.out]; omega) (by rw [← HZ.out]; omega)⟩
                 case measure => simp [intOf]; omega)
        · have hX : Hid (Ix ws nw ng) := by
            have e : k = nw := by omega
            subst e; exact hx
          clear hx
          go_wp2
          have hXw := hX
          clear hX
          go_loop [14] (fun i => ∃ k : Nat, k ≤ nd ∧ i = .int .i64 k ∧ Hid (Ix ds k no)) (fun i => nd - (intOf i).toNat)
          case atStart => exact ⟨0, by omega, rfl, fun j hj => absurd hj (by omega)⟩
          case round =>
            obtain ⟨k, hk, rfl, hx⟩ := hrel
            by_cases hlt : k < nd
            · first
              | (exfalso; omega)
              | (have g := csd.out k hlt
                 obtain ⟨z, hz⟩ : ∃ z, z = ds.getD k 0 := ⟨_, rfl⟩
                 have s1 : -2147483648 ≤ z := by rw [hz]; exact (sd k).1
                 have s2 : z ≤ 2147483647 := by rw [hz]; exact (sd k).2
                 rw [← hz] at g
                 have HZ : Hid (z = ds.getD k 0) := hz
                 clear hz
                 by_cases z0 : z < 0
                 · go_wp2
                   go_ret
                   exact ⟨.inr rfl, rfl⟩
                 · by_cases z1 : (no : Int) ≤ z
                   · go_wp2
                     go_ret
                     exact ⟨.inr rfl, rfl⟩
                   · go_wp2
                     go_round
                     case rel => exact ⟨k + 1, by omega, by go_num, hx.out.step (by rw [← HZ.out]; omega) (by rw [← HZ.out]; omega)⟩
                     case measure => simp [intOf]; omega)
            · have hX : Hid (Ix ds nd no) := by
                have e : k = nd := by omega
                subst e; exact hx
              clear hx
              go_wp2
              go_ret
              exact ⟨.inl ⟨rfl, hXo.out, hXw.out, hX.out⟩, rfl⟩

set_option maxHeartbeats 1000000 in
set_option maxRecDepth 100000 in
theorem inRange_nne (bo oo no co : Nat) (os : List Int) (bw ow nw cw : Nat) (ws : List Int) (ad : Option Addr) (nd cd : Nat) (ds : List Int) (ah : Option Addr) (ch : Nat) (ag : Option Addr) (ng cg : Nat) (w : World)
    (cso : Hid (∀ j, j < no → w.cell? ⟨bo, oo + j, none⟩ = some (.int .i32 (os.getD j 0)))) (csw : Hid (∀ j, j < nw → w.cell? ⟨bw, ow + j, none⟩ = some (.int .i32 (ws.getD j 0)))) (h2 : nd < 1) (so : Small os) (sw : Small ws) (sd : Small ds) (lo : no ≤ 32768) (lg : ng ≤ 32768) (lw : nw ≤ 16384) (ld : nd ≤ 16384) :
    Calls Try.prog 7 #[.slice (some ⟨bo, oo, none⟩) no co, .slice ah ng ch, .slice ag ng cg, .slice (some ⟨bw, ow, none⟩) nw cw, .slice ad nd cd] w fun e w' => YesOr (Ix os no ng ∧ Ix ws nw ng ∧ Ix ds nd no) e ∧ w' = w := by
  go_enter Try.func7, Try.ntmps7
  go_wp2
  go_loop [12] (fun i => ∃ k : Nat, k ≤ no ∧ i = .int .i64 k ∧ Hid (Ix os k ng)) (fun i => no - (intOf i).toNat)
  case atStart => exact ⟨0, by omega, rfl, fun j hj => absurd hj (by omega)⟩
  case round =>
    obtain ⟨k, hk, rfl, hx⟩ := hrel
    by_cases hlt : k < no
    · first
      | (exfalso; omega)
      | (have g := cso.out k hlt
         obtain ⟨z, hz⟩ : ∃ z, z = os.getD k 0 := ⟨_, rfl⟩
         have s1 : -2147483648 ≤ z := by rw [hz]; exact (so k).1
         have s2 : z ≤ 2147483647 := by rw [hz]; exact (so k).2
         rw [← hz] at g
         have HZ : Hid (z = os.getD k 0) := hz
         clear hz
         by_cases z0 : z < 0
         · go_wp2
           go_ret
           exact ⟨.inr rfl, rfl⟩
         · by_cases z1 : (ng : Int) ≤ z
           · go_wp2
             go_ret
             exact ⟨.inr rfl, rfl⟩
           · go_wp2
             go_round
             case rel => exact ⟨k + 1, by omega, by go_num, hx.out.step (by rw [← HZ.out]; omega) (by rw [← HZ.out]; omega)⟩
             case measure => simp [intOf]; omega)
    · have hX : Hid (Ix os no ng) := by
        have e : k = no := by omega
        subst e; exact hx
      clear hx
      go_wp2
      have hXo := hX
      clear hX
      go_loop [13] (fun i => ∃ k : Nat, k ≤ nw ∧ i = .int .i64 k ∧ Hid (Ix ws k ng)) (fun i => nw - (intOf i).toNat)
      case atStart => exact ⟨0, by omega, rfl, fun j hj => absurd hj (by omega)⟩
      case round =>
        obtain ⟨k, hk, rfl, hx⟩ := hrel
        by_cases hlt : k < nw
        · first
          | (exfalso; omega)
          | (have g := csw.out k hlt
             obtain ⟨z, hz⟩ : ∃ z, z = ws.getD k 0 := ⟨_, rfl⟩
             have s1 : -2147483648 ≤ z := by rw [hz]; exact (sw k).1
             have s2 : z ≤ 2147483647 := by rw [hz]; exact (sw k).2
             rw [← hz] at g
             have HZ : Hid (z = ws.getD k 0) := hz
             clear hz
             by_cases z0 : z < 0
             · go_wp2
               go_ret
               exact ⟨.inr rfl, rfl⟩
             · by_cases z1 : (ng : Int) ≤ z
               · go_wp2
                 go_ret
                 exact ⟨.inr rfl, rfl⟩
               · go_wp2
                 go_round
                 case rel => exact ⟨k + 1, by omega, by go_num, hx.out.step (by rw [← HZ.out]; omega) (by rw [← HZ.out]; omega)⟩
                 case measure => simp [intOf]; omega)
        · have hX : Hid (Ix ws nw ng) := by
            have e : k = nw := by omega
            subst e; exact hx
          clear hx
          go_wp2
          have hXw := hX
          clear hX
          go_loop [14] (fun i => ∃ k : Nat, k ≤ nd ∧ i = .int .i64 k ∧ Hid (Ix ds k no)) (fun i => nd - (intOf i).toNat)
          case atStart => exact ⟨0, by omega, rfl, fun j hj => absurd hj (by omega)⟩
          case round =>
            obtain ⟨k, hk, rfl, hx⟩ := hrel
            by_cases hlt : k < nd
            · first
              | (exfalso; omega)
              | (have g := csd.out k hlt
                 obtain ⟨z, hz⟩ : ∃ z, z = ds.getD k 0 := ⟨_, rfl⟩
                 have s1 : -2147483648 ≤ z := by rw [hz]; exact (sd k).1
                 have s2 : z ≤ 2147483647 := by rw [hz]; exact (sd k).2
                 rw [← hz] at g
                 have HZ : Hid (z = ds.getD k 0) := hz
                 clear hz
                 by_cases z0 : z < 0
                 · go_wp2
                   go_ret
                   exact ⟨.inr rfl, rfl⟩
                 · by_cases z1 : (no : Int) ≤ z
                   · go_wp2
                     go_ret
                     exact ⟨.inr rfl, rfl⟩
                   · go_wp2
                     go_round
                     case rel => exact ⟨k + 1, by omega, by go_num, hx.out.step (by rw [← HZ.out]; omega) (by rw [← HZ.out]; omega)⟩
                     case measure => simp [intOf]; omega)
            · have hX : Hid (Ix ds nd no) := by
                have e : k = nd := by omega
                subst e; exact hx
              clear hx
              go_wp2
              go_ret
              exact ⟨.inl ⟨rfl, hXo.out, hXw.out, hX.out⟩, rfl⟩

set_option maxHeartbeats 1000000 in
set_option maxRecDepth 100000 in
theorem inRange_nnn (bo oo no co : Nat) (os : List Int) (bw ow nw cw : Nat) (ws : List Int) (bd od nd cd : Nat) (ds : List Int) (ah : Option Addr) (ch : Nat) (ag : Option Addr) (ng cg : Nat) (w : World)
    (cso : Hid (∀ j, j < no → w.cell? ⟨bo, oo + j, none⟩ = some (.int .i32 (os.getD j 0)))) (csw : Hid (∀ j, j < nw → w.cell? ⟨bw, ow + j, none⟩ = some (.int .i32 (ws.getD j 0)))) (csd : Hid (∀ j, j < nd → w.cell? ⟨bd, od + j, none⟩ = some (.int .i32 (ds.getD j 0)))) (so : Small os) (sw : Small ws) (sd : Small ds) (lo : no ≤ 32768) (lg : ng ≤ 32768) (lw : nw ≤ 16384) (ld : nd ≤ 16384) :
    Calls Try.prog 7 #[.slice (some ⟨bo, oo, none⟩) no co, .slice ah ng ch, .slice ag ng cg, .slice (some ⟨bw, ow, none⟩) nw cw, .slice (some ⟨bd, od, none⟩) nd cd] w fun e w' => YesOr (Ix os no ng ∧ Ix ws nw ng ∧ Ix ds nd no) e ∧ w' = w := by
  go_enter Try.func7, Try.ntmps7
  go_wp2
  go_loop [12] (fun i => ∃ k : Nat, k ≤ no ∧ i = .int .i64 k ∧ Hid (Ix os k ng)) (fun i => no - (intOf i).toNat)
  case atStart => exact ⟨0, by omega, rfl, fun j hj => absurd hj (by omega)⟩
  case round =>
    obtain ⟨k, hk, rfl, hx⟩ := hrel
    by_cases hlt : k < no
    · first
      | (exfalso; omega)
      | (have g := cso.out k hlt
         obtain ⟨z, hz⟩ : ∃ z, z = os.getD k 0 := ⟨_, rfl⟩
         have s1 : -2147483648 ≤ z := by rw [hz]; exact (so k).1
         have s2 : z ≤ 2147483647 := by rw [hz]; exact (so k).2
         rw [← hz] at g
         have HZ : Hid (z = os.getD k 0) := hz
         clear hz
         by_cases z0 : z < 0
         · go_wp2
           go_ret
           exact ⟨.inr rfl, rfl⟩
         · by_cases z1 : (ng : Int) ≤ z
           · go_wp2
             go_ret
             exact ⟨.inr rfl, rfl⟩
           · go_wp2
             go_round
             case rel => exact ⟨k + 1, by omega, by go_num, hx.out.step (by rw [← HZ.out]; omega) (by rw [← HZ.out]; omega)⟩
             case measure => simp [intOf]; omega)
    · have hX : Hid (Ix os no ng) := by
        have e : k = no := by omega
        subst e; exact hx
      clear hx
      go_wp2
      have hXo := hX
      clear hX
      go_loop [13] (fun i => ∃ k : Nat, k ≤ nw ∧ i = .int .i64 k ∧ Hid (Ix ws k ng)) (fun i => nw - (intOf i).toNat)
      case atStart => exact ⟨0, by omega, rfl, fun j hj => absurd hj (by omega)⟩
      case round =>
        obtain ⟨k, hk, rfl, hx⟩ := hrel
        by_cases hlt : k < nw
        · first
          | (exfalso; omega)
          | (have g := csw.out k hlt
             obtain ⟨z, hz⟩ : ∃ z, z = ws.getD k 0 := ⟨_, rfl⟩
             have s1 : -2147483648 ≤ z := by rw [hz]; exact (sw k).1
             have s2 : z ≤ 2147483647 := by rw [hz]; exact (sw k).2
             rw [← hz] at g
             have HZ : Hid (z = ws.getD k 0) := hz
             clear hz
             by_cases z0 : z < 0
             · go_wp2
               go_ret
               exact ⟨.inr rfl, rfl⟩
             · by_cases z1 : (ng : Int) ≤ z
               · go_wp2
                 go_ret
                 exact ⟨.inr rfl, rfl⟩
               · go_wp2
                 go_round
                 case rel => exact ⟨k + 1, by omega, by go_num, hx.out.step (by rw [← HZ.out]; omega) (by rw [← HZ.out]; omega)⟩
                 case measure => simp [intOf]; omega)
        · have hX : Hid (Ix ws nw ng) := by
            have e : k = nw := by omega
            subst e; exact hx
          clear hx
          go_wp2
          have hXw := hX
          clear hX
          go_loop [14] (fun i => ∃ k : Nat, k ≤ nd ∧ i = .int .i64 k ∧ Hid (Ix ds k no)) (fun i => nd - (intOf i).toNat)
          case atStart => exact ⟨0, by omega, rfl, fun j hj => absurd hj (by omega)⟩
          case round =>
            obtain ⟨k, hk, rfl, hx⟩ := hrel
            by_cases hlt : k < nd
            · first
              | (exfalso; omega)
              | (have g := csd.out k hlt
                 obtain ⟨z, hz⟩ : ∃ z, z = ds.getD k 0 := ⟨_, rfl⟩
                 have s1 : -2147483648 ≤ z := by rw [hz]; exact (sd k).1
                 have s2 : z ≤ 2147483647 := by rw [hz]; exact (sd k).2
                 rw [← hz] at g
                 have HZ : Hid (z = ds.getD k 0) := hz
                 clear hz
                 by_cases z0 : z < 0
                 · go_wp2
                   go_ret
                   exact ⟨.inr rfl, rfl⟩
                 · by_cases z1 : (no : Int) ≤ z
                   · go_wp2
                     go_ret
                     exact ⟨.inr rfl, rfl⟩
                   · go_wp2
                     go_round
                     case rel => exact ⟨k + 1, by omega, by go_num, hx.out.step (by rw [← HZ.out]; omega) (by rw [← HZ.out]; omega)⟩
                     case measure => simp [intOf]; omega)
            · have hX : Hid (Ix ds nd no) := by
                have e : k = nd := by omega
                subst e; exact hx
              clear hx
              go_wp2
              go_ret
              exact ⟨.inl ⟨rfl, hXo.out, hXw.out, hX.out⟩, rfl⟩

set_option maxHeartbeats 1000000 in
set_option maxRecDepth 100000 in
theorem inRange_len (ao : Option Addr) (no co : Nat) (ah : Option Addr) (nh ch : Nat) (ag : Option Addr) (ng cg : Nat) (aw : Option Addr) (nw cw : Nat) (ad : Option Addr) (nd cd : Nat) (w : World) (hb : ((ng : Int) != (nh : Int)) = true) :
    Calls Try.prog 7 #[.slice ao no co, .slice ah nh ch, .slice ag ng cg, .slice aw nw cw, .slice ad nd cd] w fun e w' => e = .returned (.bool false) ∧ w' = w := by
  go_enter Try.func7, Try.ntmps7
  go_wp2
  go_ret
  exact ⟨rfl, rfl⟩

/-- mostInRange: where it says yes, the four things hold. -/
theorem inRange (ao : Option Addr) (no co : Nat) (os : List Int) (ah : Option Addr) (nh ch : Nat) (ag : Option Addr) (ng cg : Nat) (aw : Option Addr) (nw cw : Nat) (ws : List Int) (ad : Option Addr) (nd cd : Nat) (ds : List Int) (w : World)
    (ho : Rk .i32 w ao no os) (hw : Rk .i32 w aw nw ws) (hd : Rk .i32 w ad nd ds) (so : Small os) (sw : Small ws) (sd : Small ds) (lo : no ≤ 32768) (lg : ng ≤ 32768) (lw : nw ≤ 16384) (ld : nd ≤ 16384) :
    Calls Try.prog 7 #[.slice ao no co, .slice ah nh ch, .slice ag ng cg, .slice aw nw cw, .slice ad nd cd] w fun e w' => YesOr (ng = nh ∧ Ix os no nh ∧ Ix ws nw nh ∧ Ix ds nd no) e ∧ w' = w := by
  by_cases hgh : ng = nh
  · subst hgh
    have fin : ∀ (e : Ending) (w' : World), (YesOr (Ix os no ng ∧ Ix ws nw ng ∧ Ix ds nd no) e ∧ w' = w) → YesOr (ng = ng ∧ Ix os no ng ∧ Ix ws nw ng ∧ Ix ds nd no) e ∧ w' = w := by
      rintro e w' ⟨h | h, hw'⟩
      · exact ⟨.inl ⟨h.1, rfl, h.2⟩, hw'⟩
      · exact ⟨.inr h, hw'⟩
    rcases ho.cases with h0 | ⟨bo, oo, rfl, _, cso⟩
    · rcases hw.cases with h1 | ⟨bw, ow, rfl, _, csw⟩
      · rcases hd.cases with h2 | ⟨bd, od, rfl, _, csd⟩
        · exact (inRange_eee ao no co os aw nw cw ws ad nd cd ds ah ch ag ng cg w h0 h1 h2 so sw sd lo lg lw ld).mono fin
        · exact (inRange_een ao no co os aw nw cw ws bd od nd cd ds ah ch ag ng cg w h0 h1 csd so sw sd lo lg lw ld).mono fin
      · rcases hd.cases with h2 | ⟨bd, od, rfl, _, csd⟩
        · exact (inRange_ene ao no co os bw ow nw cw ws ad nd cd ds ah ch ag ng cg w h0 csw h2 so sw sd lo lg lw ld).mono fin
        · exact (inRange_enn ao no co os bw ow nw cw ws bd od nd cd ds ah ch ag ng cg w h0 csw csd so sw sd lo lg lw ld).mono fin
    · rcases hw.cases with h1 | ⟨bw, ow, rfl, _, csw⟩
      · rcases hd.cases with h2 | ⟨bd, od, rfl, _, csd⟩
        · exact (inRange_nee bo oo no co os aw nw cw ws ad nd cd ds ah ch ag ng cg w cso h1 h2 so sw sd lo lg lw ld).mono fin
        · exact (inRange_nen bo oo no co os aw nw cw ws bd od nd cd ds ah ch ag ng cg w cso h1 csd so sw sd lo lg lw ld).mono fin
      · rcases hd.cases with h2 | ⟨bd, od, rfl, _, csd⟩
        · exact (inRange_nne bo oo no co os bw ow nw cw ws ad nd cd ds ah ch ag ng cg w cso csw h2 so sw sd lo lg lw ld).mono fin
        · exact (inRange_nnn bo oo no co os bw ow nw cw ws bd od nd cd ds ah ch ag ng cg w cso csw csd so sw sd lo lg lw ld).mono fin
  · exact (inRange_len ao no co ah nh ch ag ng cg aw nw cw ad nd cd w (by simp; omega)).mono fun e w' ⟨h, hw'⟩ => ⟨.inr h, hw'⟩

#print axioms inRange
end Go.Proofs.Qxb6605708a
