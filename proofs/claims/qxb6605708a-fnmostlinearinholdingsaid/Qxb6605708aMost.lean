/-
  The contract of (*regionIndex).most (25).
-/
import Derived.Test.Qxb6605708aBase
import Derived.Test.Qxb6605708aSum
namespace Go.Proofs.Qxb6605708a
open Go.RowKit
set_option linter.unusedVariables false

theorem ret_int {k : IntKind} {a b : Int} (h : a = b) : Ending.returned (.int k a) = .returned (.int k b) := by rw [h]

theorem step1 (hs gs ws : List Int) (k : Nat) (x y z : Int) (r : Nat) (h : k < ws.length) (hx : x = wrap64 (part1 hs gs (ws.take k))) (hr : ws.getD k 0 = (r : Int)) (hy : y = hs.getD r 0) (hz : z = gs.getD r 0) :
    wrap64 (x + wrap64 (y + z)) = wrap64 (part1 hs gs (ws.take (k + 1))) := by
  rw [part1_step hs gs ws k h, hr, Int.toNat_natCast, ← hy, ← hz, hx, wrap_add]

theorem step2 (hs gs ws os : List Int) (V : Int → Int) (ds : List Int) (k : Nat) (x y z : Int) (m p : Nat) (h : k < ds.length) (hx : x = wrap64 (part1 hs gs ws + part2 hs os V (ds.take k))) (hm : ds.getD k 0 = (m : Int)) (hp : os.getD m 0 = (p : Int)) (hy : y = hs.getD p 0) (hz : z = V (m : Int)) :
    wrap64 (x + wrap64 (z + y)) = wrap64 (part1 hs gs ws + part2 hs os V (ds.take (k + 1))) := by
  rw [part2_step hs os V ds k h, hm, Int.toNat_natCast, hp, Int.toNat_natCast, ← hy, ← hz, hx, wrap_add, Int.add_assoc]

set_option maxHeartbeats 1000000 in
set_option maxRecDepth 100000 in
theorem most_ee (px ps pu : Nat) (ao : Option Addr) (no co : Nat) (os : List Int) (ah : Option Addr) (nh ch : Nat) (hs : List Int) (ag : Option Addr) (cg : Nat) (gs : List Int) (mv : Value) (V : Int → Int) (L : Nat) (aw : Option Addr) (nw cw : Nat) (ws : List Int) (ad : Option Addr) (nd cd : Nat) (ds : List Int) (w : World)
    (c0 : w.cell? ⟨px, 0, none⟩ = some (.pointer (some ⟨pu, 0, none⟩))) (c6 : w.cell? ⟨px, 6, none⟩ = some (.slice ah nh ch)) (c7 : w.cell? ⟨px, 7, none⟩ = some (.slice ag nh cg)) (c8 : w.cell? ⟨px, 8, none⟩ = some mv)
    (s0 : w.cell? ⟨ps, 0, none⟩ = some (.slice aw nw cw)) (s3 : w.cell? ⟨ps, 3, none⟩ = some (.slice ad nd cd)) (u0 : w.cell? ⟨pu, 0, none⟩ = some (.slice ao no co))
    (hmv : MapR w mv V L) (ew : nw < 1) (ed : nd < 1)
    (io : Ix os no nh) (iw : Ix ws nw nh) (id : Ix ds nd no) (lw : Hid (ws.length = nw)) (ld : Hid (ds.length = nd)) (b1 : no ≤ 32768) (b2 : nh ≤ 32768) (b3 : nw ≤ 16384) (b4 : nd ≤ 16384) :
    Calls Try.prog 25 #[.pointer (some ⟨px, 0, none⟩), .pointer (some ⟨ps, 0, none⟩)] w fun e w' => e = .returned (.int .i64 (wrap64 (part1 hs gs ws + part2 hs os V ds))) ∧ Below w.heap.size w w' := by
  go_enter Try.func25, Try.ntmps25
  go_wp2
  go_loopw [5, 15] (fun n i wr => ∃ k : Nat, k ≤ nw ∧ i = .int .i64 k ∧ (∃ x, n = .int .i64 x ∧ Hid (x = wrap64 (part1 hs gs (ws.take k)))) ∧ Below w.heap.size w wr) (fun _ i _ => nw - (intOf i).toNat)
  case atStart => exact ⟨0, by omega, rfl, ⟨0, rfl, (show _ = _ by simp [part1, wrap64])⟩, Below.refl _ _⟩
  case round =>
    obtain ⟨k, hk, rfl, ⟨x, rfl, hx⟩, hb⟩ := hrel
    by_cases hlt : k < nw
    · exfalso; omega
    · have hX : Hid (x = wrap64 (part1 hs gs ws)) := by
        have h := hx.out
        rw [List.take_of_length_le (by rw [lw.out]; omega)] at h
        exact h
      clear hx
      have e3 := cell_kept hb s3
      go_wp2
      go_loopw [5, 42] (fun n i wr => ∃ k : Nat, k ≤ nd ∧ i = .int .i64 k ∧ (∃ x, n = .int .i64 x ∧ Hid (x = wrap64 (part1 hs gs ws + part2 hs os V (ds.take k)))) ∧ Below w.heap.size w wr) (fun _ i _ => nd - (intOf i).toNat)
      case atStart => exact ⟨0, by omega, rfl, ⟨x, rfl, (show _ = _ by rw [hX.out]; simp [part2])⟩, hb⟩
      case round =>
        clear hX hb e3
        rename_i wr0
        obtain ⟨j, hj, rfl, ⟨x, rfl, hx⟩, hb⟩ := hrel
        by_cases hlt2 : j < nd
        · exfalso; omega
        · have hX : Hid (x = wrap64 (part1 hs gs ws + part2 hs os V ds)) := by
            have h := hx.out
            rw [List.take_of_length_le (l := ds) (by rw [ld.out]; omega)] at h
            exact h
          clear hx
          go_wp2
          go_ret
          exact ⟨ret_int hX.out, hb⟩

set_option maxHeartbeats 1000000 in
set_option maxRecDepth 100000 in
theorem most_en (px ps pu : Nat) (bo oo no co : Nat) (os : List Int) (bh oh nh ch : Nat) (hs : List Int) (ag : Option Addr) (cg : Nat) (gs : List Int) (mv : Value) (V : Int → Int) (L : Nat) (aw : Option Addr) (nw cw : Nat) (ws : List Int) (bd od nd cd : Nat) (ds : List Int) (w : World)
    (c0 : w.cell? ⟨px, 0, none⟩ = some (.pointer (some ⟨pu, 0, none⟩))) (c6 : w.cell? ⟨px, 6, none⟩ = some (.slice (some ⟨bh, oh, none⟩) nh ch)) (c7 : w.cell? ⟨px, 7, none⟩ = some (.slice ag nh cg)) (c8 : w.cell? ⟨px, 8, none⟩ = some mv)
    (s0 : w.cell? ⟨ps, 0, none⟩ = some (.slice aw nw cw)) (s3 : w.cell? ⟨ps, 3, none⟩ = some (.slice (some ⟨bd, od, none⟩) nd cd)) (u0 : w.cell? ⟨pu, 0, none⟩ = some (.slice (some ⟨bo, oo, none⟩) no co))
    (hmv : MapR w mv V L) (cso : Hid (∀ j, j < no → w.cell? ⟨bo, oo + j, none⟩ = some (.int .i32 (os.getD j 0)))) (csh : Hid (∀ j, j < nh → w.cell? ⟨bh, oh + j, none⟩ = some (.int .i64 (hs.getD j 0)))) (ew : nw < 1) (csd : Hid (∀ j, j < nd → w.cell? ⟨bd, od + j, none⟩ = some (.int .i32 (ds.getD j 0))))
    (io : Ix os no nh) (iw : Ix ws nw nh) (id : Ix ds nd no) (lw : Hid (ws.length = nw)) (ld : Hid (ds.length = nd)) (b1 : no ≤ 32768) (b2 : nh ≤ 32768) (b3 : nw ≤ 16384) (b4 : nd ≤ 16384) :
    Calls Try.prog 25 #[.pointer (some ⟨px, 0, none⟩), .pointer (some ⟨ps, 0, none⟩)] w fun e w' => e = .returned (.int .i64 (wrap64 (part1 hs gs ws + part2 hs os V ds))) ∧ Below w.heap.size w w' := by
  go_enter Try.func25, Try.ntmps25
  go_wp2
  go_loopw [5, 15] (fun n i wr => ∃ k : Nat, k ≤ nw ∧ i = .int .i64 k ∧ (∃ x, n = .int .i64 x ∧ Hid (x = wrap64 (part1 hs gs (ws.take k)))) ∧ Below w.heap.size w wr) (fun _ i _ => nw - (intOf i).toNat)
  case atStart => exact ⟨0, by omega, rfl, ⟨0, rfl, (show _ = _ by simp [part1, wrap64])⟩, Below.refl _ _⟩
  case round =>
    obtain ⟨k, hk, rfl, ⟨x, rfl, hx⟩, hb⟩ := hrel
    by_cases hlt : k < nw
    · exfalso; omega
    · have hX : Hid (x = wrap64 (part1 hs gs ws)) := by
        have h := hx.out
        rw [List.take_of_length_le (by rw [lw.out]; omega)] at h
        exact h
      clear hx
      have e3 := cell_kept hb s3
      go_wp2
      go_loopw [5, 42] (fun n i wr => ∃ k : Nat, k ≤ nd ∧ i = .int .i64 k ∧ (∃ x, n = .int .i64 x ∧ Hid (x = wrap64 (part1 hs gs ws + part2 hs os V (ds.take k)))) ∧ Below w.heap.size w wr) (fun _ i _ => nd - (intOf i).toNat)
      case atStart => exact ⟨0, by omega, rfl, ⟨x, rfl, (show _ = _ by rw [hX.out]; simp [part2])⟩, hb⟩
      case round =>
        clear hX hb e3
        rename_i wr0
        obtain ⟨j, hj, rfl, ⟨x, rfl, hx⟩, hb⟩ := hrel
        by_cases hlt2 : j < nd
        · obtain ⟨m, hm⟩ : ∃ m : Nat, ds.getD j 0 = (m : Int) := ⟨_, (Int.toNat_of_nonneg (id j hlt2).1).symm⟩
          have hmo : m < no := by have := (id j hlt2).2; omega
          obtain ⟨p, hp⟩ : ∃ p : Nat, os.getD m 0 = (p : Int) := ⟨_, (Int.toNat_of_nonneg (io m hmo).1).symm⟩
          have hph : p < nh := by have := (io m hmo).2; omega
          have g1 := cell_kept hb (csd.out j hlt2)
          have g2 := cell_kept hb (cso.out m hmo)
          have g3 := cell_kept hb (csh.out p hph)
          have d0 := cell_kept hb c0
          have d6 := cell_kept hb c6
          have d8 := cell_kept hb c8
          have du := cell_kept hb u0
          have hlk : ∀ nq, (Instr.lookup 24 mv (.int .i32 (m : Int)) false).run Try.prog (wr.drewN nq) = .ok (.int .i64 (V m)) (wr.drewN nq) := fun nq => hmv.look _ (below_drewN hb nq) _ (WalkArith.wf_i32 (by omega))
          obtain ⟨y, hy⟩ : ∃ y, y = hs.getD p 0 := ⟨_, rfl⟩
          obtain ⟨z, hz⟩ : ∃ z, z = V (m : Int) := ⟨_, rfl⟩
          rw [hm] at g1
          rw [hp] at g2
          rw [← hy] at g3
          simp only [← hz] at hlk
          have HR : Hid (wrap64 (x + wrap64 (z + y)) = wrap64 (part1 hs gs ws + part2 hs os V (ds.take (j + 1)))) := step2 hs gs ws os V ds j x y z m p (by rw [ld.out]; exact hlt2) hx.out hm hp hy hz
          clear hm hp hy hz hx
          go_wp2
          go_quiet (fail)
          go_wp2
          go_roundw
          case rel => exact ⟨j + 1, by omega, by go_num, ⟨_, rfl, HR⟩, below_drewN hb _⟩
          case measure => simp [intOf]; omega
        · have hX : Hid (x = wrap64 (part1 hs gs ws + part2 hs os V ds)) := by
            have h := hx.out
            rw [List.take_of_length_le (l := ds) (by rw [ld.out]; omega)] at h
            exact h
          clear hx
          go_wp2
          go_ret
          exact ⟨ret_int hX.out, hb⟩

set_option maxHeartbeats 1000000 in
set_option maxRecDepth 100000 in
theorem most_ne (px ps pu : Nat) (ao : Option Addr) (no co : Nat) (os : List Int) (bh oh nh ch : Nat) (hs : List Int) (bg og cg : Nat) (gs : List Int) (mv : Value) (V : Int → Int) (L : Nat) (bw ow nw cw : Nat) (ws : List Int) (ad : Option Addr) (nd cd : Nat) (ds : List Int) (w : World)
    (c0 : w.cell? ⟨px, 0, none⟩ = some (.pointer (some ⟨pu, 0, none⟩))) (c6 : w.cell? ⟨px, 6, none⟩ = some (.slice (some ⟨bh, oh, none⟩) nh ch)) (c7 : w.cell? ⟨px, 7, none⟩ = some (.slice (some ⟨bg, og, none⟩) nh cg)) (c8 : w.cell? ⟨px, 8, none⟩ = some mv)
    (s0 : w.cell? ⟨ps, 0, none⟩ = some (.slice (some ⟨bw, ow, none⟩) nw cw)) (s3 : w.cell? ⟨ps, 3, none⟩ = some (.slice ad nd cd)) (u0 : w.cell? ⟨pu, 0, none⟩ = some (.slice ao no co))
    (hmv : MapR w mv V L) (csh : Hid (∀ j, j < nh → w.cell? ⟨bh, oh + j, none⟩ = some (.int .i64 (hs.getD j 0)))) (csg : Hid (∀ j, j < nh → w.cell? ⟨bg, og + j, none⟩ = some (.int .i64 (gs.getD j 0)))) (csw : Hid (∀ j, j < nw → w.cell? ⟨bw, ow + j, none⟩ = some (.int .i32 (ws.getD j 0)))) (ed : nd < 1)
    (io : Ix os no nh) (iw : Ix ws nw nh) (id : Ix ds nd no) (lw : Hid (ws.length = nw)) (ld : Hid (ds.length = nd)) (b1 : no ≤ 32768) (b2 : nh ≤ 32768) (b3 : nw ≤ 16384) (b4 : nd ≤ 16384) :
    Calls Try.prog 25 #[.pointer (some ⟨px, 0, none⟩), .pointer (some ⟨ps, 0, none⟩)] w fun e w' => e = .returned (.int .i64 (wrap64 (part1 hs gs ws + part2 hs os V ds))) ∧ Below w.heap.size w w' := by
  go_enter Try.func25, Try.ntmps25
  go_wp2
  go_loopw [5, 15] (fun n i wr => ∃ k : Nat, k ≤ nw ∧ i = .int .i64 k ∧ (∃ x, n = .int .i64 x ∧ Hid (x = wrap64 (part1 hs gs (ws.take k)))) ∧ Below w.heap.size w wr) (fun _ i _ => nw - (intOf i).toNat)
  case atStart => exact ⟨0, by omega, rfl, ⟨0, rfl, (show _ = _ by simp [part1, wrap64])⟩, Below.refl _ _⟩
  case round =>
    obtain ⟨k, hk, rfl, ⟨x, rfl, hx⟩, hb⟩ := hrel
    by_cases hlt : k < nw
    · obtain ⟨r, hr⟩ : ∃ r : Nat, ws.getD k 0 = (r : Int) := ⟨_, (Int.toNat_of_nonneg (iw k hlt).1).symm⟩
      have hrh : r < nh := by have := (iw k hlt).2; omega
      have g1 := cell_kept hb (csw.out k hlt)
      have g2 := cell_kept hb (csh.out r hrh)
      have g3 := cell_kept hb (csg.out r hrh)
      have d6 := cell_kept hb c6
      have d7 := cell_kept hb c7
      obtain ⟨y, hy⟩ : ∃ y, y = hs.getD r 0 := ⟨_, rfl⟩
      obtain ⟨z, hz⟩ : ∃ z, z = gs.getD r 0 := ⟨_, rfl⟩
      rw [hr] at g1
      rw [← hy] at g2
      rw [← hz] at g3
      have HR : Hid (wrap64 (x + wrap64 (y + z)) = wrap64 (part1 hs gs (ws.take (k + 1)))) := step1 hs gs ws k x y z r (by rw [lw.out]; exact hlt) hx.out hr hy hz
      clear hr hy hz hx
      go_wp2
      go_quiet (fail)
      go_wp2
      go_roundw
      case rel => exact ⟨k + 1, by omega, by go_num, ⟨_, rfl, HR⟩, below_drewN hb _⟩
      case measure => simp [intOf]; omega
    · have hX : Hid (x = wrap64 (part1 hs gs ws)) := by
        have h := hx.out
        rw [List.take_of_length_le (by rw [lw.out]; omega)] at h
        exact h
      clear hx
      have e3 := cell_kept hb s3
      go_wp2
      go_loopw [5, 42] (fun n i wr => ∃ k : Nat, k ≤ nd ∧ i = .int .i64 k ∧ (∃ x, n = .int .i64 x ∧ Hid (x = wrap64 (part1 hs gs ws + part2 hs os V (ds.take k)))) ∧ Below w.heap.size w wr) (fun _ i _ => nd - (intOf i).toNat)
      case atStart => exact ⟨0, by omega, rfl, ⟨x, rfl, (show _ = _ by rw [hX.out]; simp [part2])⟩, hb⟩
      case round =>
        clear hX hb e3
        rename_i wr0
        obtain ⟨j, hj, rfl, ⟨x, rfl, hx⟩, hb⟩ := hrel
        by_cases hlt2 : j < nd
        · exfalso; omega
        · have hX : Hid (x = wrap64 (part1 hs gs ws + part2 hs os V ds)) := by
            have h := hx.out
            rw [List.take_of_length_le (l := ds) (by rw [ld.out]; omega)] at h
            exact h
          clear hx
          go_wp2
          go_ret
          exact ⟨ret_int hX.out, hb⟩

set_option maxHeartbeats 1000000 in
set_option maxRecDepth 100000 in
theorem most_nn (px ps pu : Nat) (bo oo no co : Nat) (os : List Int) (bh oh nh ch : Nat) (hs : List Int) (bg og cg : Nat) (gs : List Int) (mv : Value) (V : Int → Int) (L : Nat) (bw ow nw cw : Nat) (ws : List Int) (bd od nd cd : Nat) (ds : List Int) (w : World)
    (c0 : w.cell? ⟨px, 0, none⟩ = some (.pointer (some ⟨pu, 0, none⟩))) (c6 : w.cell? ⟨px, 6, none⟩ = some (.slice (some ⟨bh, oh, none⟩) nh ch)) (c7 : w.cell? ⟨px, 7, none⟩ = some (.slice (some ⟨bg, og, none⟩) nh cg)) (c8 : w.cell? ⟨px, 8, none⟩ = some mv)
    (s0 : w.cell? ⟨ps, 0, none⟩ = some (.slice (some ⟨bw, ow, none⟩) nw cw)) (s3 : w.cell? ⟨ps, 3, none⟩ = some (.slice (some ⟨bd, od, none⟩) nd cd)) (u0 : w.cell? ⟨pu, 0, none⟩ = some (.slice (some ⟨bo, oo, none⟩) no co))
    (hmv : MapR w mv V L) (cso : Hid (∀ j, j < no → w.cell? ⟨bo, oo + j, none⟩ = some (.int .i32 (os.getD j 0)))) (csh : Hid (∀ j, j < nh → w.cell? ⟨bh, oh + j, none⟩ = some (.int .i64 (hs.getD j 0)))) (csg : Hid (∀ j, j < nh → w.cell? ⟨bg, og + j, none⟩ = some (.int .i64 (gs.getD j 0)))) (csw : Hid (∀ j, j < nw → w.cell? ⟨bw, ow + j, none⟩ = some (.int .i32 (ws.getD j 0)))) (csd : Hid (∀ j, j < nd → w.cell? ⟨bd, od + j, none⟩ = some (.int .i32 (ds.getD j 0))))
    (io : Ix os no nh) (iw : Ix ws nw nh) (id : Ix ds nd no) (lw : Hid (ws.length = nw)) (ld : Hid (ds.length = nd)) (b1 : no ≤ 32768) (b2 : nh ≤ 32768) (b3 : nw ≤ 16384) (b4 : nd ≤ 16384) :
    Calls Try.prog 25 #[.pointer (some ⟨px, 0, none⟩), .pointer (some ⟨ps, 0, none⟩)] w fun e w' => e = .returned (.int .i64 (wrap64 (part1 hs gs ws + part2 hs os V ds))) ∧ Below w.heap.size w w' := by
  go_enter Try.func25, Try.ntmps25
  go_wp2
  go_loopw [5, 15] (fun n i wr => ∃ k : Nat, k ≤ nw ∧ i = .int .i64 k ∧ (∃ x, n = .int .i64 x ∧ Hid (x = wrap64 (part1 hs gs (ws.take k)))) ∧ Below w.heap.size w wr) (fun _ i _ => nw - (intOf i).toNat)
  case atStart => exact ⟨0, by omega, rfl, ⟨0, rfl, (show _ = _ by simp [part1, wrap64])⟩, Below.refl _ _⟩
  case round =>
    obtain ⟨k, hk, rfl, ⟨x, rfl, hx⟩, hb⟩ := hrel
    by_cases hlt : k < nw
    · obtain ⟨r, hr⟩ : ∃ r : Nat, ws.getD k 0 = (r : Int) := ⟨_, (Int.toNat_of_nonneg (iw k hlt).1).symm⟩
      have hrh : r < nh := by have := (iw k hlt).2; omega
      have g1 := cell_kept hb (csw.out k hlt)
      have g2 := cell_kept hb (csh.out r hrh)
      have g3 := cell_kept hb (csg.out r hrh)
      have d6 := cell_kept hb c6
      have d7 := cell_kept hb c7
      obtain ⟨y, hy⟩ : ∃ y, y = hs.getD r 0 := ⟨_, rfl⟩
      obtain ⟨z, hz⟩ : ∃ z, z = gs.getD r 0 := ⟨_, rfl⟩
      rw [hr] at g1
      rw [← hy] at g2
      rw [← hz] at g3
      have HR : Hid (wrap64 (x + wrap64 (y + z)) = wrap64 (part1 hs gs (ws.take (k + 1)))) := step1 hs gs ws k x y z r (by rw [lw.out]; exact hlt) hx.out hr hy hz
      clear hr hy hz hx
      go_wp2
      go_quiet (fail)
      go_wp2
      go_roundw
      case rel => exact ⟨k + 1, by omega, by go_num, ⟨_, rfl, HR⟩, below_drewN hb _⟩
      case measure => simp [intOf]; omega
    · have hX : Hid (x = wrap64 (part1 hs gs ws)) := by
        have h := hx.out
        rw [List.take_of_length_le (by rw [lw.out]; omega)] at h
        exact h
      clear hx
      have e3 := cell_kept hb s3
      go_wp2
      go_loopw [5, 42] (fun n i wr => ∃ k : Nat, k ≤ nd ∧ i = .int .i64 k ∧ (∃ x, n = .int .i64 x ∧ Hid (x = wrap64 (part1 hs gs ws + part2 hs os V (ds.take k)))) ∧ Below w.heap.size w wr) (fun _ i _ => nd - (intOf i).toNat)
      case atStart => exact ⟨0, by omega, rfl, ⟨x, rfl, (show _ = _ by rw [hX.out]; simp [part2])⟩, hb⟩
      case round =>
        clear hX hb e3
        rename_i wr0
        obtain ⟨j, hj, rfl, ⟨x, rfl, hx⟩, hb⟩ := hrel
        by_cases hlt2 : j < nd
        · obtain ⟨m, hm⟩ : ∃ m : Nat, ds.getD j 0 = (m : Int) := ⟨_, (Int.toNat_of_nonneg (id j hlt2).1).symm⟩
          have hmo : m < no := by have := (id j hlt2).2; omega
          obtain ⟨p, hp⟩ : ∃ p : Nat, os.getD m 0 = (p : Int) := ⟨_, (Int.toNat_of_nonneg (io m hmo).1).symm⟩
          have hph : p < nh := by have := (io m hmo).2; omega
          have g1 := cell_kept hb (csd.out j hlt2)
          have g2 := cell_kept hb (cso.out m hmo)
          have g3 := cell_kept hb (csh.out p hph)
          have d0 := cell_kept hb c0
          have d6 := cell_kept hb c6
          have d8 := cell_kept hb c8
          have du := cell_kept hb u0
          have hlk : ∀ nq, (Instr.lookup 24 mv (.int .i32 (m : Int)) false).run Try.prog (wr.drewN nq) = .ok (.int .i64 (V m)) (wr.drewN nq) := fun nq => hmv.look _ (below_drewN hb nq) _ (WalkArith.wf_i32 (by omega))
          obtain ⟨y, hy⟩ : ∃ y, y = hs.getD p 0 := ⟨_, rfl⟩
          obtain ⟨z, hz⟩ : ∃ z, z = V (m : Int) := ⟨_, rfl⟩
          rw [hm] at g1
          rw [hp] at g2
          rw [← hy] at g3
          simp only [← hz] at hlk
          have HR : Hid (wrap64 (x + wrap64 (z + y)) = wrap64 (part1 hs gs ws + part2 hs os V (ds.take (j + 1)))) := step2 hs gs ws os V ds j x y z m p (by rw [ld.out]; exact hlt2) hx.out hm hp hy hz
          clear hm hp hy hz hx
          go_wp2
          go_quiet (fail)
          go_wp2
          go_roundw
          case rel => exact ⟨j + 1, by omega, by go_num, ⟨_, rfl, HR⟩, below_drewN hb _⟩
          case measure => simp [intOf]; omega
        · have hX : Hid (x = wrap64 (part1 hs gs ws + part2 hs os V ds)) := by
            have h := hx.out
            rw [List.take_of_length_le (l := ds) (by rw [ld.out]; omega)] at h
            exact h
          clear hx
          go_wp2
          go_ret
          exact ⟨ret_int hX.out, hb⟩

theorem most_any (px ps pu : Nat) (ao : Option Addr) (no co : Nat) (os : List Int) (ah : Option Addr) (nh ch : Nat) (hs : List Int) (ag : Option Addr) (cg : Nat) (gs : List Int) (mv : Value) (V : Int → Int) (L : Nat) (aw : Option Addr) (nw cw : Nat) (ws : List Int) (ad : Option Addr) (nd cd : Nat) (ds : List Int) (w : World)
    (c0 : w.cell? ⟨px, 0, none⟩ = some (.pointer (some ⟨pu, 0, none⟩))) (c6 : w.cell? ⟨px, 6, none⟩ = some (.slice ah nh ch)) (c7 : w.cell? ⟨px, 7, none⟩ = some (.slice ag nh cg)) (c8 : w.cell? ⟨px, 8, none⟩ = some mv)
    (s0 : w.cell? ⟨ps, 0, none⟩ = some (.slice aw nw cw)) (s3 : w.cell? ⟨ps, 3, none⟩ = some (.slice ad nd cd)) (u0 : w.cell? ⟨pu, 0, none⟩ = some (.slice ao no co))
    (hmv : MapR w mv V L) (ro : Rk .i32 w ao no os) (rh : Rk .i64 w ah nh hs) (rg : Rk .i64 w ag nh gs) (rw : Rk .i32 w aw nw ws) (rd : Rk .i32 w ad nd ds)
    (io : Ix os no nh) (iw : Ix ws nw nh) (id : Ix ds nd no) (b1 : no ≤ 32768) (b2 : nh ≤ 32768) (b3 : nw ≤ 16384) (b4 : nd ≤ 16384) :
    Calls Try.prog 25 #[.pointer (some ⟨px, 0, none⟩), .pointer (some ⟨ps, 0, none⟩)] w fun e w' => e = .returned (.int .i64 (wrap64 (part1 hs gs ws + part2 hs os V ds))) ∧ Below w.heap.size w w' := by
  by_cases hw : 0 < nw
  · have h0 : 0 < nh := by have := iw 0 hw; omega
    obtain ⟨bw, ow, rfl, _, csw⟩ := rw.cells hw
    obtain ⟨bh, oh, rfl, _, csh⟩ := rh.cells h0
    obtain ⟨bg, og, rfl, _, csg⟩ := rg.cells h0
    by_cases hd : 0 < nd
    · have h1 : 0 < no := by have := id 0 hd; omega
      obtain ⟨bd, od, rfl, _, csd⟩ := rd.cells hd
      obtain ⟨bo, oo, rfl, _, cso⟩ := ro.cells h1
      exact most_nn px ps pu bo oo no co os bh oh nh ch hs bg og cg gs mv V L bw ow nw cw ws bd od nd cd ds w c0 c6 c7 c8 s0 s3 u0 hmv cso csh csg csw csd io iw id rw.len rd.len b1 b2 b3 b4
    · exact most_ne px ps pu ao no co os bh oh nh ch hs bg og cg gs mv V L bw ow nw cw ws ad nd cd ds w c0 c6 c7 c8 s0 s3 u0 hmv csh csg csw (by omega) io iw id rw.len rd.len b1 b2 b3 b4
  · by_cases hd : 0 < nd
    · have h1 : 0 < no := by have := id 0 hd; omega
      have h0 : 0 < nh := by have := io 0 h1; omega
      obtain ⟨bd, od, rfl, _, csd⟩ := rd.cells hd
      obtain ⟨bo, oo, rfl, _, cso⟩ := ro.cells h1
      obtain ⟨bh, oh, rfl, _, csh⟩ := rh.cells h0
      exact most_en px ps pu bo oo no co os bh oh nh ch hs ag cg gs mv V L aw nw cw ws bd od nd cd ds w c0 c6 c7 c8 s0 s3 u0 hmv cso csh (by omega) csd io iw id rw.len rd.len b1 b2 b3 b4
    · exact most_ee px ps pu ao no co os ah nh ch hs ag cg gs mv V L aw nw cw ws ad nd cd ds w c0 c6 c7 c8 s0 s3 u0 hmv (by omega) (by omega) io iw id rw.len rd.len b1 b2 b3 b4

set_option maxHeartbeats 1000000 in
set_option maxRecDepth 100000 in
/-- ZZmost: the sum, as an int wraps it. -/
theorem zmost (ao : Option Addr) (no co : Nat) (os : List Int) (ah : Option Addr) (nh ch : Nat) (hs : List Int) (ag : Option Addr) (cg : Nat) (gs : List Int) (mr : Option Nat) (V : Int → Int) (L : Nat) (aw : Option Addr) (nw cw : Nat) (ws : List Int) (ad : Option Addr) (nd cd : Nat) (ds : List Int) (w : World)
    (hmv : MapR w (.map mr) V L) (ro : Rk .i32 w ao no os) (rh : Rk .i64 w ah nh hs) (rg : Rk .i64 w ag nh gs) (rw : Rk .i32 w aw nw ws) (rd : Rk .i32 w ad nd ds)
    (io : Ix os no nh) (iw : Ix ws nw nh) (id : Ix ds nd no) (b1 : no ≤ 32768) (b2 : nh ≤ 32768) (b3 : nw ≤ 16384) (b4 : nd ≤ 16384) :
    Calls Try.prog 8 #[.slice ao no co, .slice ah nh ch, .slice ag nh cg, .map mr, .slice aw nw cw, .slice ad nd cd] w fun e w' => e = .returned (.int .i64 (wrap64 (part1 hs gs ws + part2 hs os V ds))) ∧ Below w.heap.size w w' := by
  have hC : ∀ W px ps pu, Below w.heap.size w W → W.cell? ⟨px, 0, none⟩ = some (.pointer (some ⟨pu, 0, none⟩)) → W.cell? ⟨px, 6, none⟩ = some (.slice ah nh ch) → W.cell? ⟨px, 7, none⟩ = some (.slice ag nh cg) → W.cell? ⟨px, 8, none⟩ = some (.map mr) →
      W.cell? ⟨ps, 0, none⟩ = some (.slice aw nw cw) → W.cell? ⟨ps, 3, none⟩ = some (.slice ad nd cd) → W.cell? ⟨pu, 0, none⟩ = some (.slice ao no co) →
      Calls Try.prog 25 #[.pointer (some ⟨px, 0, none⟩), .pointer (some ⟨ps, 0, none⟩)] W fun e w' => e = .returned (.int .i64 (wrap64 (part1 hs gs ws + part2 hs os V ds))) ∧ Below W.heap.size W w' :=
    fun W px ps pu hb c0 c6 c7 c8 s0 s3 u0 => most_any px ps pu ao no co os ah nh ch hs ag cg gs (.map mr) V L aw nw cw ws ad nd cd ds W c0 c6 c7 c8 s0 s3 u0 (hmv.kept hb) (ro.kept hb) (rh.kept hb) (rg.kept hb) (rw.kept hb) (rd.kept hb) io iw id b1 b2 b3 b4
  clear hmv ro rh rg rw rd io iw id
  go_enter Try.func8, Try.ntmps8
  go_wp2_with fail
  refine (hC _ _ _ w.heap.size ?_ ?_ ?_ ?_ ?_ ?_ ?_ ?_).mono ?_
  · exact ((((Below.refl _ w).alloc (Nat.le_refl _) _).alloc (by simp) _).alloc (by simp; omega) _)
  · go_simp
  · go_simp
  · go_simp
  · go_simp
  · go_simp
  · go_simp
  · go_simp
  rintro e w2 ⟨rfl, hb2⟩
  have hw2 : Below w.heap.size w w2 := ((((Below.refl _ w).alloc (Nat.le_refl _) _).alloc (by simp) _).alloc (by simp; omega) _).trans (hb2.mono (by simp; omega))
  clear hb2 hC
  go_wp2
  go_ret
  exact ⟨rfl, hw2⟩

#print axioms zmost
end Go.Proofs.Qxb6605708a
