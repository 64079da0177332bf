/-
  The walk of FnMostLinearInHolding (4).
-/
import Derived.Test.Qxb6605708aIn
import Derived.Test.Qxb6605708aMost
import Derived.Test.Qxb6605708aFil
namespace Go.Proofs.Qxb6605708a
open Go.RowKit
set_option linter.unusedVariables false

theorem Rk.cases2 {k : IntKind} {w : World} {ao : Option Addr} {n : Nat} {xs : List Int} (h : Rk k w ao n xs) : n < 1 ∨ (0 < n ∧ ∃ b o, ao = some ⟨b, o, none⟩ ∧ b < w.heap.size ∧ ∀ j, j < n → w.cell? ⟨b, o + j, none⟩ = some (.int k (xs.getD j 0))) := by
  by_cases h0 : 0 < n
  · exact .inr ⟨h0, h.cells h0⟩
  · exact .inl (by omega)

namespace fnMostLinearInHolding

theorem info3 : (Try.prog.info? 3).map (fun i => (i.zero, i.size, i.bytes)) = some (some (.int .i64 0), 1, 8) := by kernel_rfl

set_option maxHeartbeats 2000000 in
set_option maxRecDepth 100000 in
theorem walk_ee (ao : Option Addr) (no co : Nat) (os : List Int) (bh oh nh ch : Nat) (hs : List Int) (ag : Option Addr) (ng cg : Nat) (gs : List Int) (mr : Option Nat) (V : Int → Int) (L : Nat) (aw : Option Addr) (nw cw : Nat) (ws : List Int) (ad : Option Addr) (nd cd : Nat) (ds : List Int) (rn : Nat) (q : Int) (w : World)
    (hmv : MapR w (.map mr) V L) (ro : Rk .i32 w ao no os) (rh : Rk .i64 w (some ⟨bh, oh, none⟩) nh hs) (rg : Rk .i64 w ag ng gs) (rw' : Rk .i32 w aw nw ws) (rd : Rk .i32 w ad nd ds) (so : Small os) (sw : Small ws) (sd : Small ds)
    (csh : Hid (∀ j, j < nh → w.cell? ⟨bh, oh + j, none⟩ = some (.int .i64 (hs.getD j 0)))) (hbl : bh < w.heap.size) (ew : nw < 1) (ed : nd < 1)
    (b1 : no ≤ 32768) (b2 : nh ≤ 32768) (b3 : ng ≤ 32768) (b4 : L ≤ 16384) (b5 : nw ≤ 16384) (b6 : nd ≤ 16384) (hrn : rn < nh) :
    Calls Try.prog 4 #[.slice ao no co, .slice (some ⟨bh, oh, none⟩) nh ch, .slice ag ng cg, .map mr, .slice aw nw cw, .slice ad nd cd, .int .i64 rn, .int .i64 q] w fun e w' => e = .returned (.bool true) ∧ Below w.heap.size w w' := by
  obtain ⟨i0, hi, hz0, hz1, hz2⟩ := info_parts info3
  have hlen := fun ty => hmv.len w (Below.refl _ _) ty
  have hIn := inRange ao no co os (some ⟨bh, oh, none⟩) nh ch ag ng cg aw nw cw ws ad nd cd ds w ro rw' rd so sw sd b1 b3 b5 b6
  go_enter Try.func4, Try.ntmps4
  go_wp2_with fail
  clear hlen
  refine hIn.mono ?_
  rintro e w0 ⟨⟨rfl, hgh, io, iw, id⟩ | rfl, rfl⟩
  · subst hgh
    clear hIn
    have HLs : Hid (hs.length = ng) := rh.len
    go_wp2_with (at_make; refine wpList_make_full _ rfl (.tmp 58) (.tmp 58) 23 rfl w0.heap.size 3 i0 (.int .i64 0) 1 Try.underlying23 hi hz0 hz1 .i64 .i64 _ _ ng rfl rfl rfl rfl (by rw [hz2]; omega) (by unfold maxLen; omega) (Nat.le_refl _) ?_)
    intro w1 hown1 hgrow1
    have hb1 : Below w0.heap.size w0 w1 := (Below.refl _ w0).grown hgrow1 (Nat.le_refl _) (fun k hk => by cases hk)
    clear hgrow1
    go_wp2
    go_loopw [18] (fun i wr => ∃ k : Nat, k ≤ ng ∧ i = .int .i64 k ∧ (∃ L, wr.ownsRow w0.heap.size 3 1 (.slice (some ⟨w0.heap.size, 0, none⟩) ng ng) ng L ∧ Fil L hs k) ∧ Below w0.heap.size w0 wr) (fun i _ => ng - (intOf i).toNat)
    case atStart => exact ⟨0, by omega, rfl, ⟨_, hown1, fun j hj => absurd hj (by omega)⟩, hb1⟩
    case round =>
      clear hown1 hb1
      obtain ⟨k, hk, rfl, ⟨L1, hown, hf⟩, hb⟩ := hrel
      have HL : Hid (L1.length = ng) := by have := hown.1; show _ = _; omega
      by_cases h1 : k < ng
      · have gx := (hb.cell (p := ⟨bh, oh + k, none⟩) hbl).trans (csh.out k h1)
        obtain ⟨u, hu⟩ : ∃ u, wr.cell? ⟨w0.heap.size, k, none⟩ = some u := ⟨_, by rw [hown.cellAt k (by omega), List.getElem?_eq_getElem (by rw [HL.out]; exact h1)]⟩
        have gf := hown.frozenAt k
        go_wp2
        go_roundw
        case rel => exact ⟨k + 1, by omega, by go_num, ⟨_, (hown.stored k _).1, hf.step (by rw [HL.out]; exact h1)⟩, hb.setCell (Nat.le_refl _) _⟩
        case measure => simp [intOf]; omega
      · have hf2 : Fil L1 hs ng := by
          have e : k = ng := by omega
          rw [← e]; exact hf
        clear hf
        obtain ⟨y, hy⟩ : ∃ y, y = hs.getD rn 0 := ⟨_, rfl⟩
        have gy : wr.cell? ⟨w0.heap.size, rn, none⟩ = some (.int .i64 y) := by rw [hown.cellAt rn (by omega), hf2 rn hrn, hy]
        have gf := hown.frozenAt rn
        have hown2 := (hown.stored rn (.int .i64 (wrap64 (y + q)))).1
        have hb2 : Below w0.heap.size w0 (wr.setCell ⟨w0.heap.size, rn, none⟩ (.int .i64 (wrap64 (y + q)))) := hb.setCell (Nat.le_refl _) _
        have rr := Fil.rk hown2 (hf2.put (v := wrap64 (y + q)) HL.out HLs.out hrn) (by rw [List.length_set]; exact HLs.out)
        clear hown hown2 hf2
        have hB := zmost ao no co os (some ⟨bh, oh, none⟩) ng ch hs ag cg gs mr V L aw nw cw ws ad nd cd ds _ (hmv.kept hb2) (ro.kept hb2) (rh.kept hb2) (rg.kept hb2) (rw'.kept hb2) (rd.kept hb2) io iw id b1 b2 b5 b6
        obtain ⟨x1, hx1⟩ : ∃ x1, x1 = wrap64 (part1 hs gs ws + part2 hs os V ds) := ⟨_, rfl⟩
        rw [← hx1] at hB
        have HX1 : Hid (x1 = wrap64 (part1 hs gs ws + part2 hs os V ds)) := hx1
        have HY : Hid (y = hs.getD rn 0) := hy
        clear hx1 hy
        go_wp2_with fail
        refine hB.mono ?_
        rintro e w3 ⟨rfl, hb3⟩
        have hw3 : Below w0.heap.size w0 w3 := hb2.trans (hb3.mono hb2.size)
        have rr3 := rr.kept hb3
        have hA := zmost ao no co os (some ⟨w0.heap.size, 0, none⟩) ng ng (hs.set rn (wrap64 (y + q))) ag cg gs mr V L aw nw cw ws ad nd cd ds w3 (hmv.kept hw3) (ro.kept hw3) rr3 (rg.kept hw3) (rw'.kept hw3) (rd.kept hw3) io iw id b1 b2 b5 b6
        obtain ⟨x2, hx2⟩ : ∃ x2, x2 = wrap64 (part1 (hs.set rn (wrap64 (y + q))) gs ws + part2 (hs.set rn (wrap64 (y + q))) os V ds) := ⟨_, rfl⟩
        rw [← hx2] at hA
        have HFin : Hid (wrap64 (x2 - x1) = wrap64 (q * (cnt1 rn ws + cnt2 rn os ds))) := by
          have h := linear hs gs os ws ds V rn q (by rw [HLs.out]; exact hrn) (iw.nonneg rw'.len) (fun j hj => (io j (by rw [ro.len] at hj; exact hj)).1) (fun e he => by rw [ro.len]; exact id.below rd.len e he)
          show _ = _
          rw [hx2, HX1.out, HY.out]
          exact h
        have lw : Hid (ws.length = nw) := rw'.len
        have ld : Hid (ds.length = nd) := rd.len
        clear hx2 hB rr rr3 hb hb2 hb3 gy gf HX1 HY hmv rh rg ro rw' rd csh so sw sd
        go_wp2_with fail
        refine hA.mono ?_
        rintro e w4 ⟨rfl, hb4⟩
        have hw4 : Below w0.heap.size w0 w4 := hw3.trans (hb4.mono hw3.size)
        clear hA hb4 hw3
        go_wp2
        go_loop [21, 22] (fun t i => ∃ k : Nat, k ≤ nw ∧ i = .int .i64 k ∧ ∃ x : Int, t = .int .i64 x ∧ 0 ≤ x ∧ x ≤ k ∧ Hid (x = cnt1 rn (ws.take k))) (fun _ i => nw - (intOf i).toNat)
        case atStart => exact ⟨0, by omega, rfl, 0, rfl, by omega, by omega, (show _ = _ by simp [cnt1])⟩
        case round =>
          obtain ⟨k, hk, rfl, x, rfl, x0, x1', hx⟩ := hrel
          by_cases hlt : k < nw
          · exfalso; omega
          · have hX : Hid (x = cnt1 rn ws) := by
              have h := hx.out
              rw [List.take_of_length_le (by rw [lw.out]; omega)] at h
              exact h
            have hxn : x ≤ nw := by omega
            clear hx x1'
            go_wp2
            go_loop [21, 23] (fun t i => ∃ k : Nat, k ≤ nd ∧ i = .int .i64 k ∧ ∃ x' : Int, t = .int .i64 x' ∧ 0 ≤ x' ∧ x' ≤ nw + k ∧ Hid (x' = cnt1 rn ws + cnt2 rn os (ds.take k))) (fun _ i => nd - (intOf i).toNat)
            case atStart => exact ⟨0, by omega, rfl, x, rfl, x0, by omega, (show _ = _ by rw [hX.out]; simp [cnt2])⟩
            case round =>
              clear hX hxn x0
              obtain ⟨j, hj, rfl, t, rfl, t0, t1, ht⟩ := hrel
              by_cases hlt2 : j < nd
              · exfalso; omega
              · have hX : Hid (t = cnt1 rn ws + cnt2 rn os ds) := by
                  have h := ht.out
                  rw [List.take_of_length_le (l := ds) (by rw [ld.out]; omega)] at h
                  exact h
                have hfin : (wrap64 (x2 - x1) == wrap64 (q * t)) = true := by rw [HFin.out, hX.out]; simp
                clear ht HFin hX
                go_wp2
                go_ret
                exact ⟨rfl, hw4⟩
  · go_wp2
    go_ret
    exact ⟨rfl, Below.refl _ _⟩

set_option maxHeartbeats 2000000 in
set_option maxRecDepth 100000 in
theorem walk_en (bo oo no co : Nat) (os : List Int) (bh oh nh ch : Nat) (hs : List Int) (ag : Option Addr) (ng cg : Nat) (gs : List Int) (mr : Option Nat) (V : Int → Int) (L : Nat) (aw : Option Addr) (nw cw : Nat) (ws : List Int) (bd od nd cd : Nat) (ds : List Int) (rn : Nat) (q : Int) (w : World)
    (hmv : MapR w (.map mr) V L) (ro : Rk .i32 w (some ⟨bo, oo, none⟩) no os) (rh : Rk .i64 w (some ⟨bh, oh, none⟩) nh hs) (rg : Rk .i64 w ag ng gs) (rw' : Rk .i32 w aw nw ws) (rd : Rk .i32 w (some ⟨bd, od, none⟩) nd ds) (so : Small os) (sw : Small ws) (sd : Small ds)
    (csh : Hid (∀ j, j < nh → w.cell? ⟨bh, oh + j, none⟩ = some (.int .i64 (hs.getD j 0)))) (hbl : bh < w.heap.size) (ew : nw < 1) (csd : Hid (∀ j, j < nd → w.cell? ⟨bd, od + j, none⟩ = some (.int .i32 (ds.getD j 0)))) (cso : Hid (∀ j, j < no → w.cell? ⟨bo, oo + j, none⟩ = some (.int .i32 (os.getD j 0))))
    (b1 : no ≤ 32768) (b2 : nh ≤ 32768) (b3 : ng ≤ 32768) (b4 : L ≤ 16384) (b5 : nw ≤ 16384) (b6 : nd ≤ 16384) (hrn : rn < nh) :
    Calls Try.prog 4 #[.slice (some ⟨bo, oo, none⟩) no co, .slice (some ⟨bh, oh, none⟩) nh ch, .slice ag ng cg, .map mr, .slice aw nw cw, .slice (some ⟨bd, od, none⟩) nd cd, .int .i64 rn, .int .i64 q] w fun e w' => e = .returned (.bool true) ∧ Below w.heap.size w w' := by
  obtain ⟨i0, hi, hz0, hz1, hz2⟩ := info_parts info3
  have hlen := fun ty => hmv.len w (Below.refl _ _) ty
  have hIn := inRange (some ⟨bo, oo, none⟩) no co os (some ⟨bh, oh, none⟩) nh ch ag ng cg aw nw cw ws (some ⟨bd, od, none⟩) nd cd ds w ro rw' rd so sw sd b1 b3 b5 b6
  go_enter Try.func4, Try.ntmps4
  go_wp2_with fail
  clear hlen
  refine hIn.mono ?_
  rintro e w0 ⟨⟨rfl, hgh, io, iw, id⟩ | rfl, rfl⟩
  · subst hgh
    clear hIn
    have HLs : Hid (hs.length = ng) := rh.len
    go_wp2_with (at_make; refine wpList_make_full _ rfl (.tmp 58) (.tmp 58) 23 rfl w0.heap.size 3 i0 (.int .i64 0) 1 Try.underlying23 hi hz0 hz1 .i64 .i64 _ _ ng rfl rfl rfl rfl (by rw [hz2]; omega) (by unfold maxLen; omega) (Nat.le_refl _) ?_)
    intro w1 hown1 hgrow1
    have hb1 : Below w0.heap.size w0 w1 := (Below.refl _ w0).grown hgrow1 (Nat.le_refl _) (fun k hk => by cases hk)
    clear hgrow1
    go_wp2
    go_loopw [18] (fun i wr => ∃ k : Nat, k ≤ ng ∧ i = .int .i64 k ∧ (∃ L, wr.ownsRow w0.heap.size 3 1 (.slice (some ⟨w0.heap.size, 0, none⟩) ng ng) ng L ∧ Fil L hs k) ∧ Below w0.heap.size w0 wr) (fun i _ => ng - (intOf i).toNat)
    case atStart => exact ⟨0, by omega, rfl, ⟨_, hown1, fun j hj => absurd hj (by omega)⟩, hb1⟩
    case round =>
      clear hown1 hb1
      obtain ⟨k, hk, rfl, ⟨L1, hown, hf⟩, hb⟩ := hrel
      have HL : Hid (L1.length = ng) := by have := hown.1; show _ = _; omega
      by_cases h1 : k < ng
      · have gx := (hb.cell (p := ⟨bh, oh + k, none⟩) hbl).trans (csh.out k h1)
        obtain ⟨u, hu⟩ : ∃ u, wr.cell? ⟨w0.heap.size, k, none⟩ = some u := ⟨_, by rw [hown.cellAt k (by omega), List.getElem?_eq_getElem (by rw [HL.out]; exact h1)]⟩
        have gf := hown.frozenAt k
        go_wp2
        go_roundw
        case rel => exact ⟨k + 1, by omega, by go_num, ⟨_, (hown.stored k _).1, hf.step (by rw [HL.out]; exact h1)⟩, hb.setCell (Nat.le_refl _) _⟩
        case measure => simp [intOf]; omega
      · have hf2 : Fil L1 hs ng := by
          have e : k = ng := by omega
          rw [← e]; exact hf
        clear hf
        obtain ⟨y, hy⟩ : ∃ y, y = hs.getD rn 0 := ⟨_, rfl⟩
        have gy : wr.cell? ⟨w0.heap.size, rn, none⟩ = some (.int .i64 y) := by rw [hown.cellAt rn (by omega), hf2 rn hrn, hy]
        have gf := hown.frozenAt rn
        have hown2 := (hown.stored rn (.int .i64 (wrap64 (y + q)))).1
        have hb2 : Below w0.heap.size w0 (wr.setCell ⟨w0.heap.size, rn, none⟩ (.int .i64 (wrap64 (y + q)))) := hb.setCell (Nat.le_refl _) _
        have rr := Fil.rk hown2 (hf2.put (v := wrap64 (y + q)) HL.out HLs.out hrn) (by rw [List.length_set]; exact HLs.out)
        clear hown hown2 hf2
        have hB := zmost (some ⟨bo, oo, none⟩) no co os (some ⟨bh, oh, none⟩) ng ch hs ag cg gs mr V L aw nw cw ws (some ⟨bd, od, none⟩) nd cd ds _ (hmv.kept hb2) (ro.kept hb2) (rh.kept hb2) (rg.kept hb2) (rw'.kept hb2) (rd.kept hb2) io iw id b1 b2 b5 b6
        obtain ⟨x1, hx1⟩ : ∃ x1, x1 = wrap64 (part1 hs gs ws + part2 hs os V ds) := ⟨_, rfl⟩
        rw [← hx1] at hB
        have HX1 : Hid (x1 = wrap64 (part1 hs gs ws + part2 hs os V ds)) := hx1
        have HY : Hid (y = hs.getD rn 0) := hy
        clear hx1 hy
        go_wp2_with fail
        refine hB.mono ?_
        rintro e w3 ⟨rfl, hb3⟩
        have hw3 : Below w0.heap.size w0 w3 := hb2.trans (hb3.mono hb2.size)
        have rr3 := rr.kept hb3
        have hA := zmost (some ⟨bo, oo, none⟩) no co os (some ⟨w0.heap.size, 0, none⟩) ng ng (hs.set rn (wrap64 (y + q))) ag cg gs mr V L aw nw cw ws (some ⟨bd, od, none⟩) nd cd ds w3 (hmv.kept hw3) (ro.kept hw3) rr3 (rg.kept hw3) (rw'.kept hw3) (rd.kept hw3) io iw id b1 b2 b5 b6
        obtain ⟨x2, hx2⟩ : ∃ x2, x2 = wrap64 (part1 (hs.set rn (wrap64 (y + q))) gs ws + part2 (hs.set rn (wrap64 (y + q))) os V ds) := ⟨_, rfl⟩
        rw [← hx2] at hA
        have HFin : Hid (wrap64 (x2 - x1) = wrap64 (q * (cnt1 rn ws + cnt2 rn os ds))) := by
          have h := linear hs gs os ws ds V rn q (by rw [HLs.out]; exact hrn) (iw.nonneg rw'.len) (fun j hj => (io j (by rw [ro.len] at hj; exact hj)).1) (fun e he => by rw [ro.len]; exact id.below rd.len e he)
          show _ = _
          rw [hx2, HX1.out, HY.out]
          exact h
        have lw : Hid (ws.length = nw) := rw'.len
        have ld : Hid (ds.length = nd) := rd.len
        clear hx2 hB rr rr3 hb hb2 hb3 gy gf HX1 HY hmv rh rg ro rw' rd csh so sw sd
        go_wp2_with fail
        refine hA.mono ?_
        rintro e w4 ⟨rfl, hb4⟩
        have hw4 : Below w0.heap.size w0 w4 := hw3.trans (hb4.mono hw3.size)
        clear hA hb4 hw3
        go_wp2
        go_loop [21, 22] (fun t i => ∃ k : Nat, k ≤ nw ∧ i = .int .i64 k ∧ ∃ x : Int, t = .int .i64 x ∧ 0 ≤ x ∧ x ≤ k ∧ Hid (x = cnt1 rn (ws.take k))) (fun _ i => nw - (intOf i).toNat)
        case atStart => exact ⟨0, by omega, rfl, 0, rfl, by omega, by omega, (show _ = _ by simp [cnt1])⟩
        case round =>
          obtain ⟨k, hk, rfl, x, rfl, x0, x1', hx⟩ := hrel
          by_cases hlt : k < nw
          · exfalso; omega
          · have hX : Hid (x = cnt1 rn ws) := by
              have h := hx.out
              rw [List.take_of_length_le (by rw [lw.out]; omega)] at h
              exact h
            have hxn : x ≤ nw := by omega
            clear hx x1'
            go_wp2
            go_loop [21, 23] (fun t i => ∃ k : Nat, k ≤ nd ∧ i = .int .i64 k ∧ ∃ x' : Int, t = .int .i64 x' ∧ 0 ≤ x' ∧ x' ≤ nw + k ∧ Hid (x' = cnt1 rn ws + cnt2 rn os (ds.take k))) (fun _ i => nd - (intOf i).toNat)
            case atStart => exact ⟨0, by omega, rfl, x, rfl, x0, by omega, (show _ = _ by rw [hX.out]; simp [cnt2])⟩
            case round =>
              clear hX hxn x0
              obtain ⟨j, hj, rfl, t, rfl, t0, t1, ht⟩ := hrel
              by_cases hlt2 : j < nd
              · obtain ⟨m, hm⟩ : ∃ m : Nat, ds.getD j 0 = (m : Int) := ⟨_, (Int.toNat_of_nonneg (id j hlt2).1).symm⟩
                have hmo : m < no := by have := (id j hlt2).2; omega
                obtain ⟨p, hp⟩ : ∃ p : Nat, os.getD m 0 = (p : Int) := ⟨_, (Int.toNat_of_nonneg (io m hmo).1).symm⟩
                have hph : p < ng := by have := (io m hmo).2; omega
                have g1 := cell_kept hw4 (csd.out j hlt2)
                have g2 := cell_kept hw4 (cso.out m hmo)
                rw [hm] at g1
                rw [hp] at g2
                have HS := cnt2_step rn os ds j (by rw [ld.out]; exact hlt2)
                rw [hm, Int.toNat_natCast, hp] at HS
                by_cases e : p = rn
                · have HR : Hid (t + 1 = cnt1 rn ws + cnt2 rn os (ds.take (j + 1))) := by
                    show _ = _
                    rw [HS, if_pos (by rw [e]), ht.out, Int.add_assoc]
                  have eb : ((p : Int) == (rn : Int)) = true := by simp [e]
                  clear HS hm hp ht e
                  go_wp2
                  go_round
                  case rel => exact ⟨j + 1, by omega, by go_num, t + 1, rfl, by omega, by omega, HR⟩
                  case measure => simp [intOf]; omega
                · have HR : Hid (t = cnt1 rn ws + cnt2 rn os (ds.take (j + 1))) := by
                    show _ = _
                    rw [HS, if_neg (by omega), ht.out, Int.add_zero]
                  have eb : ((p : Int) == (rn : Int)) = false := by simp; omega
                  clear HS hm hp ht e
                  go_wp2
                  go_round
                  case rel => exact ⟨j + 1, by omega, by go_num, t, rfl, by omega, by omega, HR⟩
                  case measure => simp [intOf]; omega
              · have hX : Hid (t = cnt1 rn ws + cnt2 rn os ds) := by
                  have h := ht.out
                  rw [List.take_of_length_le (l := ds) (by rw [ld.out]; omega)] at h
                  exact h
                have hfin : (wrap64 (x2 - x1) == wrap64 (q * t)) = true := by rw [HFin.out, hX.out]; simp
                clear ht HFin hX
                go_wp2
                go_ret
                exact ⟨rfl, hw4⟩
  · go_wp2
    go_ret
    exact ⟨rfl, Below.refl _ _⟩

set_option maxHeartbeats 2000000 in
set_option maxRecDepth 100000 in
theorem walk_ne (ao : Option Addr) (no co : Nat) (os : List Int) (bh oh nh ch : Nat) (hs : List Int) (ag : Option Addr) (ng cg : Nat) (gs : List Int) (mr : Option Nat) (V : Int → Int) (L : Nat) (bw ow nw cw : Nat) (ws : List Int) (ad : Option Addr) (nd cd : Nat) (ds : List Int) (rn : Nat) (q : Int) (w : World)
    (hmv : MapR w (.map mr) V L) (ro : Rk .i32 w ao no os) (rh : Rk .i64 w (some ⟨bh, oh, none⟩) nh hs) (rg : Rk .i64 w ag ng gs) (rw' : Rk .i32 w (some ⟨bw, ow, none⟩) nw ws) (rd : Rk .i32 w ad nd ds) (so : Small os) (sw : Small ws) (sd : Small ds)
    (csh : Hid (∀ j, j < nh → w.cell? ⟨bh, oh + j, none⟩ = some (.int .i64 (hs.getD j 0)))) (hbl : bh < w.heap.size) (csw : Hid (∀ j, j < nw → w.cell? ⟨bw, ow + j, none⟩ = some (.int .i32 (ws.getD j 0)))) (ed : nd < 1)
    (b1 : no ≤ 32768) (b2 : nh ≤ 32768) (b3 : ng ≤ 32768) (b4 : L ≤ 16384) (b5 : nw ≤ 16384) (b6 : nd ≤ 16384) (hrn : rn < nh) :
    Calls Try.prog 4 #[.slice ao no co, .slice (some ⟨bh, oh, none⟩) nh ch, .slice ag ng cg, .map mr, .slice (some ⟨bw, ow, none⟩) nw cw, .slice ad nd cd, .int .i64 rn, .int .i64 q] w fun e w' => e = .returned (.bool true) ∧ Below w.heap.size w w' := by
  obtain ⟨i0, hi, hz0, hz1, hz2⟩ := info_parts info3
  have hlen := fun ty => hmv.len w (Below.refl _ _) ty
  have hIn := inRange ao no co os (some ⟨bh, oh, none⟩) nh ch ag ng cg (some ⟨bw, ow, none⟩) nw cw ws ad nd cd ds w ro rw' rd so sw sd b1 b3 b5 b6
  go_enter Try.func4, Try.ntmps4
  go_wp2_with fail
  clear hlen
  refine hIn.mono ?_
  rintro e w0 ⟨⟨rfl, hgh, io, iw, id⟩ | rfl, rfl⟩
  · subst hgh
    clear hIn
    have HLs : Hid (hs.length = ng) := rh.len
    go_wp2_with (at_make; refine wpList_make_full _ rfl (.tmp 58) (.tmp 58) 23 rfl w0.heap.size 3 i0 (.int .i64 0) 1 Try.underlying23 hi hz0 hz1 .i64 .i64 _ _ ng rfl rfl rfl rfl (by rw [hz2]; omega) (by unfold maxLen; omega) (Nat.le_refl _) ?_)
    intro w1 hown1 hgrow1
    have hb1 : Below w0.heap.size w0 w1 := (Below.refl _ w0).grown hgrow1 (Nat.le_refl _) (fun k hk => by cases hk)
    clear hgrow1
    go_wp2
    go_loopw [18] (fun i wr => ∃ k : Nat, k ≤ ng ∧ i = .int .i64 k ∧ (∃ L, wr.ownsRow w0.heap.size 3 1 (.slice (some ⟨w0.heap.size, 0, none⟩) ng ng) ng L ∧ Fil L hs k) ∧ Below w0.heap.size w0 wr) (fun i _ => ng - (intOf i).toNat)
    case atStart => exact ⟨0, by omega, rfl, ⟨_, hown1, fun j hj => absurd hj (by omega)⟩, hb1⟩
    case round =>
      clear hown1 hb1
      obtain ⟨k, hk, rfl, ⟨L1, hown, hf⟩, hb⟩ := hrel
      have HL : Hid (L1.length = ng) := by have := hown.1; show _ = _; omega
      by_cases h1 : k < ng
      · have gx := (hb.cell (p := ⟨bh, oh + k, none⟩) hbl).trans (csh.out k h1)
        obtain ⟨u, hu⟩ : ∃ u, wr.cell? ⟨w0.heap.size, k, none⟩ = some u := ⟨_, by rw [hown.cellAt k (by omega), List.getElem?_eq_getElem (by rw [HL.out]; exact h1)]⟩
        have gf := hown.frozenAt k
        go_wp2
        go_roundw
        case rel => exact ⟨k + 1, by omega, by go_num, ⟨_, (hown.stored k _).1, hf.step (by rw [HL.out]; exact h1)⟩, hb.setCell (Nat.le_refl _) _⟩
        case measure => simp [intOf]; omega
      · have hf2 : Fil L1 hs ng := by
          have e : k = ng := by omega
          rw [← e]; exact hf
        clear hf
        obtain ⟨y, hy⟩ : ∃ y, y = hs.getD rn 0 := ⟨_, rfl⟩
        have gy : wr.cell? ⟨w0.heap.size, rn, none⟩ = some (.int .i64 y) := by rw [hown.cellAt rn (by omega), hf2 rn hrn, hy]
        have gf := hown.frozenAt rn
        have hown2 := (hown.stored rn (.int .i64 (wrap64 (y + q)))).1
        have hb2 : Below w0.heap.size w0 (wr.setCell ⟨w0.heap.size, rn, none⟩ (.int .i64 (wrap64 (y + q)))) := hb.setCell (Nat.le_refl _) _
        have rr := Fil.rk hown2 (hf2.put (v := wrap64 (y + q)) HL.out HLs.out hrn) (by rw [List.length_set]; exact HLs.out)
        clear hown hown2 hf2
        have hB := zmost ao no co os (some ⟨bh, oh, none⟩) ng ch hs ag cg gs mr V L (some ⟨bw, ow, none⟩) nw cw ws ad nd cd ds _ (hmv.kept hb2) (ro.kept hb2) (rh.kept hb2) (rg.kept hb2) (rw'.kept hb2) (rd.kept hb2) io iw id b1 b2 b5 b6
        obtain ⟨x1, hx1⟩ : ∃ x1, x1 = wrap64 (part1 hs gs ws + part2 hs os V ds) := ⟨_, rfl⟩
        rw [← hx1] at hB
        have HX1 : Hid (x1 = wrap64 (part1 hs gs ws + part2 hs os V ds)) := hx1
        have HY : Hid (y = hs.getD rn 0) := hy
        clear hx1 hy
        go_wp2_with fail
        refine hB.mono ?_
        rintro e w3 ⟨rfl, hb3⟩
        have hw3 : Below w0.heap.size w0 w3 := hb2.trans (hb3.mono hb2.size)
        have rr3 := rr.kept hb3
        have hA := zmost ao no co os (some ⟨w0.heap.size, 0, none⟩) ng ng (hs.set rn (wrap64 (y + q))) ag cg gs mr V L (some ⟨bw, ow, none⟩) nw cw ws ad nd cd ds w3 (hmv.kept hw3) (ro.kept hw3) rr3 (rg.kept hw3) (rw'.kept hw3) (rd.kept hw3) io iw id b1 b2 b5 b6
        obtain ⟨x2, hx2⟩ : ∃ x2, x2 = wrap64 (part1 (hs.set rn (wrap64 (y + q))) gs ws + part2 (hs.set rn (wrap64 (y + q))) os V ds) := ⟨_, rfl⟩
        rw [← hx2] at hA
        have HFin : Hid (wrap64 (x2 - x1) = wrap64 (q * (cnt1 rn ws + cnt2 rn os ds))) := by
          have h := linear hs gs os ws ds V rn q (by rw [HLs.out]; exact hrn) (iw.nonneg rw'.len) (fun j hj => (io j (by rw [ro.len] at hj; exact hj)).1) (fun e he => by rw [ro.len]; exact id.below rd.len e he)
          show _ = _
          rw [hx2, HX1.out, HY.out]
          exact h
        have lw : Hid (ws.length = nw) := rw'.len
        have ld : Hid (ds.length = nd) := rd.len
        clear hx2 hB rr rr3 hb hb2 hb3 gy gf HX1 HY hmv rh rg ro rw' rd csh so sw sd
        go_wp2_with fail
        refine hA.mono ?_
        rintro e w4 ⟨rfl, hb4⟩
        have hw4 : Below w0.heap.size w0 w4 := hw3.trans (hb4.mono hw3.size)
        clear hA hb4 hw3
        go_wp2
        go_loop [21, 22] (fun t i => ∃ k : Nat, k ≤ nw ∧ i = .int .i64 k ∧ ∃ x : Int, t = .int .i64 x ∧ 0 ≤ x ∧ x ≤ k ∧ Hid (x = cnt1 rn (ws.take k))) (fun _ i => nw - (intOf i).toNat)
        case atStart => exact ⟨0, by omega, rfl, 0, rfl, by omega, by omega, (show _ = _ by simp [cnt1])⟩
        case round =>
          obtain ⟨k, hk, rfl, x, rfl, x0, x1', hx⟩ := hrel
          by_cases hlt : k < nw
          · obtain ⟨r, hr⟩ : ∃ r : Nat, ws.getD k 0 = (r : Int) := ⟨_, (Int.toNat_of_nonneg (iw k hlt).1).symm⟩
            have hrh : r < ng := by have := (iw k hlt).2; omega
            have g1 := cell_kept hw4 (csw.out k hlt)
            rw [hr] at g1
            have HS := cnt1_step rn ws k (by rw [lw.out]; exact hlt)
            by_cases e : r = rn
            · have HR : Hid (x + 1 = cnt1 rn (ws.take (k + 1))) := by
                show _ = _
                rw [HS, hr, if_pos (by rw [e]), ← hx.out]
              have eb : ((r : Int) == (rn : Int)) = true := by simp [e]
              clear HS hr hx e
              go_wp2
              go_round
              case rel => exact ⟨k + 1, by omega, by go_num, x + 1, rfl, by omega, by omega, HR⟩
              case measure => simp [intOf]; omega
            · have HR : Hid (x = cnt1 rn (ws.take (k + 1))) := by
                show _ = _
                rw [HS, hr, if_neg (by omega), ← hx.out, Int.add_zero]
              have eb : ((r : Int) == (rn : Int)) = false := by simp; omega
              clear HS hr hx e
              go_wp2
              go_round
              case rel => exact ⟨k + 1, by omega, by go_num, x, rfl, by omega, by omega, HR⟩
              case measure => simp [intOf]; omega
          · have hX : Hid (x = cnt1 rn ws) := by
              have h := hx.out
              rw [List.take_of_length_le (by rw [lw.out]; omega)] at h
              exact h
            have hxn : x ≤ nw := by omega
            clear hx x1'
            go_wp2
            go_loop [21, 23] (fun t i => ∃ k : Nat, k ≤ nd ∧ i = .int .i64 k ∧ ∃ x' : Int, t = .int .i64 x' ∧ 0 ≤ x' ∧ x' ≤ nw + k ∧ Hid (x' = cnt1 rn ws + cnt2 rn os (ds.take k))) (fun _ i => nd - (intOf i).toNat)
            case atStart => exact ⟨0, by omega, rfl, x, rfl, x0, by omega, (show _ = _ by rw [hX.out]; simp [cnt2])⟩
            case round =>
              clear hX hxn x0
              obtain ⟨j, hj, rfl, t, rfl, t0, t1, ht⟩ := hrel
              by_cases hlt2 : j < nd
              · exfalso; omega
              · have hX : Hid (t = cnt1 rn ws + cnt2 rn os ds) := by
                  have h := ht.out
                  rw [List.take_of_length_le (l := ds) (by rw [ld.out]; omega)] at h
                  exact h
                have hfin : (wrap64 (x2 - x1) == wrap64 (q * t)) = true := by rw [HFin.out, hX.out]; simp
                clear ht HFin hX
                go_wp2
                go_ret
                exact ⟨rfl, hw4⟩
  · go_wp2
    go_ret
    exact ⟨rfl, Below.refl _ _⟩

set_option maxHeartbeats 2000000 in
set_option maxRecDepth 100000 in
theorem walk_nn (bo oo no co : Nat) (os : List Int) (bh oh nh ch : Nat) (hs : List Int) (ag : Option Addr) (ng cg : Nat) (gs : List Int) (mr : Option Nat) (V : Int → Int) (L : Nat) (bw ow nw cw : Nat) (ws : List Int) (bd od nd cd : Nat) (ds : List Int) (rn : Nat) (q : Int) (w : World)
    (hmv : MapR w (.map mr) V L) (ro : Rk .i32 w (some ⟨bo, oo, none⟩) no os) (rh : Rk .i64 w (some ⟨bh, oh, none⟩) nh hs) (rg : Rk .i64 w ag ng gs) (rw' : Rk .i32 w (some ⟨bw, ow, none⟩) nw ws) (rd : Rk .i32 w (some ⟨bd, od, none⟩) nd ds) (so : Small os) (sw : Small ws) (sd : Small ds)
    (csh : Hid (∀ j, j < nh → w.cell? ⟨bh, oh + j, none⟩ = some (.int .i64 (hs.getD j 0)))) (hbl : bh < w.heap.size) (csw : Hid (∀ j, j < nw → w.cell? ⟨bw, ow + j, none⟩ = some (.int .i32 (ws.getD j 0)))) (csd : Hid (∀ j, j < nd → w.cell? ⟨bd, od + j, none⟩ = some (.int .i32 (ds.getD j 0)))) (cso : Hid (∀ j, j < no → w.cell? ⟨bo, oo + j, none⟩ = some (.int .i32 (os.getD j 0))))
    (b1 : no ≤ 32768) (b2 : nh ≤ 32768) (b3 : ng ≤ 32768) (b4 : L ≤ 16384) (b5 : nw ≤ 16384) (b6 : nd ≤ 16384) (hrn : rn < nh) :
    Calls Try.prog 4 #[.slice (some ⟨bo, oo, none⟩) no co, .slice (some ⟨bh, oh, none⟩) nh ch, .slice ag ng cg, .map mr, .slice (some ⟨bw, ow, none⟩) nw cw, .slice (some ⟨bd, od, none⟩) nd cd, .int .i64 rn, .int .i64 q] w fun e w' => e = .returned (.bool true) ∧ Below w.heap.size w w' := by
  obtain ⟨i0, hi, hz0, hz1, hz2⟩ := info_parts info3
  have hlen := fun ty => hmv.len w (Below.refl _ _) ty
  have hIn := inRange (some ⟨bo, oo, none⟩) no co os (some ⟨bh, oh, none⟩) nh ch ag ng cg (some ⟨bw, ow, none⟩) nw cw ws (some ⟨bd, od, none⟩) nd cd ds w ro rw' rd so sw sd b1 b3 b5 b6
  go_enter Try.func4, Try.ntmps4
  go_wp2_with fail
  clear hlen
  refine hIn.mono ?_
  rintro e w0 ⟨⟨rfl, hgh, io, iw, id⟩ | rfl, rfl⟩
  · subst hgh
    clear hIn
    have HLs : Hid (hs.length = ng) := rh.len
    go_wp2_with (at_make; refine wpList_make_full _ rfl (.tmp 58) (.tmp 58) 23 rfl w0.heap.size 3 i0 (.int .i64 0) 1 Try.underlying23 hi hz0 hz1 .i64 .i64 _ _ ng rfl rfl rfl rfl (by rw [hz2]; omega) (by unfold maxLen; omega) (Nat.le_refl _) ?_)
    intro w1 hown1 hgrow1
    have hb1 : Below w0.heap.size w0 w1 := (Below.refl _ w0).grown hgrow1 (Nat.le_refl _) (fun k hk => by cases hk)
    clear hgrow1
    go_wp2
    go_loopw [18] (fun i wr => ∃ k : Nat, k ≤ ng ∧ i = .int .i64 k ∧ (∃ L, wr.ownsRow w0.heap.size 3 1 (.slice (some ⟨w0.heap.size, 0, none⟩) ng ng) ng L ∧ Fil L hs k) ∧ Below w0.heap.size w0 wr) (fun i _ => ng - (intOf i).toNat)
    case atStart => exact ⟨0, by omega, rfl, ⟨_, hown1, fun j hj => absurd hj (by omega)⟩, hb1⟩
    case round =>
      clear hown1 hb1
      obtain ⟨k, hk, rfl, ⟨L1, hown, hf⟩, hb⟩ := hrel
      have HL : Hid (L1.length = ng) := by have := hown.1; show _ = _; omega
      by_cases h1 : k < ng
      · have gx := (hb.cell (p := ⟨bh, oh + k, none⟩) hbl).trans (csh.out k h1)
        obtain ⟨u, hu⟩ : ∃ u, wr.cell? ⟨w0.heap.size, k, none⟩ = some u := ⟨_, by rw [hown.cellAt k (by omega), List.getElem?_eq_getElem (by rw [HL.out]; exact h1)]⟩
        have gf := hown.frozenAt k
        go_wp2
        go_roundw
        case rel => exact ⟨k + 1, by omega, by go_num, ⟨_, (hown.stored k _).1, hf.step (by rw [HL.out]; exact h1)⟩, hb.setCell (Nat.le_refl _) _⟩
        case measure => simp [intOf]; omega
      · have hf2 : Fil L1 hs ng := by
          have e : k = ng := by omega
          rw [← e]; exact hf
        clear hf
        obtain ⟨y, hy⟩ : ∃ y, y = hs.getD rn 0 := ⟨_, rfl⟩
        have gy : wr.cell? ⟨w0.heap.size, rn, none⟩ = some (.int .i64 y) := by rw [hown.cellAt rn (by omega), hf2 rn hrn, hy]
        have gf := hown.frozenAt rn
        have hown2 := (hown.stored rn (.int .i64 (wrap64 (y + q)))).1
        have hb2 : Below w0.heap.size w0 (wr.setCell ⟨w0.heap.size, rn, none⟩ (.int .i64 (wrap64 (y + q)))) := hb.setCell (Nat.le_refl _) _
        have rr := Fil.rk hown2 (hf2.put (v := wrap64 (y + q)) HL.out HLs.out hrn) (by rw [List.length_set]; exact HLs.out)
        clear hown hown2 hf2
        have hB := zmost (some ⟨bo, oo, none⟩) no co os (some ⟨bh, oh, none⟩) ng ch hs ag cg gs mr V L (some ⟨bw, ow, none⟩) nw cw ws (some ⟨bd, od, none⟩) nd cd ds _ (hmv.kept hb2) (ro.kept hb2) (rh.kept hb2) (rg.kept hb2) (rw'.kept hb2) (rd.kept hb2) io iw id b1 b2 b5 b6
        obtain ⟨x1, hx1⟩ : ∃ x1, x1 = wrap64 (part1 hs gs ws + part2 hs os V ds) := ⟨_, rfl⟩
        rw [← hx1] at hB
        have HX1 : Hid (x1 = wrap64 (part1 hs gs ws + part2 hs os V ds)) := hx1
        have HY : Hid (y = hs.getD rn 0) := hy
        clear hx1 hy
        go_wp2_with fail
        refine hB.mono ?_
        rintro e w3 ⟨rfl, hb3⟩
        have hw3 : Below w0.heap.size w0 w3 := hb2.trans (hb3.mono hb2.size)
        have rr3 := rr.kept hb3
        have hA := zmost (some ⟨bo, oo, none⟩) no co os (some ⟨w0.heap.size, 0, none⟩) ng ng (hs.set rn (wrap64 (y + q))) ag cg gs mr V L (some ⟨bw, ow, none⟩) nw cw ws (some ⟨bd, od, none⟩) nd cd ds w3 (hmv.kept hw3) (ro.kept hw3) rr3 (rg.kept hw3) (rw'.kept hw3) (rd.kept hw3) io iw id b1 b2 b5 b6
        obtain ⟨x2, hx2⟩ : ∃ x2, x2 = wrap64 (part1 (hs.set rn (wrap64 (y + q))) gs ws + part2 (hs.set rn (wrap64 (y + q))) os V ds) := ⟨_, rfl⟩
        rw [← hx2] at hA
        have HFin : Hid (wrap64 (x2 - x1) = wrap64 (q * (cnt1 rn ws + cnt2 rn os ds))) := by
          have h := linear hs gs os ws ds V rn q (by rw [HLs.out]; exact hrn) (iw.nonneg rw'.len) (fun j hj => (io j (by rw [ro.len] at hj; exact hj)).1) (fun e he => by rw [ro.len]; exact id.below rd.len e he)
          show _ = _
          rw [hx2, HX1.out, HY.out]
          exact h
        have lw : Hid (ws.length = nw) := rw'.len
        have ld : Hid (ds.length = nd) := rd.len
        clear hx2 hB rr rr3 hb hb2 hb3 gy gf HX1 HY hmv rh rg ro rw' rd csh so sw sd
        go_wp2_with fail
        refine hA.mono ?_
        rintro e w4 ⟨rfl, hb4⟩
        have hw4 : Below w0.heap.size w0 w4 := hw3.trans (hb4.mono hw3.size)
        clear hA hb4 hw3
        go_wp2
        go_loop [21, 22] (fun t i => ∃ k : Nat, k ≤ nw ∧ i = .int .i64 k ∧ ∃ x : Int, t = .int .i64 x ∧ 0 ≤ x ∧ x ≤ k ∧ Hid (x = cnt1 rn (ws.take k))) (fun _ i => nw - (intOf i).toNat)
        case atStart => exact ⟨0, by omega, rfl, 0, rfl, by omega, by omega, (show _ = _ by simp [cnt1])⟩
        case round =>
          obtain ⟨k, hk, rfl, x, rfl, x0, x1', hx⟩ := hrel
          by_cases hlt : k < nw
          · obtain ⟨r, hr⟩ : ∃ r : Nat, ws.getD k 0 = (r : Int) := ⟨_, (Int.toNat_of_nonneg (iw k hlt).1).symm⟩
            have hrh : r < ng := by have := (iw k hlt).2; omega
            have g1 := cell_kept hw4 (csw.out k hlt)
            rw [hr] at g1
            have HS := cnt1_step rn ws k (by rw [lw.out]; exact hlt)
            by_cases e : r = rn
            · have HR : Hid (x + 1 = cnt1 rn (ws.take (k + 1))) := by
                show _ = _
                rw [HS, hr, if_pos (by rw [e]), ← hx.out]
              have eb : ((r : Int) == (rn : Int)) = true := by simp [e]
              clear HS hr hx e
              go_wp2
              go_round
              case rel => exact ⟨k + 1, by omega, by go_num, x + 1, rfl, by omega, by omega, HR⟩
              case measure => simp [intOf]; omega
            · have HR : Hid (x = cnt1 rn (ws.take (k + 1))) := by
                show _ = _
                rw [HS, hr, if_neg (by omega), ← hx.out, Int.add_zero]
              have eb : ((r : Int) == (rn : Int)) = false := by simp; omega
              clear HS hr hx e
              go_wp2
              go_round
              case rel => exact ⟨k + 1, by omega, by go_num, x, rfl, by omega, by omega, HR⟩
              case measure => simp [intOf]; omega
          · have hX : Hid (x = cnt1 rn ws) := by
              have h := hx.out
              rw [List.take_of_length_le (by rw [lw.out]; omega)] at h
              exact h
            have hxn : x ≤ nw := by omega
            clear hx x1'
            go_wp2
            go_loop [21, 23] (fun t i => ∃ k : Nat, k ≤ nd ∧ i = .int .i64 k ∧ ∃ x' : Int, t = .int .i64 x' ∧ 0 ≤ x' ∧ x' ≤ nw + k ∧ Hid (x' = cnt1 rn ws + cnt2 rn os (ds.take k))) (fun _ i => nd - (intOf i).toNat)
            case atStart => exact ⟨0, by omega, rfl, x, rfl, x0, by omega, (show _ = _ by rw [hX.out]; simp [cnt2])⟩
            case round =>
              clear hX hxn x0
              obtain ⟨j, hj, rfl, t, rfl, t0, t1, ht⟩ := hrel
              by_cases hlt2 : j < nd
              · obtain ⟨m, hm⟩ : ∃ m : Nat, ds.getD j 0 = (m : Int) := ⟨_, (Int.toNat_of_nonneg (id j hlt2).1).symm⟩
                have hmo : m < no := by have := (id j hlt2).2; omega
                obtain ⟨p, hp⟩ : ∃ p : Nat, os.getD m 0 = (p : Int) := ⟨_, (Int.toNat_of_nonneg (io m hmo).1).symm⟩
                have hph : p < ng := by have := (io m hmo).2; omega
                have g1 := cell_kept hw4 (csd.out j hlt2)
                have g2 := cell_kept hw4 (cso.out m hmo)
                rw [hm] at g1
                rw [hp] at g2
                have HS := cnt2_step rn os ds j (by rw [ld.out]; exact hlt2)
                rw [hm, Int.toNat_natCast, hp] at HS
                by_cases e : p = rn
                · have HR : Hid (t + 1 = cnt1 rn ws + cnt2 rn os (ds.take (j + 1))) := by
                    show _ = _
                    rw [HS, if_pos (by rw [e]), ht.out, Int.add_assoc]
                  have eb : ((p : Int) == (rn : Int)) = true := by simp [e]
                  clear HS hm hp ht e
                  go_wp2
                  go_round
                  case rel => exact ⟨j + 1, by omega, by go_num, t + 1, rfl, by omega, by omega, HR⟩
                  case measure => simp [intOf]; omega
                · have HR : Hid (t = cnt1 rn ws + cnt2 rn os (ds.take (j + 1))) := by
                    show _ = _
                    rw [HS, if_neg (by omega), ht.out, Int.add_zero]
                  have eb : ((p : Int) == (rn : Int)) = false := by simp; omega
                  clear HS hm hp ht e
                  go_wp2
                  go_round
                  case rel => exact ⟨j + 1, by omega, by go_num, t, rfl, by omega, by omega, HR⟩
                  case measure => simp [intOf]; omega
              · have hX : Hid (t = cnt1 rn ws + cnt2 rn os ds) := by
                  have h := ht.out
                  rw [List.take_of_length_le (l := ds) (by rw [ld.out]; omega)] at h
                  exact h
                have hfin : (wrap64 (x2 - x1) == wrap64 (q * t)) = true := by rw [HFin.out, hX.out]; simp
                clear ht HFin hX
                go_wp2
                go_ret
                exact ⟨rfl, hw4⟩
  · go_wp2
    go_ret
    exact ⟨rfl, Below.refl _ _⟩

set_option maxHeartbeats 1000000 in
set_option maxRecDepth 100000 in
/-- Where elements are added and there is none to add, mostInRange says no. -/
theorem walk_none (ao : Option Addr) (no co : Nat) (os : List Int) (bh oh nh ch : Nat) (ag : Option Addr) (ng cg : Nat) (mr : Option Nat) (V : Int → Int) (L : Nat) (aw : Option Addr) (nw cw : Nat) (ws : List Int) (bd od nd cd : Nat) (ds : List Int) (rn : Nat) (q : Int) (w : World)
    (hmv : MapR w (.map mr) V L) (ro : Rk .i32 w ao no os) (rw' : Rk .i32 w aw nw ws) (rd : Rk .i32 w (some ⟨bd, od, none⟩) nd ds) (so : Small os) (sw : Small ws) (sd : Small ds) (eo : no < 1)
    (b1 : no ≤ 32768) (b2 : nh ≤ 32768) (b3 : ng ≤ 32768) (b4 : L ≤ 16384) (b5 : nw ≤ 16384) (b6 : nd ≤ 16384) (hrn : rn < nh) (hnd : 0 < nd) :
    Calls Try.prog 4 #[.slice ao no co, .slice (some ⟨bh, oh, none⟩) nh ch, .slice ag ng cg, .map mr, .slice aw nw cw, .slice (some ⟨bd, od, none⟩) nd cd, .int .i64 rn, .int .i64 q] w fun e w' => e = .returned (.bool true) ∧ Below w.heap.size w w' := by
  have hlen := fun ty => hmv.len w (Below.refl _ _) ty
  have hIn := inRange ao no co os (some ⟨bh, oh, none⟩) nh ch ag ng cg aw nw cw ws (some ⟨bd, od, none⟩) nd cd ds w ro rw' rd so sw sd b1 b3 b5 b6
  go_enter Try.func4, Try.ntmps4
  go_wp2_with fail
  clear hlen
  refine hIn.mono ?_
  rintro e w0 ⟨⟨rfl, hgh, io, iw, id⟩ | rfl, rfl⟩
  · exfalso
    have := id 0 hnd
    omega
  · go_wp2
    go_ret
    exact ⟨rfl, Below.refl _ _⟩


theorem walk_in (ao : Option Addr) (no co : Nat) (os : List Int) (ah : Option Addr) (nh ch : Nat) (hs : List Int) (ag : Option Addr) (ng cg : Nat) (gs : List Int) (mr : Option Nat) (V : Int → Int) (L : Nat) (aw : Option Addr) (nw cw : Nat) (ws : List Int) (ad : Option Addr) (nd cd : Nat) (ds : List Int) (rn : Nat) (q : Int) (w : World)
    (hmv : MapR w (.map mr) V L) (ro : Rk .i32 w ao no os) (rh : Rk .i64 w ah nh hs) (rg : Rk .i64 w ag ng gs) (rw' : Rk .i32 w aw nw ws) (rd : Rk .i32 w ad nd ds) (so : Small os) (sw : Small ws) (sd : Small ds)
    (b1 : no ≤ 32768) (b2 : nh ≤ 32768) (b3 : ng ≤ 32768) (b4 : L ≤ 16384) (b5 : nw ≤ 16384) (b6 : nd ≤ 16384) (hrn : rn < nh) :
    Calls Try.prog 4 #[.slice ao no co, .slice ah nh ch, .slice ag ng cg, .map mr, .slice aw nw cw, .slice ad nd cd, .int .i64 rn, .int .i64 q] w fun e w' => e = .returned (.bool true) ∧ Below w.heap.size w w' := by
  obtain ⟨bh, oh, rfl, hbl, csh⟩ := rh.cells (by omega)
  rcases rw'.cases with ew | ⟨bw, ow, rfl, _, csw⟩
  · rcases rd.cases2 with ed | ⟨hnd, bd, od, rfl, _, csd⟩
    · exact walk_ee ao no co os bh oh nh ch hs ag ng cg gs mr V L aw nw cw ws ad nd cd ds rn q w hmv ro rh rg rw' rd so sw sd csh hbl ew ed b1 b2 b3 b4 b5 b6 hrn
    · rcases ro.cases with eo | ⟨bo, oo, rfl, _, cso⟩
      · exact walk_none ao no co os bh oh nh ch ag ng cg mr V L aw nw cw ws bd od nd cd ds rn q w hmv ro rw' rd so sw sd eo b1 b2 b3 b4 b5 b6 hrn hnd
      · exact walk_en bo oo no co os bh oh nh ch hs ag ng cg gs mr V L aw nw cw ws bd od nd cd ds rn q w hmv ro rh rg rw' rd so sw sd csh hbl ew csd cso b1 b2 b3 b4 b5 b6 hrn
  · rcases rd.cases2 with ed | ⟨hnd, bd, od, rfl, _, csd⟩
    · exact walk_ne ao no co os bh oh nh ch hs ag ng cg gs mr V L bw ow nw cw ws ad nd cd ds rn q w hmv ro rh rg rw' rd so sw sd csh hbl csw ed b1 b2 b3 b4 b5 b6 hrn
    · rcases ro.cases with eo | ⟨bo, oo, rfl, _, cso⟩
      · exact walk_none ao no co os bh oh nh ch ag ng cg mr V L (some ⟨bw, ow, none⟩) nw cw ws bd od nd cd ds rn q w hmv ro rw' rd so sw sd eo b1 b2 b3 b4 b5 b6 hrn hnd
      · exact walk_nn bo oo no co os bh oh nh ch hs ag ng cg gs mr V L bw ow nw cw ws bd od nd cd ds rn q w hmv ro rh rg rw' rd so sw sd csh hbl csw csd cso b1 b2 b3 b4 b5 b6 hrn

set_option maxHeartbeats 1000000 in
set_option maxRecDepth 100000 in
/-- The region lies outside: true, whatever mostInRange says. -/
theorem walk_region (ao : Option Addr) (no co : Nat) (os : List Int) (ah : Option Addr) (nh ch : Nat) (ag : Option Addr) (ng cg : Nat) (mr : Option Nat) (V : Int → Int) (L : Nat) (aw : Option Addr) (nw cw : Nat) (ws : List Int) (ad : Option Addr) (nd cd : Nat) (ds : List Int) (g : Int) (q : Int) (w : World)
    (hmv : MapR w (.map mr) V L) (ro : Rk .i32 w ao no os) (rw' : Rk .i32 w aw nw ws) (rd : Rk .i32 w ad nd ds) (so : Small os) (sw : Small ws) (sd : Small ds)
    (b1 : no ≤ 32768) (b2 : nh ≤ 32768) (b3 : ng ≤ 32768) (b4 : L ≤ 16384) (b5 : nw ≤ 16384) (b6 : nd ≤ 16384) (hg : g < 0 ∨ (nh : Int) ≤ g) :
    Calls Try.prog 4 #[.slice ao no co, .slice ah nh ch, .slice ag ng cg, .map mr, .slice aw nw cw, .slice ad nd cd, .int .i64 g, .int .i64 q] w fun e w' => e = .returned (.bool true) ∧ Below w.heap.size w w' := by
  have hlen := fun ty => hmv.len w (Below.refl _ _) ty
  have hIn := inRange ao no co os ah nh ch ag ng cg aw nw cw ws ad nd cd ds w ro rw' rd so sw sd b1 b3 b5 b6
  rcases hg with hg | hg
  all_goals
    go_enter Try.func4, Try.ntmps4
    go_wp2_with fail
    refine hIn.mono ?_
    rintro e w0 ⟨⟨rfl, _⟩ | rfl, rfl⟩
    all_goals
      clear hIn hlen hmv ro rw' rd so sw sd
      go_wp2
      go_ret
      exact ⟨rfl, Below.refl _ _⟩

set_option maxHeartbeats 1000000 in
set_option maxRecDepth 100000 in
theorem walk_long (ao : Option Addr) (no co : Nat) (ah : Option Addr) (nh ch : Nat) (ag : Option Addr) (ng cg : Nat) (mr : Option Nat) (V : Int → Int) (L : Nat) (aw : Option Addr) (nw cw : Nat) (ad : Option Addr) (nd cd : Nat) (g : Int) (q : Int) (w : World)
    (hmv : MapR w (.map mr) V L) (h : ¬ (no ≤ 32768 ∧ nh ≤ 32768 ∧ ng ≤ 32768 ∧ L ≤ 16384 ∧ nw ≤ 16384 ∧ nd ≤ 16384)) :
    Calls Try.prog 4 #[.slice ao no co, .slice ah nh ch, .slice ag ng cg, .map mr, .slice aw nw cw, .slice ad nd cd, .int .i64 g, .int .i64 q] w fun e w' => e = .returned (.bool true) ∧ Below w.heap.size w w' := by
  have hlen := fun ty => hmv.len w (Below.refl _ _) ty
  clear hmv
  by_cases g1 : 32768 < no
  · clear h
    go_enter Try.func4, Try.ntmps4
    go_wp2
    go_ret
    exact ⟨rfl, Below.refl _ _⟩
  by_cases g2 : 32768 < nh
  · clear h
    go_enter Try.func4, Try.ntmps4
    go_wp2
    go_ret
    exact ⟨rfl, Below.refl _ _⟩
  by_cases g3 : 32768 < ng
  · clear h
    go_enter Try.func4, Try.ntmps4
    go_wp2
    go_ret
    exact ⟨rfl, Below.refl _ _⟩
  by_cases g4 : 16384 < L
  · clear h
    go_enter Try.func4, Try.ntmps4
    go_wp2
    go_ret
    exact ⟨rfl, Below.refl _ _⟩
  by_cases g5 : 16384 < nw
  · clear h
    go_enter Try.func4, Try.ntmps4
    go_wp2
    go_ret
    exact ⟨rfl, Below.refl _ _⟩
  · have g6 : 16384 < nd := by omega
    clear h
    go_enter Try.func4, Try.ntmps4
    go_wp2
    go_ret
    exact ⟨rfl, Below.refl _ _⟩

theorem walk (ao : Option Addr) (no co : Nat) (os : List Int) (ah : Option Addr) (nh ch : Nat) (hs : List Int) (ag : Option Addr) (ng cg : Nat) (gs : List Int) (mr : Option Nat) (V : Int → Int) (L : Nat) (aw : Option Addr) (nw cw : Nat) (ws : List Int) (ad : Option Addr) (nd cd : Nat) (ds : List Int) (g : Int) (q : Int) (w : World)
    (hmv : MapR w (.map mr) V L) (ro : Rk .i32 w ao no os) (rh : Rk .i64 w ah nh hs) (rg : Rk .i64 w ag ng gs) (rw' : Rk .i32 w aw nw ws) (rd : Rk .i32 w ad nd ds) (so : Small os) (sw : Small ws) (sd : Small ds) :
    Calls Try.prog 4 #[.slice ao no co, .slice ah nh ch, .slice ag ng cg, .map mr, .slice aw nw cw, .slice ad nd cd, .int .i64 g, .int .i64 q] w fun e w' => e = .returned (.bool true) ∧ Below w.heap.size w w' := by
  by_cases h : no ≤ 32768 ∧ nh ≤ 32768 ∧ ng ≤ 32768 ∧ L ≤ 16384 ∧ nw ≤ 16384 ∧ nd ≤ 16384
  · obtain ⟨b1, b2, b3, b4, b5, b6⟩ := h
    by_cases hg : g < 0 ∨ (nh : Int) ≤ g
    · exact walk_region ao no co os ah nh ch ag ng cg mr V L aw nw cw ws ad nd cd ds g q w hmv ro rw' rd so sw sd b1 b2 b3 b4 b5 b6 hg
    · obtain ⟨rn, rfl⟩ := Int.eq_ofNat_of_zero_le (show 0 ≤ g by omega)
      exact walk_in ao no co os ah nh ch hs ag ng cg gs mr V L aw nw cw ws ad nd cd ds rn q w hmv ro rh rg rw' rd so sw sd b1 b2 b3 b4 b5 b6 (by omega)
  · exact walk_long ao no co ah nh ch ag ng cg mr V L aw nw cw ad nd cd g q w hmv h

#print axioms walk
end fnMostLinearInHolding
end Go.Proofs.Qxb6605708a
