/-
  FnIdSetRemoveScript (4).
-/
import Derived.Test.Qxb6605954aModel
namespace Go.Proofs.Qxb6605954a
open Go.RowKit
set_option linter.unusedVariables false

/-- Behind some of the script's steps: set and model hold the ids of L. -/
structure Stp (w0 : World) (ps g n m mb : Nat) (w : World) (L : List (List Value)) : Prop where
  st : St w ps g n m L
  md : MdR w mb n L
  bel : Below w0.heap.size w0 w

/-- The four blocks of the law's own lie apart, and behind what was there. -/
structure Apart (B ps g m mb : Nat) : Prop where
  lp : B ≤ ps
  lg : B ≤ g
  lm : B ≤ m
  lb : B ≤ mb
  n1 : mb ≠ ps
  n2 : mb ≠ g
  n3 : mb ≠ m

theorem Apart.ne {B ps g m mb : Nat} (h : Apart B ps g m mb) : ¬ (mb = ps ∨ mb = g ∨ mb = m) := by
  have h1 := h.n1
  have h2 := h.n2
  have h3 := h.n3
  omega
theorem Apart.le {B ps g m mb : Nat} (h : Apart B ps g m mb) (k : Nat) (hk : k = ps ∨ k = g ∨ k = m) : B ≤ k := by
  have h1 := h.lp
  have h2 := h.lg
  have h3 := h.lm
  omega

theorem Stp.box {w0 : World} {ps g n m mb : Nat} {w : World} {L : List (List Value)} (h : Stp w0 ps g n m mb w L) (o : Obj) : Stp w0 ps g n m mb (w.alloc o) L :=
  ⟨h.st.box o, h.md.of_heap (Below.heap_alloc _ _ _ h.md.lt), h.bel.alloc h.bel.size o⟩

set_option maxHeartbeats 1000000 in
set_option maxRecDepth 100000 in
theorem law4 (ao : Option Addr) (n c : Nat) (L : List (List Value)) (bo : Option Addr) (s d : Nat) (S : List (List Value)) (w : World) (hr : Rid w ao n L) (hr2 : Rid w bo s S) (hn : n ≤ 9223372036854775807) (hs : s ≤ 9223372036854775807) :
    Calls Try.prog 4 #[.slice ao n c, .slice bo s d] w fun e w' => e = .returned (.bool true) ∧ Below w.heap.size w w' := by
  have hC14 := zz14 ao n c bo s d w hn hs
  have HR : Hid (Rid w ao n L) := hr
  have HR2 : Hid (Rid w bo s S) := hr2
  clear hr hr2 hn hs
  go_enter Try.func4, Try.ntmps4
  go_wp2_with fail
  refine hC14.mono ?_
  clear hC14
  rintro e w ⟨hp, rfl⟩
  rcases hp with ⟨rfl, h21⟩ | rfl
  · have HN : Hid (n ≤ 49932 ∧ s ≤ 49932) := ⟨by omega, by omega⟩
    have hni : (n : Int) ≤ 49932 := by omega
    have hsi : (s : Int) ≤ 49932 := by omega
    have hsum : 20 * (n : Int) + 20 * (s : Int) ≤ 1048576 := by omega
    have hC9 := build ao n c L w HR.out (by omega)
    clear h21
    go_wp2_with fail
    refine hC9.mono ?_
    clear hC9
    rintro e w3 ⟨hp, hb3⟩
    have HB3 : Hid (Below w.heap.size w w3) := hb3
    clear hb3
    rcases hp with ⟨g, m, D, rfl, hrow, hown, hmp, hg0, hm0, hgm⟩ | rfl
    · have HG : Hid (RowR w3 g n L ∧ w3.ownsMap Try.prog 32 (plainElem Try.prog 3) m n D ∧ Mp D L ∧ w.heap.size ≤ g ∧ w.heap.size ≤ m ∧ g ≠ m) := ⟨hrow, hown, hmp, hg0, hm0, hgm⟩
      have hmm := fun w => run_makeMapN Try.underlying37 n w
      clear hrow hown hmp hg0 hm0 hgm
      obtain ⟨mb, hmb⟩ : ∃ mb, mb = w3.heap.size := ⟨_, rfl⟩
      go_wp2
      rw [← hmb]
      have HMB : Hid (mb = w3.heap.size) := hmb
      clear hmm
      go_loopw [9] (fun i wr => ∃ k : Nat, k ≤ n ∧ i = .int .i64 k ∧ MdR wr mb k (L.take k) ∧ But (fun q => q = mb) w3 wr) (fun i _ => n - (intOf i).toNat)
      case atStart =>
        exact ⟨0, by omega, rfl, ⟨.map [], by rw [hmb]; exact World.ownsMap_made _ _ _ _, Md.start⟩, (But.refl _ w3).alloc _⟩
      case round =>
        clear hmb
        obtain ⟨k, hk, rfl, hmd, hbut⟩ := hrel
        have HMD : Hid (MdR wr mb k (L.take k)) := hmd
        have HBUT : Hid (But (fun q => q = mb) w3 wr) := hbut
        clear hmd hbut
        by_cases hlt : k < n
        · obtain ⟨x, hx0⟩ : ∃ x, L[k]? = some x := ⟨_, List.getElem?_eq_getElem (by rw [HR.out.len]; exact hlt)⟩
          have hx : IsId x := HR.out.ids x (List.mem_of_getElem? hx0)
          have hg1 := HG.out.1.lt
          have a1 : wr.rangeAt g (k * 20) x := rangeAt_of_heap (HG.out.1.rng k x hx0) (HBUT.out.block g hg1 (by have := HMB.out; omega))
          have hLs : Hid (L.take (k + 1) = L.take k ++ [x]) := by show _ = _; rw [List.take_add_one, hx0]; rfl
          have hkb : Hid (k ≤ 100000) := by have := HN.out; show _ ≤ _; omega
          have il0 : (0 : Int) ≤ (k : Int) := by omega
          have il1 : (k : Int) < (n : Int) := by omega
          clear hx0 hg1
          go_wp2_with (first
            | (refine wpList_load_mid rfl 32 (.tmp 60) rfl g (k * 20) rfl x _ a1 Try.underlying32 rfl hx.size32 ?_)
            | (at_mapUpdate; refine wpList_put _ HMD.out hx hkb.out rfl _ _ _ rfl rfl rfl rfl ?_; intro w5 hmd5 hb5))
          have hmd6 : MdR w5 mb (k + 1) (L.take (k + 1)) := by rw [hLs.out]; exact hmd5
          have hb6 : But (fun q => q = mb) w3 w5 := HBUT.out.trans hb5
          clear hmd5 hb5
          go_wp2
          go_roundw
          case rel => exact ⟨k + 1, by omega, by go_num, hmd6, hb6⟩
          case measure => simp [intOf]; omega
        · have ek : k = n := by omega
          have eL : L.take k = L := List.take_of_length_le (by rw [HR.out.len]; omega)
          have HMD2 : Hid (MdR wr mb n L) := by have h := HMD.out; rw [eL, ek] at h; exact h
          have HST : Hid (St (wr.alloc (.cells #[.slice (some ⟨g, 0, none⟩) n n, .map (some m)] 82)) wr.heap.size g n m L) := by
            obtain ⟨hrow, hown, hmp, hg0, hm0, hgm⟩ := HG.out
            have hbt := HBUT.out
            have hmbe := HMB.out
            have hgl := hrow.lt
            have hml := hown.lt
            have ho : wr.ownsMap Try.prog 32 (plainElem Try.prog 3) m n D := by
              obtain ⟨es, clock, hb, r⟩ := hown
              exact ⟨es, clock, (hbt.block m hml (by omega)).trans hb, r⟩
            exact St.made (hrow.of_heap (hbt.block g hgl (by omega)) hbt.size) ho hmp HR.out.len hgm
          have HSTP : Hid (Stp w wr.heap.size g n m mb (wr.alloc (.cells #[.slice (some ⟨g, 0, none⟩) n n, .map (some m)] 82)) L) := by
            have h1 : Below w.heap.size w wr := HB3.out.trans (HBUT.out.below (fun k hk => by have h2 := HMB.out; have h3 := HB3.out.size; omega) HB3.out.size)
            exact ⟨HST.out, HMD2.out.of_heap (Below.heap_alloc _ _ _ HMD2.out.lt), h1.alloc h1.size _⟩
          have HA : Hid (Apart w.heap.size wr.heap.size g m mb) := by
            obtain ⟨hrow, hown, hmp, hg0, hm0, hgm⟩ := HG.out
            have hbt := HBUT.out.size
            have hmbe := HMB.out
            have hgl := hrow.lt
            have hml := hown.lt
            have h3 := HB3.out.size
            have h4 := HMD2.out.lt
            exact ⟨by omega, hg0, hm0, by omega, by omega, by omega, by omega⟩
          have hCA := znew g n m wr
          clear ek eL HMD HMD2 HST HG HBUT HMB HB3
          go_wp2_with fail
          refine hCA.mono ?_
          clear hCA
          rintro e w4 ⟨rfl, ew4⟩
          rw [← ew4] at HSTP
          clear ew4
          generalize wr.heap.size = ps at *
          go_wp2
          clear hk hlt
          have HN2 : Hid (n ≤ 50000) := by have := HN.out; show _ ≤ _; omega
          go_loopw [10, 12] (fun al t wr => ∃ (k A : Nat) (Lc : List (List Value)), k ≤ s ∧ t = .int .i64 k ∧ al = .int .i64 A ∧ Hid (Lc.length = A) ∧ (A : Int) ≤ 49932 ∧ Stp w ps g n m mb wr Lc) (fun _ t _ => s - (intOf t).toNat)
          case atStart => exact ⟨0, n, L, by omega, rfl, rfl, HR.out.len, hni, HSTP.out⟩
          case round =>
            clear HSTP
            obtain ⟨k, A, Lc, hk, rfl, rfl, HLA, hA, hstp⟩ := hrel
            have HST : Hid (Stp w ps g n m mb wr Lc) := hstp
            clear hstp
            by_cases hlt : k < s
            · obtain ⟨b, o, rfl, hbl, hcell⟩ := HR2.out.cells (by omega)
              obtain ⟨x, hx0⟩ : ∃ x, S[k]? = some x := ⟨_, List.getElem?_eq_getElem (by rw [HR2.out.len]; exact hlt)⟩
              have hx : IsId x := HR2.out.ids x (List.mem_of_getElem? hx0)
              have a1 : wr.rangeAt b (o + k * 20) x := rangeAt_of_heap (hcell k x hx0) (HST.out.bel.block b hbl)
              have ONE : Hid (x.toArray.all (·.oneCell') = true) := all_oneCell_toArray hx.one
              have HSZ : Hid ((20 : Nat) = x.toArray.size) := by show _ = _; rw [List.size_toArray, hx.len]
              have HS1 : Hid (Stp w ps g n m mb (wr.alloc (.cells x.toArray 32)) Lc) := HST.out.box _
              have hC := zremove ps g n m Lc x (wr.alloc (.cells x.toArray 32)) HS1.out.st hx HN2.out
              have il0 : (0 : Int) ≤ (k : Int) := by omega
              have il1 : (k : Int) < (s : Int) := by omega
              clear hx0 hcell
              by_cases hin : x ∈ Lc
              · have hlook := HS1.out.md.look_yes hx hin
                go_wp2_with (first
                  | (refine wpList_load_mid rfl 23 (.tmp 75) rfl b (o + k * 20) rfl x _ a1 Try.underlying23 rfl hx.size23 ?_)
                  | (refine wpList_store_row rfl 32 (.tmp 13) (.tmp 76) rfl wr.heap.size x.toArray rfl rfl 32 _ (heap_alloc_last wr _) hx.size32 HSZ.out ONE.out ?_; rw [World.setRow_alloc_new]; simp only [Act.put])
                  | (refine wpList_load_row rfl 32 (.tmp 13) rfl wr.heap.size rfl 32 x.toArray (0, 0) _ (heap_alloc_last wr _) Try.underlying32 rfl hx.size32 ?_))
                refine hC.mono ?_
                clear hC hlook a1
                rintro e w5 ⟨hp, hb⟩
                rcases hp with ⟨i, hi0, rfl, hst⟩ | ⟨hno, _, _⟩
                · have hbox : w5.heap[wr.heap.size]? = some (.cells x.toArray 32 (0, 0)) := by
                    have h1 := HST.out.st.lt
                    exact (hb.block _ (by simp) (by omega)).trans (heap_alloc_last wr _)
                  have hmd : MdR w5 mb n Lc := HS1.out.md.of_heap (hb.block mb HS1.out.md.lt HA.out.ne)
                  have hbel : Hid (Below w.heap.size w w5) := HS1.out.bel.trans (hb.below HA.out.le HS1.out.bel.size)
                  have hmem := rem_mem HS1.out.st.nodup hi0
                  have hil : i < Lc.length := (List.getElem?_eq_some_iff.1 hi0).1
                  obtain ⟨q, rfl⟩ : ∃ q, A = q + 1 := ⟨A - 1, by have := HLA.out; omega⟩
                  have HRL : Hid ((rem Lc i).length = q) := by show _ = _; rw [rem_length Lc i hil, HLA.out, Nat.add_sub_cancel]
                  have HST5 : Hid (St w5 ps g n m (rem Lc i)) := hst
                  clear hst hil hi0 hb hin
                  go_wp2_with (first
                    | (refine wpList_load_row rfl 32 (.tmp 13) rfl wr.heap.size rfl 32 x.toArray (0, 0) _ hbox Try.underlying32 rfl hx.size32 ?_)
                    | (at_delete; refine wpList_del _ hmd hx hmem rfl _ _ rfl rfl rfl ?_; intro w6 hmd6 hb6))
                  have hfin : Stp w ps g n m mb w6 (rem Lc i) := by
                    have h1 := HA.out
                    have h2 := HST5.out.lt
                    exact ⟨HST5.out.of_heap (hb6.block _ h2.1 (fun h => h1.n1 h.symm)) (hb6.block _ h2.2.1 (fun h => h1.n2 h.symm)) (hb6.block _ h2.2.2 (fun h => h1.n3 h.symm)) hb6.size, hmd6, hbel.out.trans (hb6.below (fun q hq => by rw [hq]; exact h1.lb) hbel.out.size)⟩
                  clear hmd hbox hmem hmd6 hb6
                  go_wp2
                  go_roundw
                  case rel => exact ⟨k + 1, q, rem Lc i, by omega, by go_num, by go_num, HRL.out, by omega, hfin⟩
                  case measure => simp [intOf]; omega
                · exact absurd hin hno
              · have hlook := HS1.out.md.look_no hx hin
                go_wp2_with (first
                  | (refine wpList_load_mid rfl 23 (.tmp 75) rfl b (o + k * 20) rfl x _ a1 Try.underlying23 rfl hx.size23 ?_)
                  | (refine wpList_store_row rfl 32 (.tmp 13) (.tmp 76) rfl wr.heap.size x.toArray rfl rfl 32 _ (heap_alloc_last wr _) hx.size32 HSZ.out ONE.out ?_; rw [World.setRow_alloc_new]; simp only [Act.put])
                  | (refine wpList_load_row rfl 32 (.tmp 13) rfl wr.heap.size rfl 32 x.toArray (0, 0) _ (heap_alloc_last wr _) Try.underlying32 rfl hx.size32 ?_))
                refine hC.mono ?_
                clear hC hlook a1
                rintro e w5 ⟨hp, hb⟩
                rcases hp with ⟨i, hi0, _, _⟩ | ⟨hno, rfl, hst⟩
                · exact absurd (List.mem_of_getElem? hi0) hin
                · have hmd : MdR w5 mb n Lc := HS1.out.md.of_heap (hb.block mb HS1.out.md.lt HA.out.ne)
                  have hbel : Hid (Below w.heap.size w w5) := HS1.out.bel.trans (hb.below HA.out.le HS1.out.bel.size)
                  have hfin : Stp w ps g n m mb w5 Lc := ⟨hst, hmd, hbel.out⟩
                  clear hst hmd hb hin hno
                  go_wp2
                  go_roundw
                  case rel => exact ⟨k + 1, A, Lc, by omega, by go_num, rfl, HLA.out, by omega, hfin⟩
                  case measure => simp [intOf]; omega
            · have hlenm := fun ty => HST.out.st.len ty
              have hc0 := HST.out.st.c0
              rw [HLA.out] at hlenm hc0
              have hC12 := zids ps (.slice (some ⟨g, 0, none⟩) A n) wr ⟨_, _, _, rfl⟩ hc0
              have hC13 := zat ps m wr HST.out.st.c1
              have HLN : Hid (A ≤ n) := by have h := HST.out.st.row.le; rw [HLA.out] at h; exact h
              clear hc0
              go_wp2_with (first
                | (go_at_call 12; refine hC12.mono ?_; rintro e wr ⟨rfl, rfl⟩)
                | (go_at_call 13; refine hC13.mono ?_; rintro e wr ⟨rfl, rfl⟩))
              clear hlenm hC12 hC13
              go_loop [17] (fun i => ∃ k : Nat, k ≤ A ∧ i = .int .i64 k) (fun i => A - (intOf i).toNat)
              case atStart => exact ⟨0, by omega, rfl⟩
              case round =>
                obtain ⟨j, hj, rfl⟩ := hrel
                by_cases hjl : j < A
                · obtain ⟨y, hy0⟩ : ∃ y, Lc[j]? = some y := ⟨_, List.getElem?_eq_getElem (by rw [HLA.out]; exact hjl)⟩
                  have hy : IsId y := HST.out.st.row.ids y (List.mem_of_getElem? hy0)
                  have a1 : wr.rangeAt g (j * 20) y := HST.out.st.row.rng j y hy0
                  have hl1 := HST.out.md.look_yes hy (List.mem_of_getElem? hy0)
                  have hl2 := HST.out.st.look_yes hy0
                  have il0 : (0 : Int) ≤ (j : Int) := by omega
                  have il1 : (j : Int) < (A : Int) := by omega
                  clear hy0
                  go_wp2_with (first
                    | (refine wpList_load_mid rfl 32 (.tmp 112) rfl g (j * 20) rfl y _ a1 Try.underlying32 rfl hy.size32 ?_)
                    | (refine wpList_load_mid rfl 32 (.tmp 120) rfl g (j * 20) rfl y _ a1 Try.underlying32 rfl hy.size32 ?_))
                  go_round
                  case rel => exact ⟨j + 1, by omega, by go_num⟩
                  case measure => simp [intOf]; omega
                · have hfin : Below w.heap.size w wr := HST.out.bel
                  go_wp2
                  go_ret
                  exact ⟨rfl, hfin⟩
    · go_wp2
      go_ret
      exact ⟨rfl, HB3.out⟩
  · go_wp2
    go_ret
    exact ⟨rfl, Below.refl _ _⟩

#print axioms law4
end Go.Proofs.Qxb6605954a
