/-
  The contract of readItem (15).
-/
import Derived.Test.Qxb6614970aRd
namespace Go.Proofs.Qxb6614970a
open Go.RowKit
set_option linter.unusedVariables false

theorem results_tmp4 {fn : Func} {t u v x : Tmp} (h : fn.results = #[.tmp t, .tmp u, .tmp v, .tmp x]) (tmps : Array Value) (P : Program) (w : World) :
    (results fn tmps).run P w = .ok (.tuple #[tmps.getD t undef, tmps.getD u undef, tmps.getD v undef, tmps.getD x undef]) w := by
  simp [results, h]

/-- A piece of a row. -/
theorem Rd.part {w : World} {b o L : Nat} {xs : List Int} (h : Rd w (some ⟨b, o, none⟩) L xs) (p n : Nat) (zs : List Int) (hz : zs.length = n) (hle : p + n ≤ L) (he : ∀ j, j < n → xs[p + j]?.getD 0 = zs[j]?.getD 0) : Rd w (some ⟨b, o + p, none⟩) n zs := by
  refine ⟨hz, (fun e => by cases e), fun hn => ⟨b, o + p, rfl, fun j hj => ?_⟩⟩
  obtain ⟨b', o', e, hc⟩ := h.cells (by omega)
  cases e
  have := hc (p + j) (by omega)
  rw [Nat.add_assoc, this]
  simp only [List.getD_eq_getElem?_getD]
  rw [he j hj]

theorem Rd.empty (w : World) (a : Addr) (zs : List Int) (n : Nat) (h : n = 0) (hz : zs.length = n) : Rd w (some a) n zs :=
  ⟨hz, (fun e => by cases e), fun hn => by omega⟩

set_option maxHeartbeats 1000000 in
set_option maxRecDepth 100000 in
theorem read_any (b o L c m k : Nat) (t : Int) (ys zs : List Int) (w : World) (hr : Rd w (some ⟨b, o, none⟩) L (hdrZ t m ++ (ys ++ zs))) (hy : ys.length = m) (hz : zs.length = k) (hm : m < 65536) (hLe : L = 3 + m + k) (hk : k ≤ 1048576) (hLc : L ≤ c) :
    Calls Try.prog 15 #[.slice (some ⟨b, o, none⟩) L c] w fun e w' => ∃ a1 c1 a2 c2, e = .returned (.tuple #[.int .u8 t, .slice (some a1) m c1, .slice (some a2) k c2, .bool true]) ∧ Rd w' (some a1) m ys ∧ Rd w' (some a2) k zs ∧ k ≤ c2 ∧ Below w.heap.size w w' := by
  have r1 : Rd w (some ⟨b, o + 3, none⟩) m ys := hr.part 3 m ys hy (by omega) (fun j hj => by
    rw [List.getElem?_append_right (by simp [hdrZ]), List.getElem?_append_left (by simp [hdrZ]; omega)]; simp [hdrZ])
  have r2 : Rd w (some ⟨b, o + (3 + m), none⟩) k zs := hr.part (3 + m) k zs hz (by omega) (fun j hj => by
    rw [List.getElem?_append_right (by simp [hdrZ]; omega), List.getElem?_append_right (by simp [hdrZ]; omega)]; simp [hdrZ]
    rw [show 3 + m + j - 3 - ys.length = j by omega])
  obtain ⟨b', o', e, hc⟩ := hr.cells (by omega)
  cases e
  have k0 := hc 0 (by omega)
  have k1 := hc 1 (by omega)
  have k2 := hc 2 (by omega)
  simp [hdrZ] at k0 k1 k2
  have m1 : IntKind.i64.wrap ((m : Int) / 256 * 256) = (m : Int) / 256 * 256 := by rw [IntKind.wrap_i64]; omega
  have m2 : IntKind.i64.wrap ((m : Int) / 256 * 256 + (m : Int) % 256) = m := by rw [IntKind.wrap_i64]; omega
  have m3 : IntKind.i64.wrap (3 + (m : Int)) = 3 + (m : Int) := by rw [IntKind.wrap_i64]; omega
  have R1 : Hid (Rd w (some ⟨b, o + 3, none⟩) m ys) := r1
  have R2 : Hid (Rd w (some ⟨b, o + (3 + m), none⟩) k zs) := r2
  have HL : Hid (L = 3 + m + k) := hLe
  have l3 : 3 + m ≤ L := by omega
  have l4 : (3 : Int) + (m : Int) ≤ (L : Int) := by omega
  have l5 : (2 : Int) < (L : Int) := by omega
  have l6 : (1 : Int) < (L : Int) := by omega
  have l7 : L ≤ 1200000 := by omega
  clear hr r1 r2 hc hLe
  have e1 : 3 + m - 3 = m := by omega
  have e2 : L - (3 + m) = k := by have := HL.out; omega
  have bd : ∀ w' : World, w' = w.drew.drew → Below w.heap.size w w' := fun w' e => by rw [e]; exact (Below.refl _ _).drew.drew
  by_cases c1 : c = 3
  · have hLe := HL.out
    have hm0 : m = 0 := by omega
    have hk0 : k = 0 := by omega
    have hL3 : L = 3 := by omega
    clear hLe HL
    subst hm0 hk0 hL3 c1
    clear m1 m2 m3 e1 e2 l3 l4 l5 l6 l7 R1 R2
    go_enter Try.func15, Try.ntmps15
    go_wp2
    go_region
    go_wp2
    go_region
    go_wp2
    refine bodyPost_ret (results_tmp4 rfl _ _ _) rfl ?_
    exact ⟨⟨b, o, none⟩, 0, ⟨b, o, none⟩, 0, rfl, Rd.empty _ _ _ _ rfl hy, Rd.empty _ _ _ _ rfl hz, Nat.le_refl _, bd _ rfl⟩
  by_cases c2 : c = 3 + m
  · have hLe := HL.out
    have hk0 : k = 0 := by omega
    have hL3 : L = 3 + m := by omega
    clear hLe HL
    have m4 : ¬ m = 0 := by omega
    subst hk0 hL3 c2
    clear e2
    have e3 : 3 + m - (3 + m) = 0 := by omega
    go_enter Try.func15, Try.ntmps15
    go_wp2
    go_region
    go_wp2
    go_region
    go_wp2
    refine bodyPost_ret (results_tmp4 rfl _ _ _) rfl ?_
    exact ⟨⟨b, o + 3, none⟩, m, ⟨b, o, none⟩, 0, by simp, R1.out.kept (bd _ rfl), Rd.empty _ _ _ _ rfl hz, Nat.zero_le _, bd _ rfl⟩
  · go_enter Try.func15, Try.ntmps15
    go_wp2
    go_region
    go_wp2
    go_region
    go_wp2
    refine bodyPost_ret (results_tmp4 rfl _ _ _) rfl ?_
    exact ⟨⟨b, o + 3, none⟩, _, ⟨b, o + (3 + m), none⟩, c - (3 + m), by simp [e1, e2]; rfl, R1.out.kept (bd _ rfl), R2.out.kept (bd _ rfl), by omega, bd _ rfl⟩

#print axioms read_any
end Go.Proofs.Qxb6614970a
