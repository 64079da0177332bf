/-
  The plain law: raising one count by k raises the sum by k times the ways, as an int wraps.
-/
import Derived.Test.Qxb6605708aSum
namespace Go.Proofs.Qxb6605708a
open Go.RowKit

/-- How often the region stands among the regions held whole. -/
def cnt1 (g : Int) (ws : List Int) : Int := (ws.map fun r => if r = g then (1 : Int) else 0).sum
/-- How many of the elements added lie in the region. -/
def cnt2 (g : Int) (os ds : List Int) : Int := (ds.map fun e => if os.getD e.toNat 0 = g then (1 : Int) else 0).sum

theorem cnt1_step (g : Int) (ws : List Int) (k : Nat) (h : k < ws.length) : cnt1 g (ws.take (k + 1)) = cnt1 g (ws.take k) + if ws.getD k 0 = g then (1 : Int) else 0 := by
  rw [take_snoc ws k h]
  simp only [cnt1, List.map_append, List.sum_append, List.map_cons, List.map_nil, List.sum_cons, List.sum_nil, Int.add_zero]
theorem cnt2_step (g : Int) (os ds : List Int) (k : Nat) (h : k < ds.length) : cnt2 g os (ds.take (k + 1)) = cnt2 g os (ds.take k) + if os.getD (ds.getD k 0).toNat 0 = g then (1 : Int) else 0 := by
  rw [take_snoc ds k h]
  simp only [cnt2, List.map_append, List.sum_append, List.map_cons, List.map_nil, List.sum_cons, List.sum_nil, Int.add_zero]

theorem getD_set (hs : List Int) (n j : Nat) (v : Int) (h : n < hs.length) : (hs.set n v).getD j 0 = if j = n then v else hs.getD j 0 := by
  simp only [List.getD_eq_getElem?_getD]
  by_cases e : j = n
  · subst e; simp [h]
  · rw [List.getElem?_set_ne (by omega), if_neg e]

theorem part1_set (hs gs : List Int) (n : Nat) (v : Int) (h : n < hs.length) : ∀ ws : List Int, (∀ r ∈ ws, 0 ≤ r) → part1 (hs.set n v) gs ws = part1 hs gs ws + (v - hs.getD n 0) * cnt1 n ws
  | [], _ => by simp [part1, cnt1]
  | r :: ws, hp => by
    have ih := part1_set hs gs n v h ws (fun q hq => hp q (List.mem_cons_of_mem _ hq))
    have h0 := hp r (List.mem_cons_self)
    simp only [part1, cnt1, List.map_cons, List.sum_cons] at ih ⊢
    rw [getD_set hs n r.toNat v h, ih, Int.mul_add]
    by_cases e : r = (n : Int)
    · subst e
      rw [if_pos (Int.toNat_natCast n), if_pos rfl, Int.mul_one, Int.toNat_natCast]
      omega
    · rw [if_neg (by omega), if_neg e, Int.mul_zero]
      omega

theorem part2_set (hs os : List Int) (V : Int → Int) (n : Nat) (v : Int) (h : n < hs.length) (ho : ∀ j, j < os.length → 0 ≤ os.getD j 0) : ∀ ds : List Int, (∀ e ∈ ds, e.toNat < os.length) → part2 (hs.set n v) os V ds = part2 hs os V ds + (v - hs.getD n 0) * cnt2 n os ds
  | [], _ => by simp [part2, cnt2]
  | e :: ds, hp => by
    have ih := part2_set hs os V n v h ho ds (fun q hq => hp q (List.mem_cons_of_mem _ hq))
    have h0 := ho e.toNat (hp e (List.mem_cons_self))
    simp only [part2, cnt2, List.map_cons, List.sum_cons] at ih ⊢
    rw [getD_set hs n _ v h, ih, Int.mul_add]
    by_cases q : os.getD e.toNat 0 = (n : Int)
    · rw [q, if_pos (Int.toNat_natCast n), if_pos rfl, Int.mul_one, Int.toNat_natCast]
      omega
    · rw [if_neg (by omega), if_neg q, Int.mul_zero]
      omega

theorem wrap_more (x q : Int) : wrap64 (x + 18446744073709551616 * q) = wrap64 x := by
  simp only [wrap64]; omega

theorem wrap_is (x : Int) : ∃ q, wrap64 x = x + 18446744073709551616 * q := ⟨-((x + 9223372036854775808) / 18446744073709551616), by simp only [wrap64]; omega⟩

/-- THE LAW. -/
theorem linear (hs gs os ws ds : List Int) (V : Int → Int) (n : Nat) (k : Int) (h : n < hs.length) (hw : ∀ r ∈ ws, 0 ≤ r) (ho : ∀ j, j < os.length → 0 ≤ os.getD j 0) (hd : ∀ e ∈ ds, e.toNat < os.length) :
    wrap64 (wrap64 (part1 (hs.set n (wrap64 (hs.getD n 0 + k))) gs ws + part2 (hs.set n (wrap64 (hs.getD n 0 + k))) os V ds) - wrap64 (part1 hs gs ws + part2 hs os V ds)) = wrap64 (k * (cnt1 n ws + cnt2 n os ds)) := by
  rw [wrap_sub, part1_set hs gs n _ h ws hw, part2_set hs os V n _ h ho ds hd]
  obtain ⟨q, hq⟩ := wrap_is (hs.getD n 0 + k)
  rw [hq]
  have e1 : hs.getD n 0 + k + 18446744073709551616 * q - hs.getD n 0 = k + 18446744073709551616 * q := by omega
  rw [e1]
  have e2 : part1 hs gs ws + (k + 18446744073709551616 * q) * cnt1 n ws + (part2 hs os V ds + (k + 18446744073709551616 * q) * cnt2 n os ds) - (part1 hs gs ws + part2 hs os V ds) = (k + 18446744073709551616 * q) * (cnt1 n ws + cnt2 n os ds) := by
    rw [Int.mul_add]; omega
  rw [e2, Int.add_mul, Int.mul_assoc, wrap_more]

#print axioms linear
end Go.Proofs.Qxb6605708a
