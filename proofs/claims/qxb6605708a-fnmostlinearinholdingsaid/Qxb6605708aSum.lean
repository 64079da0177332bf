/-
  Plain sums, and how they wrap.
-/
import Derived.RowKit
import Derived.IntWalk
namespace Go.Proofs.Qxb6605708a
open Go.RowKit

/-- What the regions held whole add. -/
def part1 (hs gs : List Int) (ws : List Int) : Int := (ws.map fun r => hs.getD r.toNat 0 + gs.getD r.toNat 0).sum
/-- What the elements add. -/
def part2 (hs os : List Int) (V : Int → Int) (ds : List Int) : Int := (ds.map fun e => V e + hs.getD (os.getD e.toNat 0).toNat 0).sum

theorem take_snoc (xs : List Int) (k : Nat) (h : k < xs.length) : xs.take (k + 1) = xs.take k ++ [xs.getD k 0] := by
  rw [List.take_add_one, List.getElem?_eq_getElem h]
  simp [List.getElem?_eq_getElem h]

theorem part1_step (hs gs ws : List Int) (k : Nat) (h : k < ws.length) : part1 hs gs (ws.take (k + 1)) = part1 hs gs (ws.take k) + (hs.getD (ws.getD k 0).toNat 0 + gs.getD (ws.getD k 0).toNat 0) := by
  rw [take_snoc ws k h]
  simp only [part1, List.map_append, List.sum_append, List.map_cons, List.map_nil, List.sum_cons, List.sum_nil, Int.add_zero]

theorem part2_step (hs os : List Int) (V : Int → Int) (ds : List Int) (k : Nat) (h : k < ds.length) : part2 hs os V (ds.take (k + 1)) = part2 hs os V (ds.take k) + (V (ds.getD k 0) + hs.getD (os.getD (ds.getD k 0).toNat 0).toNat 0) := by
  rw [take_snoc ds k h]
  simp only [part2, List.map_append, List.sum_append, List.map_cons, List.map_nil, List.sum_cons, List.sum_nil, Int.add_zero]

theorem wrap_add (x y : Int) : wrap64 (wrap64 x + wrap64 y) = wrap64 (x + y) := by
  simp only [wrap64]; omega
theorem wrap_add_right (x y : Int) : wrap64 (x + wrap64 y) = wrap64 (x + y) := by
  simp only [wrap64]; omega
theorem wrap_add_left (x y : Int) : wrap64 (wrap64 x + y) = wrap64 (x + y) := by
  simp only [wrap64]; omega
theorem wrap_sub (x y : Int) : wrap64 (wrap64 x - wrap64 y) = wrap64 (x - y) := by
  simp only [wrap64]; omega

#print axioms wrap_sub
end Go.Proofs.Qxb6605708a
