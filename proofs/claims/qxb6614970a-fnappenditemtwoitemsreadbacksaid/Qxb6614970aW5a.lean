/-
  Small laws for FnAppendItemTwoItemsReadBack (5).
-/
import Derived.Test.Qxb6614970aRow
import Derived.Test.Qxb6614970aLen
import Derived.Test.Qxb6614970aItem
import Derived.Test.Qxb6614970aRead
import Derived.Test.Qxb6614970aW6a
namespace Go.Proofs.Qxb6614970a.fnAppendItemTwoItemsReadBack
open Go.RowKit
set_option linter.unusedVariables false

set_option maxHeartbeats 1000000 in
theorem zz_yes (a0 a1 a2 : Option Addr) (n0 c0 n1 c1 n2 c2 : Nat) (t1 t2 : Int) (h : n0 + n1 + n2 ≤ 1048576) (w : World) :
    Calls Try.prog 13 #[.slice a0 n0 c0, .int .u8 t1, .slice a1 n1 c1, .int .u8 t2, .slice a2 n2 c2] w fun e w' => e = .returned (.bool true) ∧ Below w.heap.size w w' := by
  go_enter Try.func13, Try.ntmps13
  go_wp2
  go_ret
  exact ⟨rfl, Below.refl _ _⟩

theorem owns_cap {w : World} {B g n c : Nat} {xs : List Value} (h : w.ownsRow B 5 1 (.slice (some ⟨g, 0, none⟩) n c) n xs) : n ≤ c := by
  rcases h.2 with ⟨h', _⟩ | ⟨g', cap', cur, h', _, _, hnc, _⟩
  · simp at h'
  · simp only [Value.slice.injEq, Option.some.injEq, Addr.mk.injEq, and_true, true_and] at h'
    obtain ⟨rfl, rfl⟩ := h'
    exact hnc

/-- What the two appends leave: dst, and behind it the two items. -/
theorem two_parts {w : World} {g L n0 n1 n2 : Nat} {t1 t2 : Int} {ds xs ys : List Int} (h : Rd w (some ⟨g, 0, none⟩) L (ds ++ hdrZ t1 n1 ++ xs ++ hdrZ t2 n2 ++ ys)) (hd : ds.length = n0) (hx : xs.length = n1) (hy : ys.length = n2) :
    Rd w (some ⟨g, 0, none⟩) n0 ds ∧ Rd w (some ⟨g, n0, none⟩) (3 + n1 + (3 + n2)) (hdrZ t1 n1 ++ (xs ++ (hdrZ t2 n2 ++ ys))) := by
  have e : ds ++ hdrZ t1 n1 ++ xs ++ hdrZ t2 n2 ++ ys = ds ++ (hdrZ t1 n1 ++ (xs ++ (hdrZ t2 n2 ++ ys))) := by simp [List.append_assoc]
  rw [e] at h
  have hl := h.len
  simp only [List.length_append, hdrZ, List.length_cons, List.length_nil] at hl
  constructor
  · have := h.part 0 n0 ds hd (by omega) (fun j hj => by rw [Nat.zero_add, List.getElem?_append_left (by omega)])
    simpa using this
  · have := h.part n0 (3 + n1 + (3 + n2)) (hdrZ t1 n1 ++ (xs ++ (hdrZ t2 n2 ++ ys))) (by simp [hdrZ]; omega) (by omega) (fun j hj => by
      rw [List.getElem?_append_right (by omega), show n0 + j - ds.length = j by omega])
    simpa using this

theorem read_at (b o L c m k : Nat) (t : Int) (ys zs : List Int) (w : World) (hr : Rd w (some ⟨b, o, none⟩) (3 + m + k) (hdrZ t m ++ (ys ++ zs))) (hy : ys.length = m) (hz : zs.length = k) (hm : m < 65536) (hL : L = 3 + m + k) (hk : k ≤ 1048576) (hLc : L ≤ c) :
    Calls Try.prog 15 #[.slice (some ⟨b, o, none⟩) L c] w fun e w' => ∃ a1 c1 a2 c2, e = .returned (.tuple #[.int .u8 t, .slice (some a1) m c1, .slice (some a2) k c2, .bool true]) ∧ Rd w' (some a1) m ys ∧ Rd w' (some a2) k zs ∧ k ≤ c2 ∧ Below w.heap.size w w' := by
  subst hL
  exact read_any b o _ c m k t ys zs w hr hy hz hm rfl hk hLc

/-- The same, the rest not empty: its address written out. -/
theorem read_more (b o L c m k : Nat) (t : Int) (ys zs : List Int) (w : World) (hr : Rd w (some ⟨b, o, none⟩) (3 + m + k) (hdrZ t m ++ (ys ++ zs))) (hy : ys.length = m) (hz : zs.length = k) (hm : m < 65536) (hL : L = 3 + m + k) (hk : k ≤ 1048576) (hLc : L ≤ c) (h0 : 0 < k) :
    Calls Try.prog 15 #[.slice (some ⟨b, o, none⟩) L c] w fun e w' => ∃ a1 c1 b2 o2 c2, e = .returned (.tuple #[.int .u8 t, .slice (some a1) m c1, .slice (some ⟨b2, o2, none⟩) k c2, .bool true]) ∧ Rd w' (some a1) m ys ∧ Rd w' (some ⟨b2, o2, none⟩) k zs ∧ k ≤ c2 ∧ Below w.heap.size w w' := by
  refine (read_at b o L c m k t ys zs w hr hy hz hm hL hk hLc).mono fun e w' h => ?_
  obtain ⟨a1, c1, a2, c2, he, h1, h2, h3, h4⟩ := h
  obtain ⟨b2, o2, e2, _⟩ := h2.cells h0
  cases e2
  exact ⟨a1, c1, b2, o2, c2, he, h1, h2, h3, h4⟩

#print axioms two_parts
#print axioms read_more
end Go.Proofs.Qxb6614970a.fnAppendItemTwoItemsReadBack
