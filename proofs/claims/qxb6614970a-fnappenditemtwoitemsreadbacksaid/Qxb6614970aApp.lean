/-
  The contracts of (binary.bigEndian).AppendUint16 (20), wire.appendItemHeader (18) and wire.appendItem (19), over this seat's translation.
-/
import Derived.Test.Qxb6614970aRows
import Derived.WalkKit
namespace Go.Proofs.Qxb6614970a
open Go.RowKit

theorem info5 : (Try.prog.info? 5).map (fun i => (i.zero, i.size, i.bytes)) = some (some (.int .u8 0), 1, 1) := by kernel_rfl

set_option maxHeartbeats 1000000 in
set_option maxRecDepth 100000 in
theorem app16 (B n : Nat) (v : Int) (hv0 : 0 ≤ v) (hv : v < 65536) (sv : Value) (xs : List Value) (w : World) (hown : w.ownsRow B 5 1 sv n xs) (hBw : B ≤ w.heap.size) (hlim : n + 2 ≤ 140737488355328) :
    Calls Try.prog 20 #[.agg #[], sv, .int .u16 v] w fun e w' => ∃ v', e = .returned v' ∧ w'.ownsRow B 5 1 v' (n + 2) (xs ++ [.int .u8 (v / 256), .int .u8 (v % 256)]) ∧ Below B w w' := by
  obtain ⟨i0, hi, hz0, hz1, hz2⟩ := info_parts info5
  go_enter Try.func20, Try.ntmps20
  go_wp2_with (at_builtin; refine wpList_append_own _ rfl _ _ 22 rfl B 5 i0 (.int .u8 0) 1 1 Try.underlying22 hi hz0 hz1 hz2 rfl (by decide) _ _ _ rfl ((hown.alloc _).alloc _) _ 2 2 [Value.int .u8 (v / 256), Value.int .u8 (v % 256)] rfl rfl ?c1 ?c2 ?c3 ?c4 ?c5 ?_)
  case c1 =>
    intro j u hj
    match j, hj with
    | 0, hj => simp at hj; subst hj; simp [Addr.add]
    | 1, hj => simp at hj; subst hj; simp [Addr.add]
  case c2 => intro u hu; simp at hu; rcases hu with rfl | rfl <;> rfl
  case c3 => unfold maxLen; omega
  case c4 => omega
  case c5 => simp; omega
  intro v' w2 hown' hgrow _
  go_wp2
  go_ret
  refine ⟨v', rfl, hown', ?_⟩
  exact ((((Below.refl B w).alloc hBw _).alloc (by simp; omega) _).grown hgrow (by simp; omega) (fun k hk => (hown.lt k hk).1))

theorem cell_old {w : World} {a : Addr} {v : Value} (o : Obj) (h : w.cell? a = some v) : (w.alloc o).cell? a = some v :=
  (World.cell?_of_block (Below.heap_alloc w o a.block (World.block_lt_of_cell? w a h))).trans h

theorem ownsRow_lower {w : World} {base base' : Nat} {e : TypeId} {size : Nat} {v : Value} {n : Nat} {xs : List Value} (h : w.ownsRow base e size v n xs) (hb : base' ≤ base) : w.ownsRow base' e size v n xs := by
  refine ⟨h.1, ?_⟩
  rcases h.2 with h2 | ⟨g, cap, cur, hv, hg, r⟩
  · exact Or.inl h2
  · exact Or.inr ⟨g, cap, cur, hv, Nat.le_trans hb hg, r⟩

/-- What is owned stays owned where all blocks that were there stay. -/
theorem ownsRow_below {w w' : World} {base : Nat} {e : TypeId} {size : Nat} {v : Value} {n : Nat} {xs : List Value} (h : w.ownsRow base e size v n xs) (hb : Below w.heap.size w w') : w'.ownsRow base e size v n xs := by
  refine ⟨h.1, ?_⟩
  rcases h.2 with h2 | ⟨g, cap, cur, hv, hg, hh, r⟩
  · exact Or.inl h2
  · exact Or.inr ⟨g, cap, cur, hv, hg, by rw [hb.block g (Array.getElem?_eq_some_iff.1 hh).1]; exact hh, r⟩

/-- The two bytes of a length, greatest first, behind a tag. -/
def hdr (tag n : Int) : List Value := [.int .u8 tag, .int .u8 (n / 256), .int .u8 (n % 256)]

theorem hdr_eq (xs : List Value) (tag n : Int) : xs ++ [Value.int .u8 tag] ++ [.int .u8 (n / 256), .int .u8 (n % 256)] = xs ++ hdr tag n := by simp [hdr]

set_option maxHeartbeats 1000000 in
set_option maxRecDepth 100000 in
/-- appendItemHeader onto a slice that the call owns. -/
theorem hdr_own (B n : Nat) (tag m : Int) (hm0 : 0 ≤ m) (hm : m < 65536) (sv : Value) (xs : List Value) (w : World) (hown : w.ownsRow B 5 1 sv n xs) (hBw : B ≤ w.heap.size) (hlim : n + 3 ≤ 140737488355328) :
    Calls Try.prog 18 #[sv, .int .u8 tag, .int .i64 m] w fun e w' => ∃ v', e = .returned v' ∧ w'.ownsRow B 5 1 v' (n + 3) (xs ++ hdr tag m) ∧ Below B w w' := by
  obtain ⟨i0, hi, hz0, hz1, hz2⟩ := info_parts info5
  go_enter Try.func18, Try.ntmps18
  go_wp2_with (at_builtin; refine wpList_append_own _ rfl _ _ 22 rfl B 5 i0 (.int .u8 0) 1 1 Try.underlying22 hi hz0 hz1 hz2 rfl (by decide) _ _ _ rfl (hown.alloc _) _ 1 1 [Value.int .u8 tag] rfl rfl ?c1 ?c2 ?c3 ?c4 ?c5 ?_)
  case c1 =>
    intro j u hj
    match j, hj with
    | 0, hj => simp at hj; subst hj; simp [Addr.add]
  case c2 => intro u hu; simp at hu; subst hu; rfl
  case c3 => unfold maxLen; omega
  case c4 => omega
  case c5 => simp; omega
  intro v' w2 hown' hgrow _
  have hb : Below B w w2 := (((Below.refl B w).alloc hBw _).grown hgrow (by simp; omega) (fun k hk => (hown.lt k hk).1))
  have hB2 : B ≤ w2.heap.size := Nat.le_trans hBw hb.size
  clear hgrow
  go_wp2_with fail
  refine (app16 B (n + 1) m hm0 hm v' _ w2 hown' hB2 (by omega)).mono ?_
  rintro e w3 ⟨v3, rfl, hown3, hb3⟩
  rw [hdr_eq] at hown3
  go_wp2
  go_ret
  exact ⟨v3, rfl, hown3, hb.trans hb3⟩

set_option maxHeartbeats 1000000 in
set_option maxRecDepth 100000 in
/-- appendItemHeader onto a slice without room (nil, or filled to its capacity): nothing that was there turns. -/
theorem hdr_grow (ao : Option Addr) (n : Nat) (tag m : Int) (hm0 : 0 ≤ m) (hm : m < 65536) (xs : List Value) (w : World) (hnone : ao = none → n = 0) (hlo : xs.length = n) (holds : ∀ b, ao = some b → ∀ j u, xs[j]? = some u → w.cell? (b.add j) = some u) (hlim : n + 3 ≤ 140737488355328) :
    Calls Try.prog 18 #[.slice ao n n, .int .u8 tag, .int .i64 m] w fun e w' => ∃ v', e = .returned v' ∧ w'.ownsRow w.heap.size 5 1 v' (n + 3) (xs ++ hdr tag m) ∧ Below w.heap.size w w' := by
  obtain ⟨i0, hi, hz0, hz1, hz2⟩ := info_parts info5
  go_enter Try.func18, Try.ntmps18
  go_wp2_with (at_builtin; refine wpList_append_grows _ rfl _ _ 22 rfl 5 i0 (.int .u8 0) 1 1 Try.underlying22 hi hz0 hz1 hz2 rfl (by decide) ao n n xs rfl ?c0 ?ca ?cb _ 1 1 [Value.int .u8 tag] rfl rfl ?c1 ?c2 ?c3 ?c4 ?c5 ?_)
  case c0 => intro h; exact ⟨hnone h, hnone h⟩
  case ca => omega
  case cb => intro b hb j u hu; exact cell_old _ (holds b hb j u hu)
  case c1 =>
    intro j u hj
    match j, hj with
    | 0, hj => simp at hj; subst hj; simp [Addr.add]
  case c2 => intro u hu; simp at hu; subst hu; rfl
  case c3 => omega
  case c4 => unfold maxLen; omega
  case c5 => omega
  intro v' w2 hown' hgrow
  have hown2 := ownsRow_lower hown' (base' := w.heap.size) (by simp)
  have hb : Below w.heap.size w w2 := (((Below.refl _ w).alloc (Nat.le_refl _) _).grown hgrow (by simp) (fun k hk => by cases hk))
  have hB2 : w.heap.size ≤ w2.heap.size := hb.size
  clear hgrow hown'
  go_wp2_with fail
  refine (app16 w.heap.size (n + 1) m hm0 hm v' _ w2 hown2 hB2 (by omega)).mono ?_
  rintro e w3 ⟨v3, rfl, hown3, hb3⟩
  rw [hdr_eq] at hown3
  go_wp2
  go_ret
  exact ⟨v3, rfl, hown3, hb.trans hb3⟩

#print axioms app16
#print axioms hdr_own
#print axioms hdr_grow
end Go.Proofs.Qxb6614970a
