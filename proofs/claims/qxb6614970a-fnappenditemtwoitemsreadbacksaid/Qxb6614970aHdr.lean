/-
  The contracts of wire.ZZappendItemHeader (9), the value's shape told; small laws on rows of bytes.
-/
import Derived.Test.Qxb6614970aApp
namespace Go.Proofs.Qxb6614970a
open Go.RowKit

/-- Numbers as cells of bytes. -/
def u8s (zs : List Int) : List Value := zs.map (Value.int .u8)
theorem u8s_len (zs : List Int) : (u8s zs).length = zs.length := by simp [u8s]
theorem u8s_app (xs ys : List Int) : u8s (xs ++ ys) = u8s xs ++ u8s ys := by simp [u8s]
theorem u8s_one (zs : List Int) : ∀ u ∈ u8s zs, u.oneCell' = true := by
  intro u hu
  obtain ⟨_, _, rfl⟩ := List.mem_map.1 hu
  rfl
theorem u8s_at (zs : List Int) (j : Nat) (h : j < zs.length) : (u8s zs)[j]? = some (.int .u8 (zs.getD j 0)) := by
  simp [u8s, List.getElem?_eq_getElem h]
def hdrZ (tag n : Int) : List Int := [tag, n / 256, n % 256]
theorem hdr_u8s (xs : List Int) (tag n : Int) : u8s xs ++ hdr tag n = u8s (xs ++ hdrZ tag n) := by simp [u8s, hdr, hdrZ]

/-- An owned row of at least one element: its shape. -/
theorem owns_shape {w : World} {B n : Nat} {v : Value} {xs : List Value} (h : w.ownsRow B 5 1 v n xs) (hn : 0 < n) : ∃ g c, v = .slice (some ⟨g, 0, none⟩) n c := by
  rcases h.2 with ⟨_, h0⟩ | ⟨g, cap, cur, hv, _⟩
  · omega
  · exact ⟨g, cap, hv⟩

theorem owns_cells {w : World} {B g n c : Nat} {zs : List Int} (h : w.ownsRow B 5 1 (.slice (some ⟨g, 0, none⟩) n c) n (u8s zs)) : ∀ j, j < n → w.cell? ⟨g, 0 + j, none⟩ = some (.int .u8 (zs.getD j 0)) := by
  intro j hj
  have hl : zs.length = n := by have := h.1; rw [u8s_len] at this; omega
  rw [Nat.zero_add, h.cellAt j (by omega), u8s_at zs j (by omega)]

theorem owns_blk {w : World} {B g n c : Nat} {xs : List Value} (h : w.ownsRow B 5 1 (.slice (some ⟨g, 0, none⟩) n c) n xs) : B ≤ g ∧ g < w.heap.size := h.lt g rfl

set_option maxHeartbeats 1000000 in
set_option maxRecDepth 100000 in
/-- ZZappendItemHeader onto a slice without room. -/
theorem zhdr_grow (ao : Option Addr) (n : Nat) (tag m : Int) (hm0 : 0 ≤ m) (hm : m < 65536) (xs : List Int) (w : World) (hnone : ao = none → n = 0) (hlo : xs.length = n) (holds : ∀ b, ao = some b → ∀ j, j < n → w.cell? (b.add j) = some (.int .u8 (xs.getD j 0))) (hlim : n + 3 ≤ 140737488355328) :
    Calls Try.prog 9 #[.slice ao n n, .int .u8 tag, .int .i64 m] w fun e w' => ∃ g c, e = .returned (.slice (some ⟨g, 0, none⟩) (n + 3) c) ∧ w'.ownsRow w.heap.size 5 1 (.slice (some ⟨g, 0, none⟩) (n + 3) c) (n + 3) (u8s (xs ++ hdrZ tag m)) ∧ Below w.heap.size w w' := by
  have hC := hdr_grow ao n tag m hm0 hm (u8s xs) w hnone (by rw [u8s_len]; exact hlo) (fun b hb j u hu => by
    have hj : j < n := by have := (List.getElem?_eq_some_iff.1 hu).1; rw [u8s_len] at this; omega
    rw [u8s_at xs j (by omega)] at hu; rw [holds b hb j hj]; exact hu) hlim
  clear holds hnone
  go_enter Try.func9, Try.ntmps9
  go_wp2_with fail
  refine hC.mono ?_
  rintro e w3 ⟨v3, rfl, hown3, hb3⟩
  rw [hdr_u8s] at hown3
  obtain ⟨g, c, hv⟩ := owns_shape hown3 (by omega)
  rw [hv] at hown3 ⊢
  clear hv
  go_wp2
  go_ret
  exact ⟨g, c, rfl, hown3, hb3⟩

#print axioms zhdr_grow
end Go.Proofs.Qxb6614970a
