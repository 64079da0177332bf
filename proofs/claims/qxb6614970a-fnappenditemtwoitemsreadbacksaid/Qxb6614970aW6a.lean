/-
  Small laws for FnAppendItemSelfDelimiting (6).
-/
import Derived.Test.Qxb6614970aRow
import Derived.Test.Qxb6614970aPre
import Derived.Test.Qxb6614970aItem
import Derived.Laws.CopyOwn
namespace Go.Proofs.Qxb6614970a.fnAppendItemSelfDelimiting
open Go.RowKit
set_option linter.unusedVariables false

set_option maxHeartbeats 1000000 in
theorem zz_yes (a1 a2 : Option Addr) (n1 c1 n2 c2 : Nat) (t1 t2 : Int) (h1 : n1 ≤ 65535) (h2 : n2 ≤ 65535) (w : World) :
    Calls Try.prog 16 #[.int .u8 t1, .slice a1 n1 c1, .int .u8 t2, .slice a2 n2 c2] w fun e w' => e = .returned (.bool true) ∧ Below w.heap.size w w' := by
  go_enter Try.func16, Try.ntmps16
  go_wp2
  go_ret
  exact ⟨rfl, Below.refl _ _⟩

theorem madeRow {w : World} {B g n c : Nat} {L : List Value} (h : w.ownsRow B 5 1 (.slice (some ⟨g, 0, none⟩) n n) n L) : ∃ cur : List Value, w.heap[g]? = some (.cells cur.toArray 5 (0, 0)) ∧ cur.length = n ∧ B ≤ g := by
  rcases h.2 with ⟨h', _⟩ | ⟨g', cap', cur, h', hb, hg, hnc, hcm, hcs, htake⟩
  · simp at h'
  · simp only [Value.slice.injEq, Option.some.injEq, Addr.mk.injEq, and_true, true_and] at h'
    obtain ⟨rfl, rfl⟩ := h'
    exact ⟨cur.toList, by simpa using hg, by simpa using hcs, hb⟩

theorem splice_full (cur cs : List Value) (h : cur.length = cs.length) : splice cur 0 cs = cs := by
  simp [splice, List.drop_eq_nil_of_le (Nat.le_of_eq h)]

theorem Rd.row {w : World} {g n : Nat} {xs : List Int} (h : w.heap[g]? = some (.cells (u8s xs).toArray 5 (0, 0))) (hl : xs.length = n) : Rd w (some ⟨g, 0, none⟩) n xs :=
  ⟨hl, (fun e => by cases e), fun _ => ⟨g, 0, rfl, fun j hj => by
    rw [Nat.zero_add, cell_of_row w g j _ 5 (0, 0) h]
    have := u8s_at xs j (by omega)
    simpa using this⟩⟩

theorem pre_same (t1 t2 : Int) (n1 n2 : Nat) (xs ys : List Int) (hx : xs.length = n1) (hy : ys.length = n2) : (hdrZ t2 n2 ++ ys).take (3 + n1) = hdrZ t1 n1 ++ xs ↔ t1 = t2 ∧ xs = ys := by
  have e : 3 + n1 = n1 + 1 + 1 + 1 := by omega
  rw [e]
  simp only [hdrZ, List.cons_append, List.nil_append, List.take_succ_cons, List.cons.injEq]
  constructor
  · rintro ⟨h1, h2, h3, h4⟩
    have hn : n1 = n2 := by omega
    refine ⟨h1.symm, ?_⟩
    rw [← h4, List.take_of_length_le (by omega)]
  · rintro ⟨rfl, rfl⟩
    have hn : n1 = n2 := by omega
    subst hn
    exact ⟨rfl, rfl, rfl, List.take_of_length_le (by omega)⟩

theorem pre_dec (t : Int) (n1 n2 : Nat) (xs ys : List Int) (hx : xs.length = n1) (hy : ys.length = n2) : decide ((hdrZ t n2 ++ ys).take (3 + n1) = hdrZ t n1 ++ xs) = decide (xs = ys) :=
  decide_eq_decide.2 ((pre_same t t n1 n2 xs ys hx hy).trans ⟨fun h => h.2, fun h => ⟨rfl, h⟩⟩)
theorem pre_dec' (t : Int) (n1 n2 : Nat) (xs ys : List Int) (hx : xs.length = n1) (hy : ys.length = n2) : decide ((hdrZ t n1 ++ xs).take (3 + n2) = hdrZ t n2 ++ ys) = decide (xs = ys) :=
  decide_eq_decide.2 ((pre_same t t n2 n1 ys xs hy hx).trans ⟨fun h => h.2.symm, fun h => ⟨rfl, h.symm⟩⟩)
theorem pre_no (t1 t2 : Int) (n1 n2 : Nat) (xs ys : List Int) (hx : xs.length = n1) (hy : ys.length = n2) (h : ¬ t1 = t2) : decide ((hdrZ t2 n2 ++ ys).take (3 + n1) = hdrZ t1 n1 ++ xs) = false :=
  decide_eq_false fun e => h ((pre_same t1 t2 n1 n2 xs ys hx hy).1 e).1

theorem tail_three {w : World} {g n : Nat} {t m : Int} {xs : List Int} (h : Rd w (some ⟨g, 0, none⟩) (3 + n) (hdrZ t m ++ xs)) : Rd w (some ⟨g, 3, none⟩) n xs := by
  have hl := h.len
  simp only [hdrZ, List.length_append, List.length_cons, List.length_nil] at hl
  refine ⟨by omega, (fun e => by cases e), fun hn => ⟨g, 3, rfl, fun j hj => ?_⟩⟩
  obtain ⟨b, o, e, hc⟩ := h.cells (by omega)
  cases e
  have := hc (3 + j) (by omega)
  rw [Nat.zero_add] at this
  rw [this]
  simp only [List.getD_eq_getElem?_getD]
  rw [List.getElem?_append_right (by simp [hdrZ])]
  simp [hdrZ]

theorem tail_none {w : World} {g n : Nat} {t m : Int} {xs : List Int} (h : Rd w (some ⟨g, 0, none⟩) (3 + n) (hdrZ t m ++ xs)) (h0 : n = 0) : Rd w (some ⟨g, 0, none⟩) n xs := by
  have hl := h.len
  simp only [hdrZ, List.length_append, List.length_cons, List.length_nil] at hl
  exact ⟨by omega, (fun e => by cases e), fun hn => by omega⟩

/-- ZZappendItem onto nil. -/
theorem zitem_nil (L : Nat) (tag : Int) (ad : Option Addr) (m c : Nat) (ys : List Int) (w : World) (hL : L = 3 + m) (hy : Rd w ad m ys) (hyn : ad = none → c = 0) (hm : m < 65536) :
    Calls Try.prog 14 #[.slice none 0 0, .int .u8 tag, .slice ad m c] w fun e w' => ∃ g c', e = .returned (.slice (some ⟨g, 0, none⟩) L c') ∧ w'.ownsRow w.heap.size 5 1 (.slice (some ⟨g, 0, none⟩) L c') L (u8s (hdrZ tag m ++ ys)) ∧ L ≤ c' ∧ Below w.heap.size w w' := by
  subst hL
  refine (zitem_grow none 0 tag [] ad m c ys w (Rd.nilRow w) hy hyn hm (by omega)).mono ?_
  rintro e w' ⟨g, c', rfl, hown, hb⟩
  rw [Nat.zero_add] at hown ⊢
  refine ⟨g, c', rfl, by simpa using hown, ?_, hb⟩
  rcases hown.2 with ⟨h', _⟩ | ⟨g', cap', cur, h', _, _, hnc, _⟩
  · simp at h'
  · simp only [Value.slice.injEq, Option.some.injEq, Addr.mk.injEq, and_true, true_and] at h'
    obtain ⟨rfl, rfl⟩ := h'
    exact hnc

end Go.Proofs.Qxb6614970a.fnAppendItemSelfDelimiting
