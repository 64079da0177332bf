/-
  The contract of zzCmpBytes (8).
-/
import Derived.Test.Qxb6605700aRows
import Derived.WalkKit
import Derived.Lib.Bytealg
namespace Go.Proofs.Qxb6605700a
open Go.RowKit
set_option linter.unusedVariables false

theorem ret_int {k : IntKind} {a b : Int} (h : a = b) : Ending.returned (.int k a) = .returned (.int k b) := by rw [h]

/-- The comparison of what is left from place k on. -/
def cmpAt (a b : ByteArray) (k : Nat) : Int := Lib.compareBytes (a.data.toList.drop k) (b.data.toList.drop k)

theorem drop_byte (a : ByteArray) (k : Nat) (h : k < a.size) : a.data.toList.drop k = a[k] :: a.data.toList.drop (k + 1) := by
  rw [List.drop_eq_getElem_cons (by simpa using h)]; rfl

theorem cmp_lt (a b : ByteArray) (k : Nat) (ha : k < a.size) (hb : k < b.size) (h : a[k].toNat < b[k].toNat) : cmpAt a b k = -1 := by
  unfold cmpAt
  rw [drop_byte a k ha, drop_byte b k hb, Lib.compareBytes, if_pos (by rw [UInt8.lt_iff_toNat_lt]; omega)]
theorem cmp_gt (a b : ByteArray) (k : Nat) (ha : k < a.size) (hb : k < b.size) (h : b[k].toNat < a[k].toNat) : cmpAt a b k = 1 := by
  unfold cmpAt
  rw [drop_byte a k ha, drop_byte b k hb, Lib.compareBytes, if_neg (by rw [UInt8.lt_iff_toNat_lt]; omega), if_pos (by rw [UInt8.lt_iff_toNat_lt]; omega)]
theorem cmp_eq (a b : ByteArray) (k : Nat) (ha : k < a.size) (hb : k < b.size) (h1 : ¬ a[k].toNat < b[k].toNat) (h2 : ¬ b[k].toNat < a[k].toNat) : cmpAt a b k = cmpAt a b (k + 1) := by
  unfold cmpAt
  rw [drop_byte a k ha, drop_byte b k hb, Lib.compareBytes, if_neg (by rw [UInt8.lt_iff_toNat_lt]; omega), if_neg (by rw [UInt8.lt_iff_toNat_lt]; omega)]
theorem cmp_out (a b : ByteArray) (k : Nat) (h : a.size ≤ k ∨ b.size ≤ k) (ha : k ≤ a.size) (hb : k ≤ b.size) : cmpAt a b k = if a.size < b.size then -1 else if b.size < a.size then 1 else 0 := by
  unfold cmpAt
  have la : a.data.toList.length = a.size := by simp
  have lb : b.data.toList.length = b.size := by simp
  by_cases ex : a.size = k
  · rw [List.drop_eq_nil_of_le (by omega)]
    by_cases ey : b.size = k
    · rw [List.drop_eq_nil_of_le (by omega), if_neg (by omega), if_neg (by omega), Lib.compareBytes]
    · rw [drop_byte b k (by omega), Lib.compareBytes, if_pos (by omega)]
  · rw [show b.data.toList.drop k = [] from List.drop_eq_nil_of_le (by omega), drop_byte a k (by omega), Lib.compareBytes, if_neg (by omega), if_pos (by omega)]

set_option maxHeartbeats 1000000 in
set_option maxRecDepth 100000 in
theorem zzCmp (a b : ByteArray) (w : World) (la : a.size ≤ 1048576) (lb : b.size ≤ 1048576) :
    Calls Try.prog 8 #[.string a, .string b] w fun e w' => e = .returned (.int .i64 (Lib.compareBytes a.data.toList b.data.toList)) ∧ Below w.heap.size w w' := by
  have HT : Hid (cmpAt a b 0 = Lib.compareBytes a.data.toList b.data.toList) := rfl
  rw [← HT.out]
  clear HT
  by_cases hab : b.size < a.size
  · go_enter Try.func8, Try.ntmps8
    go_wp2
    go_loopw [6] (fun i wr => ∃ k : Nat, k ≤ b.size ∧ i = .int .i64 k ∧ Hid (cmpAt a b k = cmpAt a b 0) ∧ Below w.heap.size w wr) (fun i _ => b.size - (intOf i).toNat)
    case atStart => exact ⟨0, by omega, rfl, rfl, Below.refl _ _⟩
    case round =>
      obtain ⟨k, hk, rfl, hc, hb⟩ := hrel
      by_cases h1 : k < b.size
      · have h2 : k < a.size := by omega
        go_wp2
        go_region
        all_goals go_wp2
        · have hlt : a[k].toNat < b[k].toNat := by assumption
          go_ret
          exact ⟨ret_int (by rw [← hc.out]; exact (cmp_lt a b k (by omega) (by omega) hlt).symm), hb.drew⟩
        · have hge : ¬ a[k].toNat < b[k].toNat := by assumption
          go_region
          all_goals go_wp2
          · have hgt : b[k].toNat < a[k].toNat := by assumption
            go_ret
            exact ⟨ret_int (by rw [← hc.out]; exact (cmp_gt a b k (by omega) (by omega) hgt).symm), hb.drew.drew⟩
          · have hle : ¬ b[k].toNat < a[k].toNat := by assumption
            go_roundw
            case rel => exact ⟨k + 1, by omega, by go_num, (cmp_eq a b k (by omega) (by omega) hge hle).symm.trans hc, hb.drew.drew⟩
            case measure => simp [intOf]; omega
      · have hf := cmp_out a b k (by omega) (by omega) (by omega)
        rw [hc.out] at hf
        have HF : Hid (cmpAt a b 0 = if a.size < b.size then -1 else if b.size < a.size then 1 else 0) := hf
        clear hf hc
        go_wp2
        go_ret
        exact ⟨ret_int (by rw [HF.out, if_neg (by omega), if_pos (by omega)]), hb⟩
  · go_enter Try.func8, Try.ntmps8
    go_wp2
    go_loopw [6] (fun i wr => ∃ k : Nat, k ≤ a.size ∧ i = .int .i64 k ∧ Hid (cmpAt a b k = cmpAt a b 0) ∧ Below w.heap.size w wr) (fun i _ => a.size - (intOf i).toNat)
    case atStart => exact ⟨0, by omega, rfl, rfl, Below.refl _ _⟩
    case round =>
      obtain ⟨k, hk, rfl, hc, hb⟩ := hrel
      by_cases h1 : k < a.size
      · have h2 : k < b.size := by omega
        go_wp2
        go_region
        all_goals go_wp2
        · have hlt : a[k].toNat < b[k].toNat := by assumption
          go_ret
          exact ⟨ret_int (by rw [← hc.out]; exact (cmp_lt a b k (by omega) (by omega) hlt).symm), hb.drew⟩
        · have hge : ¬ a[k].toNat < b[k].toNat := by assumption
          go_region
          all_goals go_wp2
          · have hgt : b[k].toNat < a[k].toNat := by assumption
            go_ret
            exact ⟨ret_int (by rw [← hc.out]; exact (cmp_gt a b k (by omega) (by omega) hgt).symm), hb.drew.drew⟩
          · have hle : ¬ b[k].toNat < a[k].toNat := by assumption
            go_roundw
            case rel => exact ⟨k + 1, by omega, by go_num, (cmp_eq a b k (by omega) (by omega) hge hle).symm.trans hc, hb.drew.drew⟩
            case measure => simp [intOf]; omega
      · have hf := cmp_out a b k (by omega) (by omega) (by omega)
        rw [hc.out] at hf
        have HF : Hid (cmpAt a b 0 = if a.size < b.size then -1 else if b.size < a.size then 1 else 0) := hf
        clear hf hc
        by_cases hlt : a.size < b.size
        · go_wp2
          go_ret
          exact ⟨ret_int (by rw [HF.out, if_pos hlt]), hb⟩
        · go_wp2
          go_ret
          exact ⟨ret_int (by rw [HF.out, if_neg hlt, if_neg (by omega)]), hb⟩

#print axioms zzCmp
end Go.Proofs.Qxb6605700a
