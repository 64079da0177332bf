/-
  The contract of (*idSet).remove (35).
-/
import Derived.Test.Qxb6605954aBuild
namespace Go.Proofs.Qxb6605954a
open Go.RowKit
set_option linter.unusedVariables false

theorem ownsMap_tight {w : World} {b n : Nat} {D : DataW Unit} (h : w.ownsMap Try.prog 32 (plainElem Try.prog 3) b n D) : w.ownsMap Try.prog 32 (plainElem Try.prog 3) b (Maps.size D) D := by
  obtain ⟨es, clock, hb, F, hs, hD⟩ := h
  refine ⟨es, clock, hb, F, ?_, hD⟩
  rw [hD, Maps.size_eq, length_sorted]
  simp

/-- The set of ids in memory: the struct at ps, the ids' row g (room for n), the map m: they hold the list L. -/
structure St (w : World) (ps g n m : Nat) (L : List (List Value)) : Prop where
  c0 : w.cell? ⟨ps, 0, none⟩ = some (.slice (some ⟨g, 0, none⟩) L.length n)
  c1 : w.cell? ⟨ps, 1, none⟩ = some (.map (some m))
  fr : w.frozen? ⟨ps, 0, none⟩ = false
  row : RowR w g n L
  map : ∃ D, w.ownsMap Try.prog 32 (plainElem Try.prog 3) m L.length D ∧ Mp D L
  ne1 : ps ≠ g
  ne2 : ps ≠ m
  ne3 : g ≠ m

theorem St.of_heap {w w' : World} {ps g n m : Nat} {L : List (List Value)} (h : St w ps g n m L) (h1 : w'.heap[ps]? = w.heap[ps]?) (h2 : w'.heap[g]? = w.heap[g]?) (h3 : w'.heap[m]? = w.heap[m]?) (hs : w.heap.size ≤ w'.heap.size) : St w' ps g n m L where
  c0 := by rw [World.cell?_of_block (w := w) h1]; exact h.c0
  c1 := by rw [World.cell?_of_block (w := w) h1]; exact h.c1
  fr := by rw [World.frozen?_of_block (w := w) h1]; exact h.fr
  row := h.row.of_heap h2 hs
  map := by
    obtain ⟨D, ⟨es, clock, hb, r⟩, hmp⟩ := h.map
    exact ⟨D, ⟨es, clock, h3.trans hb, r⟩, hmp⟩
  ne1 := h.ne1
  ne2 := h.ne2
  ne3 := h.ne3

theorem St.lt {w : World} {ps g n m : Nat} {L : List (List Value)} (h : St w ps g n m L) : ps < w.heap.size ∧ g < w.heap.size ∧ m < w.heap.size := by
  obtain ⟨D, ho, _⟩ := h.map
  exact ⟨World.block_lt_of_cell? w _ h.c0, h.row.lt, ho.lt⟩

theorem look_run {w : World} {m n : Nat} {D : DataW Unit} {x : List Value} {l : Lit} {c : Int} (hown : w.ownsMap Try.prog 32 (plainElem Try.prog 3) m n D) (hl : KeyIs x l) (hat : D.atKey l (i64d 0) = i64d c) :
    (Instr.lookup 26 (.map (some m)) (.agg x.toArray) true).run Try.prog w = .ok (.tuple #[.int .i64 c, .bool (Maps.has D l)]) w := by
  obtain ⟨v, ps, hrun, hv⟩ := hown.look_ok law32 Try.underlying26 (zero3 w) (plainElem_int Try.underlying3 (by decide)) hl
  obtain ⟨c', rfl, hc, _⟩ := plainElem_int_inv Try.underlying3 hv
  have e : i64d c = i64d c' := hat.symm.trans (congrArg Prod.fst hc)
  have e2 : c = c' := by simpa using e
  rw [hrun, e2]

/-- Behind the box of x: what was there is there; the box holds x. -/
theorem boxed {w : World} {ps g n m : Nat} {L : List (List Value)} (hs : St w ps g n m L) (x : List Value) (W : World) (hW : W.heap = (w.alloc (.cells x.toArray 32)).heap) : St W ps g n m L ∧ W.rangeAt w.heap.size 0 x := by
  obtain ⟨hlp, hlg, hlm⟩ := hs.lt
  have hold : ∀ k, k < w.heap.size → W.heap[k]? = w.heap[k]? := fun k hk => by rw [hW]; exact Below.heap_alloc _ _ _ hk
  refine ⟨hs.of_heap (hold ps hlp) (hold g hlg) (hold m hlm) (by rw [hW]; simp), ?_⟩
  have hb : W.heap[w.heap.size]? = some (.cells x.toArray 32 (0, 0)) := by rw [hW]; exact heap_alloc_last w _
  intro j v hv
  rw [cell_of_row W _ _ _ _ _ hb]
  simpa using hv

/-- What region 1 reads. -/
def Reads1 (w : World) (ps m : Nat) (x : List Value) (c : Int) (r : Bool) (W : World) : Prop :=
  W.cell? ⟨ps, 1, none⟩ = some (.map (some m)) ∧ W.rangeAt w.heap.size 0 x ∧ (Instr.lookup 26 (.map (some m)) (.agg x.toArray) true).run Try.prog W = .ok (.tuple #[.int .i64 c, .bool r]) W

theorem reads1 {w : World} {ps g n m : Nat} {L : List (List Value)} {x : List Value} {l : Lit} {c : Int} (hs : St w ps g n m L) (hl : KeyIs x l) {D : DataW Unit} (hown : w.ownsMap Try.prog 32 (plainElem Try.prog 3) m L.length D) (hat : D.atKey l (i64d 0) = i64d c)
    (W : World) (hW : W.heap = (w.alloc (.cells x.toArray 32)).heap) : Reads1 w ps m x c (Maps.has D l) W := by
  obtain ⟨hst, hr⟩ := boxed hs x W hW
  obtain ⟨es, clock, hb, r⟩ := hown
  have ho : W.ownsMap Try.prog 32 (plainElem Try.prog 3) m L.length D := ⟨es, clock, by rw [hW]; exact (Below.heap_alloc _ _ _ hs.lt.2.2).trans hb, r⟩
  exact ⟨hst.c1, hr, look_run ho hl hat⟩

set_option maxHeartbeats 1000000 in
set_option maxRecDepth 100000 in
theorem remove_no (ps g n m : Nat) (L : List (List Value)) (x : List Value) (w : World) (hs : St w ps g n m L) (hx : IsId x) (hn : x ∉ L) :
    Calls Try.prog 35 #[.pointer (some ⟨ps, 0, none⟩), .agg x.toArray] w fun e w' => e = .returned (.bool false) ∧ St w' ps g n m L ∧ But (fun _ => False) w w' := by
  obtain ⟨D, hown, hmp⟩ := hs.map
  obtain ⟨l, hl⟩ := hx.key
  have hh : Maps.has D l = false := by
    cases e : Maps.has D l with
    | false => rfl
    | true => exact absurd ((hmp.has x l hl).1 e) hn
  have HR : Hid (∀ W : World, W.heap = (w.alloc (.cells x.toArray 32)).heap → Reads1 w ps m x 0 false W) := fun W hW => by
    have h := reads1 hs hl hown (Maps.atKey_of_not_has hh (i64d 0)) W hW
    rw [hh] at h
    exact h
  have HST : Hid (∀ W : World, W.heap = (w.alloc (.cells x.toArray 32)).heap → St W ps g n m L) := fun W hW => (boxed hs x W hW).1
  have hu := Try.underlying32
  have hi := hx.size32
  clear hh hown hmp hs
  go_enter Try.func35, Try.ntmps35
  go_wp2_with fail
  obtain ⟨s1, s2, s3⟩ := HR.out (w.alloc (.cells x.toArray 32)) rfl
  go_region_held3 (fun w' => w'.heap = (w.alloc (.cells x.toArray 32)).heap ∧ w'.cell? ⟨ps, 1, none⟩ = some (.map (some m)) ∧ w'.rangeAt w.heap.size 0 x ∧ (Instr.lookup 26 (.map (some m)) (.agg x.toArray) true).run Try.prog w' = .ok (.tuple #[.int .i64 0, .bool false]) w') ((first | exact ⟨rfl, HR.out _ rfl⟩ | (go_split_ands; have hq : (_ : World).heap = (w.alloc (.cells x.toArray 32)).heap := by assumption; exact ⟨hq, HR.out _ hq⟩))) (fail)
  go_wp2
  go_ret
  exact ⟨rfl, HST.out _ rfl, ((But.refl _ w).alloc _).drew⟩

/-- In the midst of remove: the box of x lies at w's end. -/
structure Mid (w : World) (ps g n m : Nat) (L : List (List Value)) (len : Nat) (D : DataW Unit) (cnt : Nat) (x : List Value) (W : World) : Prop where
  c0 : W.cell? ⟨ps, 0, none⟩ = some (.slice (some ⟨g, 0, none⟩) len n)
  c1 : W.cell? ⟨ps, 1, none⟩ = some (.map (some m))
  fr : W.frozen? ⟨ps, 0, none⟩ = false
  row : RowR W g n L
  own : W.ownsMap Try.prog 32 (plainElem Try.prog 3) m cnt D
  box : W.heap[w.heap.size]? = some (.cells x.toArray 32 (0, 0))
  but : But (fun k => k = ps ∨ k = g ∨ k = m) w W
  ltp : ps < w.heap.size
  ltg : g < w.heap.size
  ltm : m < w.heap.size
  ne1 : ps ≠ g
  ne2 : ps ≠ m
  ne3 : g ≠ m

theorem Mid.start {w : World} {ps g n m : Nat} {L : List (List Value)} {D : DataW Unit} {x : List Value} (hs : St w ps g n m L) (hown : w.ownsMap Try.prog 32 (plainElem Try.prog 3) m L.length D) : Mid w ps g n m L L.length D L.length x (w.alloc (.cells x.toArray 32)) := by
  obtain ⟨h1, h2⟩ := boxed hs x (w.alloc (.cells x.toArray 32)) rfl
  exact ⟨h1.c0, h1.c1, h1.fr, h1.row, hown.alloc _, heap_alloc_last w _, (But.refl _ w).alloc _, hs.lt.1, hs.lt.2.1, hs.lt.2.2, hs.ne1, hs.ne2, hs.ne3⟩

theorem Mid.drew {w : World} {ps g n m : Nat} {L : List (List Value)} {len : Nat} {D : DataW Unit} {cnt : Nat} {x : List Value} {W : World} (h : Mid w ps g n m L len D cnt x W) : Mid w ps g n m L len D cnt x W.drew :=
  ⟨h.c0, h.c1, h.fr, h.row.of_heap rfl (Nat.le_refl _), h.own, h.box, h.but.drew, h.ltp, h.ltg, h.ltm, h.ne1, h.ne2, h.ne3⟩

theorem Mid.store {w : World} {ps g n m : Nat} {L : List (List Value)} {len : Nat} {D : DataW Unit} {cnt : Nat} {x y : List Value} {W : World} {i : Nat} (h : Mid w ps g n m L len D cnt x W) (hy : IsId y) (hi : i < L.length) : Mid w ps g n m (L.set i y) len D cnt x (W.setCells g (i * 20) y) where
  c0 := by rw [World.cell?_of_block (w := W) (heap_setCells_other W g y _ ps h.ne1)]; exact h.c0
  c1 := by rw [World.cell?_of_block (w := W) (heap_setCells_other W g y _ ps h.ne1)]; exact h.c1
  fr := by rw [World.frozen?_of_block (w := W) (heap_setCells_other W g y _ ps h.ne1)]; exact h.fr
  row := h.row.store hy hi
  own := h.own.kept (grownBy_setCells _ _ _ _) (by simpa using h.ne3.symm)
  box := by rw [heap_setCells_other W g y _ _ (by have := h.ltg; omega)]; exact h.box
  but := h.but.setCells g _ (.inr (.inl rfl)) _
  ltp := h.ltp
  ltg := h.ltg
  ltm := h.ltm
  ne1 := h.ne1
  ne2 := h.ne2
  ne3 := h.ne3

theorem Mid.turn {w : World} {ps g n m : Nat} {L : List (List Value)} {len : Nat} {D D' : DataW Unit} {cnt cnt' : Nat} {x : List Value} {W W' : World} (h : Mid w ps g n m L len D cnt x W) (hg : W.grownBy W' (some m)) (ho : W'.ownsMap Try.prog 32 (plainElem Try.prog 3) m cnt' D') : Mid w ps g n m L len D' cnt' x W' := by
  have hlp : ps < W.heap.size := Nat.lt_of_lt_of_le h.ltp h.but.size
  have hp : W'.heap[ps]? = W.heap[ps]? := hg.block ps hlp (by simpa using h.ne2)
  have hgg : W'.heap[g]? = W.heap[g]? := hg.block g h.row.lt (by simpa using h.ne3)
  have hbx : w.heap.size < W.heap.size := (Array.getElem?_eq_some_iff.1 h.box).1
  exact ⟨by rw [World.cell?_of_block (w := W) hp]; exact h.c0, by rw [World.cell?_of_block (w := W) hp]; exact h.c1, by rw [World.frozen?_of_block (w := W) hp]; exact h.fr, h.row.of_heap hgg hg.size, ho,
    (hg.block _ hbx (by have := h.ltm; simp; omega)).trans h.box, h.but.grown hg (fun k hk => by cases hk; exact .inr (.inr rfl)), h.ltp, h.ltg, h.ltm, h.ne1, h.ne2, h.ne3⟩

theorem Mid.short {w : World} {ps g n m : Nat} {L : List (List Value)} {len : Nat} {D : DataW Unit} {cnt : Nat} {x : List Value} {W : World} (h : Mid w ps g n m L len D cnt x W) (k : Nat) : Mid w ps g n m L k D cnt x (W.setCell ⟨ps, 0, none⟩ (.slice (some ⟨g, 0, none⟩) k n)) where
  c0 := World.cell?_setCell_same _ _ _ h.c0
  c1 := by rw [World.cell?_setCell_other _ _ _ _ (by simp)]; exact h.c1
  fr := by rw [World.frozen?_setCell]; exact h.fr
  row := h.row.of_heap (Below.heap_setCell _ _ _ _ h.ne1.symm) (by simp [World.setCell])
  own := h.own.setCell (show m ≠ ps from h.ne2.symm) _
  box := by rw [Below.heap_setCell _ _ _ _ (by have := h.ltp; show w.heap.size ≠ ps; omega)]; exact h.box
  but := h.but.setCell _ (.inl rfl) _
  ltp := h.ltp
  ltg := h.ltg
  ltm := h.ltm
  ne1 := h.ne1
  ne2 := h.ne2
  ne3 := h.ne3

theorem Mid.rbox {w : World} {ps g n m : Nat} {L : List (List Value)} {len : Nat} {D : DataW Unit} {cnt : Nat} {x : List Value} {W : World} (h : Mid w ps g n m L len D cnt x W) : W.rangeAt w.heap.size 0 x := by
  intro j v hv
  rw [cell_of_row W _ _ _ _ _ h.box]
  simpa using hv

set_option maxHeartbeats 1000000 in
set_option maxRecDepth 100000 in
theorem remove_yes (ps g n m : Nat) (L : List (List Value)) (x y : List Value) (i last : Nat) (w : World) (hs : St w ps g n m L) (hx : IsId x) (hi0 : L[i]? = some x) (hy0 : L[last]? = some y) (hlast : L.length = last + 1) (hn : n ≤ 50000) :
    Calls Try.prog 35 #[.pointer (some ⟨ps, 0, none⟩), .agg x.toArray] w fun e w' => e = .returned (.bool true) ∧ St w' ps g n m (rem L i) ∧ But (fun k => k = ps ∨ k = g ∨ k = m) w w' := by
  obtain ⟨D, hown, hmp⟩ := hs.map
  obtain ⟨l, hl⟩ := hx.key
  have hy : IsId y := hmp.ids y (List.mem_of_getElem? hy0)
  obtain ⟨ly, hly⟩ := hy.key
  have hh : Maps.has D l = true := (hmp.has x l hl).2 (List.mem_of_getElem? hi0)
  have HR : Hid (∀ W : World, W.heap = (w.alloc (.cells x.toArray 32)).heap → Reads1 w ps m x i true W) := fun W hW => by
    have h := reads1 hs hl hown (hmp.pos i x l hi0 hl) W hW
    rw [hh] at h
    exact h
  have hil : i < L.length := (List.getElem?_eq_some_iff.1 hi0).1
  have hi1 : i < last + 1 := by omega
  have hi2 : last + 1 ≤ n := by have := hs.row.le; omega
  have HM0 : Hid (Mid w ps g n m L (last + 1) D (last + 1) x (w.alloc (.cells x.toArray 32))) := by
    have h := Mid.start (x := x) hs hown
    rw [hlast] at h
    exact h
  have HLEN : Hid (L.length = last + 1) := hlast
  have HI0 : Hid (L[i]? = some x) := hi0
  have HY0 : Hid (L[last]? = some y) := hy0
  have HMP : Hid (Mp D L) := hmp
  have hu := Try.underlying32
  have hi := hx.size32
  clear hh hown hmp hs hlast hil hi0 hy0
  go_enter Try.func35, Try.ntmps35
  go_wp2_with fail
  obtain ⟨s1, s2, s3⟩ := HR.out (w.alloc (.cells x.toArray 32)) rfl
  go_region_held3 (fun w' => w'.heap = (w.alloc (.cells x.toArray 32)).heap ∧ w'.cell? ⟨ps, 1, none⟩ = some (.map (some m)) ∧ w'.rangeAt w.heap.size 0 x ∧ (Instr.lookup 26 (.map (some m)) (.agg x.toArray) true).run Try.prog w' = .ok (.tuple #[.int .i64 i, .bool true]) w') ((first | exact ⟨rfl, HR.out _ rfl⟩ | (go_split_ands; have hq : (_ : World).heap = (w.alloc (.cells x.toArray 32)).heap := by assumption; exact ⟨hq, HR.out _ hq⟩))) (fail)
  clear s1 s2 s3 hi
  have HM1 : Hid (Mid w ps g n m L (last + 1) D (last + 1) x (w.alloc (.cells x.toArray 32)).drew) := HM0.out.drew
  have e0 := HM1.out.c0
  go_wp2
  have e1 : (w.alloc (.cells x.toArray 32)).drew.rangeAt g (last * 20) y := HM1.out.row.rng last y HY0.out
  have e2 : (w.alloc (.cells x.toArray 32)).drew.there g (i * 20) 20 := HM1.out.row.at (by omega)
  have ly0 := hy.len
  have K1 : Hid (∀ W : World, W.cell? ⟨ps, 0, none⟩ = some (.slice (some ⟨g, 0, none⟩) (last + 1) n) → W.rangeAt g (last * 20) y → W.there g (i * 20) 20 → W.drew.cell? ⟨ps, 0, none⟩ = some (.slice (some ⟨g, 0, none⟩) (last + 1) n) ∧ W.drew.rangeAt g (last * 20) y ∧ W.drew.there g (i * 20) 20) :=
    fun W a b c => ⟨a, b, c⟩
  have K2 : Hid (∀ W : World, W.cell? ⟨ps, 0, none⟩ = some (.slice (some ⟨g, 0, none⟩) (last + 1) n) → W.rangeAt g (last * 20) y → W.there g (i * 20) 20 → (W.setCells g (i * 20) y).cell? ⟨ps, 0, none⟩ = some (.slice (some ⟨g, 0, none⟩) (last + 1) n) ∧ (W.setCells g (i * 20) y).rangeAt g (last * 20) y ∧ (W.setCells g (i * 20) y).there g (i * 20) 20) :=
    fun W a b c => ⟨by rw [World.cell?_of_block (w := W) (heap_setCells_other W g y _ ps HM0.out.ne1)]; exact a, by
      by_cases e : i = last
      · subst e; exact World.rangeAt_setCells_same _ _ _ _ (by rw [hy.len]; exact c)
      · exact World.rangeAt_setCells_apart b _ _ _ (by rw [hy.len]; omega), World.there_setCells c _ _ _⟩
  have hi := hy.size32
  have hone := hy.one
  have il0 : (0 : Int) ≤ (i : Int) := by omega
  have il1 : (i : Int) < (last : Int) + 1 := by omega
  have il2 : (0 : Int) ≤ (last : Int) := by omega
  have il3 : (last : Int) < (last : Int) + 1 := by omega
  go_cut [] (fun wx => Mid w ps g n m (L.set i y) (last + 1) D (last + 1) x wx)
  case first =>
    go_region_held3 (fun w' => w'.cell? ⟨ps, 0, none⟩ = some (.slice (some ⟨g, 0, none⟩) (last + 1) n) ∧ w'.rangeAt g (last * 20) y ∧ w'.there g (i * 20) 20) ((first | exact ⟨e0, e1, e2⟩ | (go_split_ands; exact K1.out _ (by assumption) (by assumption) (by assumption)) | (go_split_ands; exact K2.out _ (by assumption) (by assumption) (by assumption)))) (fail)
    go_wp2
    go_meet
    case rel => exact HM1.out.drew.store hy (by rw [HLEN.out]; exact hi1)
  case rest =>
    have HM5 : Hid (Mid w ps g n m (L.set i y) (last + 1) D (last + 1) x wc) := hcut
    clear hcut e0 e1 e2 K1 K2 HM0 HM1 HR
    obtain ⟨W6, hrun6, hown6, hturn6⟩ := HM5.out.drew.own.store law32 Try.underlying26 (by unfold maxLen; omega) hly (plainElem_int (a := (i : Int)) Try.underlying3 (WalkArith.wf_i64 (by omega)))
    have HM6 : Hid (Mid w ps g n m (L.set i y) (last + 1) (D.put ly (i64d i)) (last + 1 + 1) x W6) := HM5.out.drew.turn hturn6.grown hown6
    clear hown6 hturn6
    have a0 := HM5.out.c0
    have a1 := HM5.out.c1
    have a2 : wc.rangeAt g (i * 20) y := HM5.out.row.rng i y (List.getElem?_set_self (by rw [HLEN.out]; exact hi1))
    have B0 : Hid (W6.cell? ⟨ps, 0, none⟩ = some (.slice (some ⟨g, 0, none⟩) (last + 1) n) ∧ W6.cell? ⟨ps, 1, none⟩ = some (.map (some m)) ∧ W6.rangeAt g (i * 20) y) := ⟨HM6.out.c0, HM6.out.c1, HM6.out.row.rng i y (List.getElem?_set_self (by rw [HLEN.out]; exact hi1))⟩
    have K1 : Hid (∀ W : World, W.cell? ⟨ps, 0, none⟩ = some (.slice (some ⟨g, 0, none⟩) (last + 1) n) → W.cell? ⟨ps, 1, none⟩ = some (.map (some m)) → W.rangeAt g (i * 20) y → W.drew.cell? ⟨ps, 0, none⟩ = some (.slice (some ⟨g, 0, none⟩) (last + 1) n) ∧ W.drew.cell? ⟨ps, 1, none⟩ = some (.map (some m)) ∧ W.drew.rangeAt g (i * 20) y) :=
      fun W a b c => ⟨a, b, c⟩
    go_wp2_with fail
    go_cut [] (fun wx => wx = W6)
    case first =>
      go_region_held3 (fun w' => w'.cell? ⟨ps, 0, none⟩ = some (.slice (some ⟨g, 0, none⟩) (last + 1) n) ∧ w'.cell? ⟨ps, 1, none⟩ = some (.map (some m)) ∧ w'.rangeAt g (i * 20) y) ((first | exact ⟨a0, a1, a2⟩ | exact B0.out | (go_split_ands; exact K1.out _ (by assumption) (by assumption) (by assumption)))) (fail)
      go_wp2
      go_meet
      case rel => rfl
    case rest =>
      subst hcut
      clear a0 a1 a2 B0 K1 HM5 hrun6 hi
      rename_i wold
      have hgn : RowR wc g n (L.set i y) := HM6.out.row
      have HM7 : Hid (Mid w ps g n m (L.set i y) last (D.put ly (i64d i)) (last + 1 + 1) x (wc.setCell ⟨ps, 0, none⟩ (.slice (some ⟨g, 0, none⟩) last n))) := HM6.out.short last
      have a0 := HM6.out.c0
      have a1 := HM6.out.fr
      have hn0 : ¬ n = 0 := by omega
      go_wp2
      clear a0 a1 hgn
      obtain ⟨W8, hrun8, hown8, hturn8⟩ := HM7.out.drew.own.drop law32 Try.underlying26 hl 0
      have HM8 : Hid (Mid w ps g n m (L.set i y) last ((D.put ly (i64d i)).del l) (last + 1 + 1) x W8) := HM7.out.drew.turn hturn8.grown hown8
      clear hown8 hturn8
      have a1 := HM7.out.c1
      have a2 := HM7.out.rbox
      have hi := hx.size32
      have B0 : Hid (W8.cell? ⟨ps, 1, none⟩ = some (.map (some m)) ∧ W8.rangeAt w.heap.size 0 x) := ⟨HM8.out.c1, HM8.out.rbox⟩
      have K1 : Hid (∀ W : World, W.cell? ⟨ps, 1, none⟩ = some (.map (some m)) → W.rangeAt w.heap.size 0 x → W.drew.cell? ⟨ps, 1, none⟩ = some (.map (some m)) ∧ W.drew.rangeAt w.heap.size 0 x) :=
        fun W a b => ⟨a, b⟩
      go_region_held3 (fun w' => w'.cell? ⟨ps, 1, none⟩ = some (.map (some m)) ∧ w'.rangeAt w.heap.size 0 x) ((first | exact ⟨a1, a2⟩ | exact B0.out | (go_split_ands; exact K1.out _ (by assumption) (by assumption)))) (fail)
      have elast : lastOf L = y := by
        have h := lastOf_get L (by rw [HLEN.out]; omega)
        rw [HLEN.out, Nat.add_sub_cancel, HY0.out] at h
        exact (Option.some.inj h).symm
      have erem : rem L i = (L.set i y).take last := by rw [rem, elast, HLEN.out, Nat.add_sub_cancel]
      have elen : (rem L i).length = last := by rw [rem_length L i (by rw [HLEN.out]; exact hi1), HLEN.out, Nat.add_sub_cancel]
      have hmp8 : Mp ((D.put ly (i64d i)).del l) (rem L i) := HMP.out.remove HI0.out hl (by rw [elast]; exact hly)
      have hfin : St W8 ps g n m (rem L i) := by
        refine ⟨by rw [elen]; exact HM8.out.c0, HM8.out.c1, HM8.out.fr, by rw [erem]; exact HM8.out.row.take last, ⟨_, ?_, hmp8⟩, HM8.out.ne1, HM8.out.ne2, HM8.out.ne3⟩
        rw [← hmp8.size]
        exact ownsMap_tight HM8.out.own
      have hbut := HM8.out.but
      clear elast erem elen hmp8 a1 a2 B0 K1 hrun8 hi
      go_wp2
      go_ret
      exact ⟨rfl, hfin, hbut⟩

/-- What remove leaves: it says whether x was there; if so x's slot is the last one's, the list shorter by one. -/
def RemPost (ps g n m : Nat) (L : List (List Value)) (x : List Value) (e : Ending) (w' : World) : Prop :=
  (∃ i, L[i]? = some x ∧ e = .returned (.bool true) ∧ St w' ps g n m (rem L i)) ∨ (x ∉ L ∧ e = .returned (.bool false) ∧ St w' ps g n m L)

theorem remove (ps g n m : Nat) (L : List (List Value)) (x : List Value) (w : World) (hs : St w ps g n m L) (hx : IsId x) (hn : n ≤ 50000) :
    Calls Try.prog 35 #[.pointer (some ⟨ps, 0, none⟩), .agg x.toArray] w fun e w' => RemPost ps g n m L x e w' ∧ But (fun k => k = ps ∨ k = g ∨ k = m) w w' := by
  by_cases h : x ∈ L
  · obtain ⟨i, hi⟩ := List.getElem?_of_mem h
    have hil : i < L.length := (List.getElem?_eq_some_iff.1 hi).1
    obtain ⟨last, hlast⟩ : ∃ last, L.length = last + 1 := ⟨L.length - 1, by omega⟩
    have hy := lastOf_get L (by omega)
    rw [hlast, Nat.add_sub_cancel] at hy
    exact (remove_yes ps g n m L x _ i last w hs hx hi hy hlast hn).mono fun e w' ⟨h1, h2, h3⟩ => ⟨.inl ⟨i, hi, h1, h2⟩, h3⟩
  · exact (remove_no ps g n m L x w hs hx h).mono fun e w' ⟨h1, h2, h3⟩ => ⟨.inr ⟨h, h1, h2⟩, h3.mono (fun k hk => hk.elim)⟩

theorem St.box {w : World} {ps g n m : Nat} {L : List (List Value)} (h : St w ps g n m L) (o : Obj) : St (w.alloc o) ps g n m L :=
  h.of_heap (Below.heap_alloc _ _ _ h.lt.1) (Below.heap_alloc _ _ _ h.lt.2.1) (Below.heap_alloc _ _ _ h.lt.2.2) (by simp)

set_option maxHeartbeats 400000 in
set_option maxRecDepth 100000 in
/-- ZZidSetRemove. -/
theorem zremove (ps g n m : Nat) (L : List (List Value)) (x : List Value) (w : World) (hs : St w ps g n m L) (hx : IsId x) (hn : n ≤ 50000) :
    Calls Try.prog 11 #[.pointer (some ⟨ps, 0, none⟩), .agg x.toArray] w fun e w' => RemPost ps g n m L x e w' ∧ But (fun k => k = ps ∨ k = g ∨ k = m) w w' := by
  have hC := remove ps g n m L x (w.alloc (.cells x.toArray 32)) (hs.box _) hx hn
  clear hs
  go_enter Try.func11, Try.ntmps11
  go_wp2_with (refine wpList_load_row rfl 32 (.tmp 3) rfl w.heap.size rfl 32 x.toArray (0, 0) _ (heap_alloc_last w _) Try.underlying32 rfl hx.size32 ?_)
  refine hC.mono ?_
  rintro e w2 ⟨hp, hb⟩
  have hb' : But (fun k => k = ps ∨ k = g ∨ k = m) w w2 := ((But.refl _ w).alloc _).trans hb
  clear hb hC
  rcases hp with ⟨i, h1, rfl, h2⟩ | ⟨h1, rfl, h2⟩
  · go_wp2
    go_ret
    exact ⟨.inl ⟨i, h1, rfl, h2⟩, hb'⟩
  · go_wp2
    go_ret
    exact ⟨.inr ⟨h1, rfl, h2⟩, hb'⟩

#print axioms zremove
end Go.Proofs.Qxb6605954a
