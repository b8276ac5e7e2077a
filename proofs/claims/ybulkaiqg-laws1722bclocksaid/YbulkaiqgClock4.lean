import Derived.Test.YbulkaiqgClock3
namespace Go.Proofs.Ybulkaiqg.Clock
open Go.RowKit

/-- Block b is a time. -/
def Is3 (w : World) (b : Nat) (W E : Int) : Prop := w.heap[b]? = some (.cells #[.int .u64 W, .int .i64 E, .pointer none] 35 (0, 0))

theorem Is3.cells {w : World} {b : Nat} {W E : Int} (h : Is3 w b W E) : w.cell? ⟨b, 0, none⟩ = some (.int .u64 W) ∧ w.cell? ⟨b, 1, none⟩ = some (.int .i64 E) ∧ w.cell? ⟨b, 2, none⟩ = some (.pointer none) :=
  ⟨cell_of_row w b 0 _ _ _ h, cell_of_row w b 1 _ _ _ h, cell_of_row w b 2 _ _ _ h⟩

theorem Is3.free {w : World} {b : Nat} {W E : Int} (h : Is3 w b W E) : w.frozen? ⟨b, 0, none⟩ = false ∧ w.frozen? ⟨b, 1, none⟩ = false ∧ w.frozen? ⟨b, 2, none⟩ = false :=
  ⟨frozen_of_row w b 0 _ _ h, frozen_of_row w b 1 _ _ h, frozen_of_row w b 2 _ _ h⟩

theorem Is3.lt {w : World} {b : Nat} {W E : Int} (h : Is3 w b W E) : b < w.heap.size := (Array.getElem?_eq_some_iff.1 h).1

theorem Is3.below {w w' : World} {b B : Nat} {W E : Int} (h : Is3 w b W E) (hb : Below B w w') (hl : b < B) : Is3 w' b W E := (hb.block b hl).trans h

theorem Is3.set {w : World} {b : Nat} {W E : Int} (h : Is3 w b W E) (W' E' : Int) : Is3 (((w.setCell ⟨b, 0, none⟩ (.int .u64 W')).setCell ⟨b, 1, none⟩ (.int .i64 E')).setCell ⟨b, 2, none⟩ (.pointer none)) b W' E' :=
  heap_setCell_same _ b 2 _ _ _ (heap_setCell_same _ b 1 _ _ _ (heap_setCell_same w b 0 _ _ _ h))

theorem Is3.other {w : World} {b c : Nat} {W E : Int} (h : Is3 w b W E) (hne : b ≠ c) (v0 v1 v2 : Value) : Is3 (((w.setCell ⟨c, 0, none⟩ v0).setCell ⟨c, 1, none⟩ v1).setCell ⟨c, 2, none⟩ v2) b W E := by
  unfold Is3
  rw [heap_setCell_other _ _ _ _ hne, heap_setCell_other _ _ _ _ hne, heap_setCell_other _ _ _ _ hne]; exact h

theorem below_set3 {B : Nat} {a w : World} (h : Below B a w) {c : Nat} (hc : B ≤ c) (v0 v1 v2 : Value) : Below B a (((w.setCell ⟨c, 0, none⟩ v0).setCell ⟨c, 1, none⟩ v1).setCell ⟨c, 2, none⟩ v2) :=
  ((h.setCell hc _).setCell hc _).setCell hc _

set_option maxHeartbeats 1000000 in
set_option maxRecDepth 100000 in
theorem start_any (k n : Int) (w : World) (hk0 : 0 ≤ k) (hk1 : k ≤ 255) :
    Calls Yba.prog 11 #[.int .u8 k, .int .i64 n] w fun e w' => ∃ W E : Int, e = .returned (.agg #[.int .u64 W, .int .i64 E, .pointer none]) ∧ 0 ≤ W ∧ W < 1000000000 ∧ Below w.heap.size w w' := by
  have hm : 0 ≤ k % 9 ∧ k % 9 < 9 := by omega
  have hm1 := hm.1
  have hm2 := hm.2
  clear hm
  go_enter Yba.func11, Yba.ntmps11
  go_wp2
  go_loopw [7] (fun i wr => ∃ (j : Nat) (W E : Int), (j : Int) ≤ k % 9 ∧ i = .int .i64 j ∧ 0 ≤ W ∧ W < 1000000000 ∧ Is3 wr w.heap.size 0 0 ∧ Is3 wr (w.heap.size + 1) W E ∧ Below w.heap.size w wr) (fun i _ => 9 - (intOf i).toNat)
  case atStart => exact ⟨0, 0, 0, by omega, rfl, by omega, by omega, heap_alloc2_old _ _ _, heap_alloc2_new _ _ _, ((Below.refl _ _).alloc (Nat.le_refl _) _).alloc (by simp) _⟩
  case round =>
    obtain ⟨j, W, E, hj, rfl, hW0, hW1, h1, h2, hb⟩ := hrel
    have q := h2.cells
    have q0 := q.1
    have q1 := q.2.1
    have q2 := q.2.2
    have hsz := h2.lt
    clear q
    by_cases hlt : (j : Int) < k % 9
    · go_wp2_with fail
      refine (add_any W E _ _ hW0 hW1).mono ?_
      rintro e w1 ⟨W', E', rfl, hW0', hW1', hb1⟩
      have g1 := h1.below hb1 (by omega)
      have g2 := h2.below hb1 hsz
      have p0 := g2.cells.1
      have p1 := g2.cells.2.1
      have p2 := g2.cells.2.2
      have f0 := g2.free.1
      have f1 := g2.free.2.1
      have f2 := g2.free.2.2
      go_wp2
      go_roundw
      case rel => exact ⟨j + 1, W', E', by omega, by go_num, hW0', hW1', g1.other (by omega) _ _ _, g2.set _ _, below_set3 (hb.trans (hb1.mono (by omega))) (by omega) _ _ _⟩
      case measure => simp [intOf]; omega
    · go_wp2_with fail
      refine (add_any W E _ _ hW0 hW1).mono ?_
      rintro e w1 ⟨W', E', rfl, hW0', hW1', hb1⟩
      have g1 := h1.below hb1 (by omega)
      have p0 := g1.cells.1
      have p1 := g1.cells.2.1
      have p2 := g1.cells.2.2
      have f0 := g1.free.1
      have f1 := g1.free.2.1
      have f2 := g1.free.2.2
      go_wp2
      have z := (g1.set W' E').cells
      have z0 := z.1
      have z1 := z.2.1
      have z2 := z.2.2
      refine bodyPost_ret (v := .agg #[.int .u64 W', .int .i64 E', .pointer none]) (by simp [results, Yba.results11, go_sem, z0, z1, z2]) rfl ⟨W', E', rfl, hW0', hW1', ?_⟩
      exact below_set3 (hb.trans (hb1.mono (by omega))) (Nat.le_refl _) _ _ _
#print axioms start_any
end Go.Proofs.Ybulkaiqg.Clock
