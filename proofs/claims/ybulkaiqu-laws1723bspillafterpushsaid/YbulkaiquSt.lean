/-
  The run queue, the row of tasks and the tasks in memory (LawS1723BSpillAfterPush), and what each step does to them. No walk in this text.
-/
import Derived.Test.YbulkaiquPush
import Derived.Deep.Draws
namespace Go.Proofs.Ybulkaiqu.Ring
open Go.RowKit

/-- Block qb is the queue (head H, tail T; the task counted h + j lies in its place), block R the row of the tasks, each of the blocks ts a task. -/
structure St (w wr : World) (qb R h H T : Nat) (ts : List Nat) : Prop where
  q : ∃ cs : Array Value, wr.heap[qb]? = some (.cells cs 37 (0, 0)) ∧ cs.size = 258 ∧ cs[0]? = some (.int .u32 H) ∧ cs[1]? = some (.int .u32 T) ∧ ∀ j b : Nat, ts[j]? = some b → cs[2 + (h + j) % 256]? = some (.pointer (some ⟨b, 0, none⟩))
  r : ∃ rs : Array Value, wr.heap[R]? = some (.cells rs 25 (0, 0)) ∧ rs.size = 256 ∧ ∀ j b : Nat, ts[j]? = some b → rs[j]? = some (.pointer (some ⟨b, 0, none⟩))
  t : ∀ b ∈ ts, wr.heap[b]? = some (.cells taskZ 105 (0, 0))
  bel : Below w.heap.size w wr
  lo : w.heap.size ≤ qb ∧ w.heap.size ≤ R

variable {w wr : World} {qb R h H T : Nat} {ts : List Nat}

theorem St.head (k : St w wr qb R h H T ts) : wr.cell? ⟨qb, 0, none⟩ = some (.int .u32 H) := by
  obtain ⟨cs, h1, _, h2, _⟩ := k.q
  rw [cell_of_row _ _ _ _ _ _ h1]; exact h2
theorem St.tail (k : St w wr qb R h H T ts) : wr.cell? ⟨qb, 1, none⟩ = some (.int .u32 T) := by
  obtain ⟨cs, h1, _, _, h2, _⟩ := k.q
  rw [cell_of_row _ _ _ _ _ _ h1]; exact h2
theorem St.free (k : St w wr qb R h H T ts) (i : Nat) : wr.frozen? ⟨qb, i, none⟩ = false := by
  obtain ⟨cs, h1, _⟩ := k.q
  exact frozen_of_row _ _ _ _ _ h1
theorem St.rfree (k : St w wr qb R h H T ts) (i : Nat) : wr.frozen? ⟨R, i, none⟩ = false := by
  obtain ⟨cs, h1, _⟩ := k.r
  exact frozen_of_row _ _ _ _ _ h1
theorem St.ring (k : St w wr qb R h H T ts) {j b : Nat} (hj : ts[j]? = some b) : wr.cell? ⟨qb, 2 + (h + j) % 256, none⟩ = some (.pointer (some ⟨b, 0, none⟩)) := by
  obtain ⟨cs, h1, _, _, _, h2⟩ := k.q
  rw [cell_of_row _ _ _ _ _ _ h1]; exact h2 j b hj
theorem St.slot (k : St w wr qb R h H T ts) (i : Nat) (hi : i < 256) : ∃ u, wr.cell? ⟨qb, 2 + i, none⟩ = some u := by
  obtain ⟨cs, h1, hs, _⟩ := k.q
  rw [cell_of_row _ _ _ _ _ _ h1, Array.getElem?_eq_getElem (by omega)]
  exact ⟨_, rfl⟩
theorem St.row (k : St w wr qb R h H T ts) {j b : Nat} (hj : ts[j]? = some b) : wr.cell? ⟨R, j, none⟩ = some (.pointer (some ⟨b, 0, none⟩)) := by
  obtain ⟨rs, h1, _, h2⟩ := k.r
  rw [cell_of_row _ _ _ _ _ _ h1]; exact h2 j b hj
theorem St.rslot (k : St w wr qb R h H T ts) (i : Nat) (hi : i < 256) : ∃ u, wr.cell? ⟨R, i, none⟩ = some u := by
  obtain ⟨rs, h1, hs, _⟩ := k.r
  rw [cell_of_row _ _ _ _ _ _ h1, Array.getElem?_eq_getElem (by omega)]
  exact ⟨_, rfl⟩
theorem St.task (k : St w wr qb R h H T ts) {j b : Nat} (hj : ts[j]? = some b) : wr.heap[b]? = some (.cells taskZ 105 (0, 0)) := k.t b (List.mem_of_getElem? hj)
theorem St.ne (k : St w wr qb R h H T ts) : qb ≠ R := by
  obtain ⟨cs, h1, _⟩ := k.q
  obtain ⟨rs, h2, _⟩ := k.r
  intro e; subst e; rw [h1] at h2; simp at h2
theorem St.neq (k : St w wr qb R h H T ts) {b : Nat} (hb : wr.heap[b]? = some (.cells taskZ 105 (0, 0))) : b ≠ qb ∧ b ≠ R := by
  obtain ⟨cs, h1, _⟩ := k.q
  obtain ⟨rs, h2, _⟩ := k.r
  exact ⟨fun e => by subst e; rw [h1] at hb; simp at hb, fun e => by subst e; rw [h2] at hb; simp at hb⟩
theorem St.lt (k : St w wr qb R h H T ts) : qb < wr.heap.size ∧ R < wr.heap.size := by
  obtain ⟨cs, h1, _⟩ := k.q
  obtain ⟨rs, h2, _⟩ := k.r
  exact ⟨(Array.getElem?_eq_some_iff.1 h1).1, (Array.getElem?_eq_some_iff.1 h2).1⟩

theorem St.drewN (k : St w wr qb R h H T ts) (n : Nat) : St w (wr.drewN n) qb R h H T ts := ⟨k.q, k.r, k.t, below_drewN k.bel n, k.lo⟩

/-- head is moved. -/
theorem St.setHead (k : St w wr qb R h H T ts) (H' : Nat) : St w (wr.setCell ⟨qb, 0, none⟩ (.int .u32 H')) qb R h H' T ts := by
  obtain ⟨cs, h1, hs, h2, h3, h4⟩ := k.q
  obtain ⟨rs, r1, r2, r3⟩ := k.r
  refine ⟨⟨_, heap_setCell_same _ _ _ _ _ _ h1, by simpa using hs, ?_, ?_, fun j b hj => ?_⟩, ⟨rs, ?_, r2, r3⟩, fun b hb => ?_, k.bel.setCell k.lo.1 _, k.lo⟩
  · rw [Array.getElem?_setIfInBounds_self_of_lt (by omega)]
  · rw [Array.getElem?_setIfInBounds_ne (by omega)]; exact h3
  · rw [Array.getElem?_setIfInBounds_ne (by omega)]; exact h4 j b hj
  · rw [heap_setCell_other _ _ _ _ (by simpa using k.ne.symm)]; exact r1
  · rw [heap_setCell_other _ _ _ _ (by simpa using (k.neq (k.t b hb)).1)]; exact k.t b hb

/-- A new task is laid into the row. -/
theorem St.put (k : St w wr qb R h H T ts) (hl : ts.length < 256) :
    St w ((wr.setCell ⟨R, ts.length, none⟩ (.pointer (some ⟨wr.heap.size, 0, none⟩))).alloc (.cells taskZ 105)) qb R h H T ts
    ∧ ((wr.setCell ⟨R, ts.length, none⟩ (.pointer (some ⟨wr.heap.size, 0, none⟩))).alloc (.cells taskZ 105)).heap[wr.heap.size]? = some (.cells taskZ 105 (0, 0))
    ∧ ((wr.setCell ⟨R, ts.length, none⟩ (.pointer (some ⟨wr.heap.size, 0, none⟩))).alloc (.cells taskZ 105)).cell? ⟨R, ts.length, none⟩ = some (.pointer (some ⟨wr.heap.size, 0, none⟩)) := by
  obtain ⟨cs, h1, hs, h2, h3, h4⟩ := k.q
  obtain ⟨rs, r1, r2, r3⟩ := k.r
  have hlt := k.lt
  have old : ∀ b, b < wr.heap.size → b ≠ R → ((wr.setCell ⟨R, ts.length, none⟩ (.pointer (some ⟨wr.heap.size, 0, none⟩))).alloc (.cells taskZ 105)).heap[b]? = wr.heap[b]? := fun b hb hne => by
    rw [heap_alloc_old _ _ (by simpa using hb), heap_setCell_other _ _ _ _ hne]
  have row : ((wr.setCell ⟨R, ts.length, none⟩ (.pointer (some ⟨wr.heap.size, 0, none⟩))).alloc (.cells taskZ 105)).heap[R]? = some (.cells (rs.setIfInBounds ts.length (.pointer (some ⟨wr.heap.size, 0, none⟩))) 25 (0, 0)) := by
    rw [heap_alloc_old _ _ (by simpa using hlt.2)]
    exact heap_setCell_same _ _ _ _ _ _ r1
  refine ⟨⟨⟨cs, (old _ hlt.1 k.ne).trans h1, hs, h2, h3, h4⟩, ⟨_, row, by simpa using r2, fun j b hj => ?_⟩, fun b hb => ?_, ?_, k.lo⟩, ?_, ?_⟩
  · have : j < ts.length := (List.getElem?_eq_some_iff.1 hj).1
    rw [Array.getElem?_setIfInBounds_ne (by omega)]; exact r3 j b hj
  · have hb' := k.t b hb
    exact (old _ (Array.getElem?_eq_some_iff.1 hb').1 (k.neq hb').2).trans hb'
  · exact (k.bel.setCell k.lo.2 _).alloc (by simpa using k.bel.size) _
  · have := heap_alloc_new (wr.setCell ⟨R, ts.length, none⟩ (.pointer (some ⟨wr.heap.size, 0, none⟩))) (.cells taskZ 105)
    simpa using this
  · rw [cell_of_row _ _ _ _ _ _ row, Array.getElem?_setIfInBounds_self_of_lt (by omega)]

/-- The new task is pushed. -/
theorem St.push (k : St w wr qb R h H T ts) (hl : ts.length < 256) (hT : T = (h + ts.length) % 4294967296) {nb : Nat} (hn : wr.heap[nb]? = some (.cells taskZ 105 (0, 0))) (hr : wr.cell? ⟨R, ts.length, none⟩ = some (.pointer (some ⟨nb, 0, none⟩))) :
    St w ((wr.setCell ⟨qb, 2 + T % 256, none⟩ (.pointer (some ⟨nb, 0, none⟩))).setCell ⟨qb, 1, none⟩ (.int .u32 (((T : Int) + 1) % 4294967296))) qb R h H ((h + ts.length + 1) % 4294967296) (ts ++ [nb]) := by
  obtain ⟨cs, h1, hs, h2, h3, h4⟩ := k.q
  obtain ⟨rs, r1, r2, r3⟩ := k.r
  rw [cell_of_row _ _ _ _ _ _ r1] at hr
  have hidx : T % 256 = (h + ts.length) % 256 := by omega
  have hT' : (((T : Int) + 1) % 4294967296) = (((h + ts.length + 1) % 4294967296 : Nat) : Int) := by omega
  rw [hidx, hT']
  have get : ∀ j b : Nat, (ts ++ [nb])[j]? = some b → (j < ts.length ∧ ts[j]? = some b) ∨ (j = ts.length ∧ b = nb) := fun j b hj => by
    by_cases hlt : j < ts.length
    · rw [List.getElem?_append_left hlt] at hj
      exact .inl ⟨hlt, hj⟩
    · rw [List.getElem?_append_right (by omega)] at hj
      have : j - ts.length = 0 := by
        rcases Nat.eq_zero_or_pos (j - ts.length) with e | e
        · exact e
        · rw [List.getElem?_eq_none (by simp; omega)] at hj; cases hj
      rw [this] at hj
      exact .inr ⟨by omega, by simpa using hj.symm⟩
  refine ⟨⟨_, heap_setCell_same _ _ _ _ _ _ (heap_setCell_same _ _ _ _ _ _ h1), by simpa using hs, ?_, ?_, fun j b hj => ?_⟩, ⟨rs, ?_, r2, fun j b hj => ?_⟩, fun b hb => ?_, (k.bel.setCell k.lo.1 _).setCell k.lo.1 _, k.lo⟩
  · rw [Array.getElem?_setIfInBounds_ne (by omega), Array.getElem?_setIfInBounds_ne (by omega)]; exact h2
  · rw [Array.getElem?_setIfInBounds_self_of_lt (by simp; omega)]
  · rw [Array.getElem?_setIfInBounds_ne (by omega)]
    rcases get j b hj with ⟨hlt, hj'⟩ | ⟨rfl, rfl⟩
    · rw [Array.getElem?_setIfInBounds_ne (by omega)]; exact h4 j b hj'
    · rw [Array.getElem?_setIfInBounds_self_of_lt (by omega)]
  · rw [heap_setCell_other _ _ _ _ (by simpa using k.ne.symm), heap_setCell_other _ _ _ _ (by simpa using k.ne.symm)]; exact r1
  · rcases get j b hj with ⟨hlt, hj'⟩ | ⟨rfl, rfl⟩
    · exact r3 j b hj'
    · exact hr
  · have hb' : wr.heap[b]? = some (.cells taskZ 105 (0, 0)) := by
      rcases List.mem_append.1 hb with h | h
      · exact k.t b h
      · have : b = nb := by simpa using h
        rw [this]; exact hn
    rw [heap_setCell_other _ _ _ _ (by simpa using (k.neq hb').1), heap_setCell_other _ _ _ _ (by simpa using (k.neq hb').1)]; exact hb'

end Go.Proofs.Ybulkaiqu.Ring
