/-
  What LawS1723ARest finds in memory where a hand-off was taken (MemB), and where the worker has rested (MemC). No walk in this text.
-/
import Derived.Test.YbulkaiquMem
namespace Go.Proofs.Ybulkaiqu.Mem
open Go.RowKit Go.Conc
open Go.Proofs.Ybulkaiqu.Sch Go.Proofs.Ybulkaiqu.Row

theorem wake_of {wr : World} {WB cb : Nat} (h : ∃ ws : Array Value, wr.heap[WB]? = some (.cells ws 56 (0, 0)) ∧ ws[0]? = some (.chan (some cb))) : wr.cell? ⟨WB, 0, none⟩ = some (.chan (some cb)) := by
  obtain ⟨ws, hW, hws⟩ := h
  exact (cell_of_row _ _ _ _ _ _ hW).trans hws

structure MemB (w wr : World) (PB SB HB WB cb gH MB b0 p0 nH : Nat) (bs : List Nat) : Prop where
  hr : ∀ (j : Nat) u, (ptrs bs).tail[j]? = some u → wr.cell? ⟨HB, j, none⟩ = some u
  cH : PRow wr gH 58 nH bs
  it : wr.heap[b0]? = some (.cells #[.pointer (some ⟨p0, 0, none⟩), .int .i64 2] 61 (0, 0))
  rest : ∀ x ∈ bs, x ≠ b0 → ∃ p : Nat, wr.heap[x]? = some (.cells #[.pointer (some ⟨p, 0, none⟩), .int .i64 1] 61 (0, 0))
  up : bs.Pairwise (· < ·)
  hb0 : bs[0]? = some b0
  wk : ∃ ws : Array Value, wr.heap[WB]? = some (.cells ws 56 (0, 0)) ∧ ws[0]? = some (.chan (some cb))
  ch : wr.heap[cb]? = some (.chan 1 #[.pointer (some ⟨MB, 0, none⟩)] false 1 0 false)
  ne : HB ≠ SB ∧ gH ≠ SB ∧ WB ≠ SB ∧ cb ≠ SB ∧ ∀ x ∈ bs, x ≠ SB
  lo : PB ≤ SB
  bel : Below PB w wr

variable {w wr wr' : World} {PB SB IB HB WB cb gI gH MB b0 p0 ni nh nI nH : Nat} {is bs : List Nat}

theorem MemB.set (m : MemB w wr PB SB HB WB cb gH MB b0 p0 nH bs) (i : Nat) (v : Value) : MemB w (wr.setCell ⟨SB, i, none⟩ v) PB SB HB WB cb gH MB b0 p0 nH bs := by
  obtain ⟨n1, n2, n3, n4, n5⟩ := m.ne
  obtain ⟨ws, hW, hws⟩ := m.wk
  have o : ∀ k, k ≠ SB → (wr.setCell ⟨SB, i, none⟩ v).heap[k]? = wr.heap[k]? := fun k hk => heap_setCell_other _ _ _ _ hk
  have hbm : b0 ∈ bs := List.mem_of_getElem? m.hb0
  refine ⟨fun j u hu => ?_, m.cH.of_block (o _ n2), (o _ (n5 _ hbm)).trans m.it, fun x hx hne => ?_, m.up, m.hb0, ⟨ws, (o _ n3).trans hW, hws⟩, (o _ n4).trans m.ch, m.ne, m.lo, m.bel.setCell m.lo _⟩
  · rw [World.cell?_of_block (w := wr) (o _ n1)]; exact m.hr j u hu
  · obtain ⟨p, h⟩ := m.rest x hx hne
    exact ⟨p, (o _ (n5 x hx)).trans h⟩
theorem MemB.drewN (m : MemB w wr PB SB HB WB cb gH MB b0 p0 nH bs) (q : Nat) : MemB w (wr.drewN q) PB SB HB WB cb gH MB b0 p0 nH bs :=
  ⟨m.hr, m.cH.of_block rfl, m.it, m.rest, m.up, m.hb0, m.wk, m.ch, m.ne, m.lo, below_drewN m.bel q⟩
theorem MemB.len0 (m : MemB w wr PB SB HB WB cb gH MB b0 p0 nH bs) : (Builtin.len_ #[51] 3 #[.chan (some cb)]).run Yba.prog wr = .ok (.int .i64 1) wr :=
  run_len_chan (P := Yba.prog) (w := wr) 51 3 Yba.underlying51 m.ch
theorem MemB.shifted (m : MemB w wr PB SB HB WB cb gH MB b0 p0 nH bs) {j x : Nat} (hj : bs[j + 1]? = some x) : wr.cell? ⟨HB, j, none⟩ = some (.pointer (some ⟨x, 0, none⟩)) :=
  m.hr j _ (by rw [List.getElem?_tail]; exact ptrs_get hj)
theorem MemB.stage (m : MemB w wr PB SB HB WB cb gH MB b0 p0 nH bs) {j x : Nat} (hj : bs[j + 1]? = some x) : wr.cell? ⟨x, 1, none⟩ = some (.int .i64 1) := by
  have h0 := List.getElem?_eq_some_iff.1 m.hb0
  have h1 := List.getElem?_eq_some_iff.1 hj
  obtain ⟨l0, e0⟩ := h0
  obtain ⟨l1, e1⟩ := h1
  have := List.pairwise_iff_getElem.1 m.up 0 (j + 1) l0 l1 (by omega)
  obtain ⟨p, h⟩ := m.rest x (List.mem_of_getElem? hj) (by omega)
  exact cell_of_row _ _ 1 _ _ _ h

/-- Behind restLocked's hand-off. -/
theorem Mem.taken {pv iv hv : Value} {mx th mu : Int} {st : Bool} (m : Mem w wr PB IB HB WB cb gI gH MB ni nh nI nH is bs) (s : Sch wr SB pv iv hv mx th mu st) (hSB : PB ≤ SB) (hb0 : bs[0]? = some b0)
    (R : ∀ (j : Nat) u, (ptrs bs).tail[j]? = some u → wr'.cell? ⟨HB, j, none⟩ = some u) (B : wr'.heap[b0]? = some (.cells #[.pointer (some ⟨p0, 0, none⟩), .int .i64 2] 61 (0, 0))) (k : Kept (fun k => k = SB ∨ k = HB ∨ k = b0) wr wr') :
    MemB w wr' PB SB HB WB cb gH MB b0 p0 nH bs := by
  obtain ⟨a1, a2, a3, a4, a5, a6, a7⟩ := m.apart s
  obtain ⟨ws, hW, hws⟩ := m.wk
  have hbm : b0 ∈ bs := List.mem_of_getElem? hb0
  obtain ⟨cH, hH, _⟩ := m.rH.it
  obtain ⟨_, p, hB⟩ := m.blk b0 hbm
  have x1 : gH ≠ b0 := fun e => by
    obtain ⟨cs, h0, _⟩ := m.cH.it
    rw [e, hB] at h0; simp at h0
  have x2 : WB ≠ HB := fun e => by rw [e, hH] at hW; simp at hW
  have x3 : WB ≠ b0 := fun e => by rw [e, hB] at hW; simp at hW
  have x4 : cb ≠ HB := fun e => by have := m.ch; rw [e, hH] at this; simp at this
  have x5 : cb ≠ b0 := fun e => by have := m.ch; rw [e, hB] at this; simp at this
  refine ⟨R, m.cH.of_block (k.block _ m.cH.lt (by simp [a4, m.neH, x1])), B, fun x hx hne => ?_, m.up, hb0, ⟨ws, (k.block _ (Array.getElem?_eq_some_iff.1 hW).1 (by simp [a5, x2, x3])).trans hW, hws⟩, (k.block _ (Array.getElem?_eq_some_iff.1 m.ch).1 (by simp [a6, x4, x5])).trans m.ch, ⟨a2, a4, a5, a6, a7⟩, hSB, Kept.below m.bel k (fun k e => ?_) m.sz⟩
  · obtain ⟨_, q, h⟩ := m.blk x hx
    have y1 : x ≠ HB := fun e => by rw [e, hH] at h; simp at h
    exact ⟨q, (k.block x (Array.getElem?_eq_some_iff.1 h).1 (by simp [a7 x hx, y1, hne])).trans h⟩
  · rcases e with rfl | rfl | rfl
    · exact hSB
    · exact m.lo.2.1
    · exact (m.blk _ hbm).1

structure MemC (w wr : World) (PB SB WB cb g gI ng nI : Nat) (is : List Nat) : Prop where
  rg : PRow wr g 50 ng (is ++ [WB])
  cI : PRow wr gI 50 nI is
  wk : ∃ ws : Array Value, wr.heap[WB]? = some (.cells ws 56 (0, 0)) ∧ ws[0]? = some (.chan (some cb))
  ch : wr.heap[cb]? = some (.chan 1 #[] false 1 1 false)
  ne : g ≠ SB ∧ gI ≠ SB ∧ WB ≠ SB ∧ cb ≠ SB
  lo : PB ≤ SB
  bel : Below PB w wr

variable {g ng : Nat}

theorem MemC.set (m : MemC w wr PB SB WB cb g gI ng nI is) (i : Nat) (v : Value) : MemC w (wr.setCell ⟨SB, i, none⟩ v) PB SB WB cb g gI ng nI is := by
  obtain ⟨n1, n2, n3, n4⟩ := m.ne
  obtain ⟨ws, hW, hws⟩ := m.wk
  have o : ∀ k, k ≠ SB → (wr.setCell ⟨SB, i, none⟩ v).heap[k]? = wr.heap[k]? := fun k hk => heap_setCell_other _ _ _ _ hk
  exact ⟨m.rg.of_block (o _ n1), m.cI.of_block (o _ n2), ⟨ws, (o _ n3).trans hW, hws⟩, (o _ n4).trans m.ch, m.ne, m.lo, m.bel.setCell m.lo _⟩
theorem MemC.drewN (m : MemC w wr PB SB WB cb g gI ng nI is) (q : Nat) : MemC w (wr.drewN q) PB SB WB cb g gI ng nI is :=
  ⟨m.rg.of_block rfl, m.cI.of_block rfl, m.wk, m.ch, m.ne, m.lo, below_drewN m.bel q⟩
theorem MemC.len0 (m : MemC w wr PB SB WB cb g gI ng nI is) : (Builtin.len_ #[51] 3 #[.chan (some cb)]).run Yba.prog wr = .ok (.int .i64 0) wr :=
  run_len_chan (P := Yba.prog) (w := wr) 51 3 Yba.underlying51 m.ch

/-- Behind restLocked's rest. -/
theorem Mem.rested {pv iv hv pv' iv' hv' : Value} {mx th mu mx' th' mu' : Int} {st st' : Bool} {cur : Array Value} (m : Mem w wr PB IB HB WB cb gI gH MB ni nh nI nH is bs) (s : Sch wr SB pv iv hv mx th mu st) (s' : Sch wr' SB pv' iv' hv' mx' th' mu' st') (hSB : PB ≤ SB)
    (hg : wr'.heap[g]? = some (.cells cur 50 (0, 0))) (hc : ∀ (j : Nat) u, (ptrs is ++ [.pointer (some ⟨WB, 0, none⟩)])[j]? = some u → cur[j]? = some u) (hch : wr'.heap[cb]? = some (.chan 1 #[] false 1 1 false)) (k : Kept (fun k => k = SB ∨ k = IB ∨ k = cb) wr wr') :
    MemC w wr' PB SB WB cb g gI cur.size nI is := by
  obtain ⟨a1, a2, a3, a4, a5, a6, a7⟩ := m.apart s
  obtain ⟨ws, hW, hws⟩ := m.wk
  obtain ⟨cs, hS, _⟩ := s'.it
  have x1 : gI ≠ cb := fun e => by
    obtain ⟨cs, h0, _⟩ := m.cI.it
    have := m.ch; rw [e] at h0; rw [h0] at this; simp at this
  have x2 : WB ≠ IB := fun e => by
    obtain ⟨cs, h0, _⟩ := m.rI.it
    rw [e, h0] at hW; simp at hW
  have x3 : WB ≠ cb := fun e => by have := m.ch; rw [e] at hW; rw [hW] at this; simp at this
  refine ⟨PRow.of_cur hg (fun j u hu => hc j u (by simpa [ptrs] using hu)), m.cI.of_block (k.block _ m.cI.lt (by simp [a3, m.neI, x1])), ⟨ws, (k.block _ (Array.getElem?_eq_some_iff.1 hW).1 (by simp [a5, x2, x3])).trans hW, hws⟩, hch, ⟨fun e => ?_, a3, a5, a6⟩, hSB, Kept.below m.bel k (fun k e => ?_) m.sz⟩
  · rw [e, hS] at hg; simp at hg
  · rcases e with rfl | rfl | rfl
    · exact hSB
    · exact m.lo.1
    · exact m.lo.2.2

end Go.Proofs.Ybulkaiqu.Mem
