/-
  LawS1723CDistinct: the groups made so far, in memory; what one more does to them; what two of them are to each other.
-/
import Derived.Test.YbulkaiquGroup
import Derived.Deep.Draws
namespace Go.Proofs.Ybulkaiqu.Many
open Go.RowKit
open Go.Proofs.Ybulkaiqu.Group

theorem own_below {w w' : World} {B e size n : Nat} {v : Value} {xs : List Value} (h : w.ownsRow B e size v n xs) (hb : Below w.heap.size w w') : w'.ownsRow B e size v n xs :=
  h.kept (row := some w.heap.size) ⟨hb.os, hb.tape, hb.output, hb.size, fun k hk _ => hb.block k hk⟩ (by
    rcases h.2 with ⟨rfl, _⟩ | ⟨g, cap, cur, rfl, _, hg, _⟩
    · exact .inl rfl
    · refine .inr ?_
      have := (Array.getElem?_eq_some_iff.1 hg).1
      simp [Value.ownBlock]; omega)

/-- The groups at the blocks fs (each with its condition variable in the next block), their pointers in the row at block R. -/
structure Inv (w wr : World) (sa : Addr) (R k : Nat) (fs : List Nat) : Prop where
  len : fs.length = k
  own : wr.ownsRow R 103 1 (.slice (some ⟨R, 0, none⟩) k 8) k (fs.map fun a => .pointer (some ⟨a, 0, none⟩))
  pw : fs.Pairwise (fun a b => a + 1 < b)
  fr : ∀ a ∈ fs, R < a ∧ a + 1 < wr.heap.size ∧ Fresh wr sa a (a + 1)
  bel : Below w.heap.size w wr
  hR : w.heap.size < R ∧ R < wr.heap.size

theorem Inv.step {w wr w1 w3 : World} {sa : Addr} {R k : Nat} {fs : List Nat} {o : Obj} (h : Inv w wr sa R k fs) (hf : Fresh w1 sa wr.heap.size (wr.heap.size + 1)) (hb : Below wr.heap.size wr w1) (hs : w1.heap.size = wr.heap.size + 2)
    (hg : (w1.alloc o).grownBy w3 (some R)) (ho : w3.ownsRow R 103 1 (.slice (some ⟨R, 0, none⟩) (k + 1) 8) (k + 1) ((fs.map fun a => .pointer (some ⟨a, 0, none⟩)) ++ [.pointer (some ⟨wr.heap.size, 0, none⟩)])) :
    Inv w w3 sa R (k + 1) (fs ++ [wr.heap.size]) := by
  have hsz : w1.heap.size + 1 ≤ w3.heap.size := by have := hg.size; simp at this; exact this
  have blk : ∀ b, b < w1.heap.size → b ≠ R → w3.heap[b]? = w1.heap[b]? := fun b h1 h2 => by
    rw [hg.block b (by simp; omega) (by simpa using h2)]
    exact Below.heap_alloc _ _ _ h1
  have hR := h.hR
  refine ⟨by simp [h.len], by simpa using ho, ?_, ?_, ?_, ⟨hR.1, by omega⟩⟩
  · rw [List.pairwise_append]
    exact ⟨h.pw, by simp, fun a ha b hb' => by have := (h.fr a ha).2.1; simp at hb'; omega⟩
  · intro a ha
    rcases List.mem_append.1 ha with ha | ha
    · obtain ⟨h1, h2, h3⟩ := h.fr a ha
      have h4 := h3.below hb (by omega) h2
      exact ⟨h1, by omega, ⟨(blk _ (by omega) (by omega)).trans h4.g, (blk _ (by omega) (by omega)).trans h4.c⟩⟩
    · have ha : a = wr.heap.size := by simpa using ha
      subst ha
      exact ⟨by omega, by omega, ⟨(blk _ (by omega) (by omega)).trans hf.g, (blk _ (by omega) (by omega)).trans hf.c⟩⟩
  · refine (h.bel.trans (hb.mono h.bel.size)).trans ?_
    exact ((Below.refl _ w1).alloc (by have := h.bel.size; omega) o).grown hg (by simp; have := h.bel.size; omega) (fun k e => by cases e; omega)

theorem Inv.drewN {w wr : World} {sa : Addr} {R k : Nat} {fs : List Nat} (h : Inv w wr sa R k fs) (n : Nat) : Inv w (wr.drewN n) sa R k fs :=
  ⟨h.len, h.own, h.pw, fun a ha => ⟨(h.fr a ha).1, (h.fr a ha).2.1, ⟨(h.fr a ha).2.2.g, (h.fr a ha).2.2.c⟩⟩, below_drewN h.bel n, h.hR⟩

/-- What the double loop asks of the groups at places i < j. -/
theorem Inv.pair {w wr : World} {sa : Addr} {R k : Nat} {fs : List Nat} (h : Inv w wr sa R k fs) {i j : Nat} (hij : i < j) (hj : j < k) :
    ∃ a b : Nat, (wr.cell? ⟨R, i, none⟩ = some (.pointer (some ⟨a, 0, none⟩)) ∧ wr.cell? ⟨R, j, none⟩ = some (.pointer (some ⟨b, 0, none⟩))) ∧ a + 1 < b ∧
      (wr.cell? ⟨a, 7, none⟩ = some (.pointer (some ⟨a + 1, 0, none⟩)) ∧ wr.cell? ⟨b, 7, none⟩ = some (.pointer (some ⟨b + 1, 0, none⟩))) ∧
      (wr.cell? ⟨a + 1, 0, none⟩ = some (.iface 120 (.pointer (some ⟨a, 2, none⟩))) ∧ wr.cell? ⟨b + 1, 0, none⟩ = some (.iface 120 (.pointer (some ⟨b, 2, none⟩)))) ∧
      (∀ n, (binOp .eql 103 (.pointer (some ⟨a, 0, none⟩)) (.pointer (some ⟨b, 0, none⟩))).run Yba.prog (wr.drewN n) = .ok (.bool false) (wr.drewN n)) ∧
      (∀ n, (binOp .eql 117 (.pointer (some ⟨a + 1, 0, none⟩)) (.pointer (some ⟨b + 1, 0, none⟩))).run Yba.prog (wr.drewN n) = .ok (.bool false) (wr.drewN n)) ∧
      (∀ n, (binOp .eql 82 (.iface 120 (.pointer (some ⟨a, 2, none⟩))) (.iface 120 (.pointer (some ⟨b, 2, none⟩)))).run Yba.prog (wr.drewN n) = .ok (.bool false) (wr.drewN n)) := by
  have hl := h.len
  have hi' : i < fs.length := by omega
  have hj' : j < fs.length := by omega
  have hp := List.pairwise_iff_getElem.1 h.pw i j hi' hj' hij
  obtain ⟨_, _, f1⟩ := h.fr fs[i] (List.getElem_mem hi')
  obtain ⟨_, _, f2⟩ := h.fr fs[j] (List.getElem_mem hj')
  have ci := h.own.cellAt i (by omega)
  have cj := h.own.cellAt j (by omega)
  rw [List.getElem?_map, List.getElem?_eq_getElem hi'] at ci
  rw [List.getElem?_map, List.getElem?_eq_getElem hj'] at cj
  refine ⟨fs[i], fs[j], ⟨ci, cj⟩, hp, ⟨cell_of_row _ _ 7 _ _ _ f1.g, cell_of_row _ _ 7 _ _ _ f2.g⟩, ⟨cell_of_row _ _ 0 _ _ _ f1.c, cell_of_row _ _ 0 _ _ _ f2.c⟩, fun n => ?_, fun n => ?_, fun n => ?_⟩
  · exact Ptr.eql103_other _ (fun e => by have := congrArg Addr.block e; simp only at this; omega) f1.g f2.g
  · exact Ptr.eql117_other _ (fun e => by have := congrArg Addr.block e; simp only at this; omega) f1.c f2.c
  · exact Ptr.eql82_other _ (fun e => by have := congrArg Addr.block e; simp only at this; omega) f1.g f2.g

end Go.Proofs.Ybulkaiqu.Many
