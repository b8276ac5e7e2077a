/-
  A Scheduler in memory, field by field (those that restLocked touches); worlds that differ in listed blocks alone. No walk in this text.
-/
import Derived.Test.YbulkaiquClone
import Derived.Test.YbulkaiquLock
import Derived.Test.YbulkaiquComm
import Derived.Deep.Draws
namespace Go.Proofs.Ybulkaiqu.Sch
open Go.RowKit

/-- w' is w but for the blocks in S (and new ones). -/
structure Kept (S : Nat → Prop) (w w' : World) : Prop where
  os : w'.os = w.os
  tape : w'.tape = w.tape
  output : w'.output = w.output
  size : w.heap.size ≤ w'.heap.size
  block : ∀ k, k < w.heap.size → ¬ S k → w'.heap[k]? = w.heap[k]?

theorem Kept.refl (S : Nat → Prop) (w : World) : Kept S w w := ⟨rfl, rfl, rfl, Nat.le_refl _, fun _ _ _ => rfl⟩
theorem Kept.trans {S : Nat → Prop} {a b c : World} (h : Kept S a b) (k : Kept S b c) : Kept S a c :=
  ⟨k.os.trans h.os, k.tape.trans h.tape, k.output.trans h.output, Nat.le_trans h.size k.size, fun i hi hs => (k.block i (Nat.lt_of_lt_of_le hi h.size) hs).trans (h.block i hi hs)⟩
theorem Kept.mono {S T : Nat → Prop} {a b : World} (h : Kept S a b) (hst : ∀ k, S k → T k) : Kept T a b := ⟨h.os, h.tape, h.output, h.size, fun k hk hn => h.block k hk (fun hs => hn (hst k hs))⟩
theorem Kept.setCell {S : Nat → Prop} {a w : World} (h : Kept S a w) {p : Addr} (hp : S p.block) (u : Value) : Kept S a (w.setCell p u) :=
  h.trans ⟨rfl, rfl, rfl, by simp, fun k _ hn => heap_setCell_other _ _ _ _ (fun e => hn (e ▸ hp))⟩
theorem Kept.alloc {S : Nat → Prop} {a w : World} (h : Kept S a w) (o : Obj) : Kept S a (w.alloc o) :=
  h.trans ⟨rfl, rfl, rfl, by simp, fun k hk _ => Below.heap_alloc _ _ _ hk⟩
theorem Kept.drew {S : Nat → Prop} {a w : World} (h : Kept S a w) : Kept S a w.drew := ⟨h.os, h.tape, h.output, h.size, h.block⟩
theorem Kept.drewN {S : Nat → Prop} {a w : World} (h : Kept S a w) (n : Nat) : Kept S a (w.drewN n) := ⟨h.os, h.tape, h.output, h.size, h.block⟩
theorem Kept.grown {S : Nat → Prop} {a w w' : World} (h : Kept S a w) {r : Option Nat} (hg : w.grownBy w' r) (hr : ∀ k, r = some k → S k) : Kept S a w' :=
  h.trans ⟨hg.os, hg.tape, hg.output, hg.size, fun k hk hn => hg.block k hk (fun e => hn (hr k e.symm))⟩
theorem Kept.setCells {S : Nat → Prop} {a : World} {b : Nat} (hb : S b) : ∀ (vs : List Value) (o : Nat) (w : World), Kept S a w → Kept S a (w.setCells b o vs)
  | [], _, _, h => h
  | v :: r, o, w, h => Kept.setCells hb r (o + 1) (w.setCell ⟨b, o, none⟩ v) (h.setCell hb v)
theorem Kept.setChan {S : Nat → Prop} {a w : World} (h : Kept S a w) {c : Nat} (hc : S c) (cap : Nat) (buf : Array Value) (cl : Bool) (s r : Nat) (tm : Bool) : Kept S a (w.setChan c cap buf cl s r tm) :=
  h.trans ⟨rfl, rfl, rfl, by simp [World.setChan], fun k _ hn => by
    simp only [World.setChan]; exact Array.getElem?_setIfInBounds_ne (show c ≠ k from fun e => hn (by rw [← e]; exact hc))⟩
theorem Kept.below {S : Nat → Prop} {B : Nat} {a w w' : World} (hb : Below B a w) (h : Kept S w w') (hs : ∀ k, S k → B ≤ k) (hB : B ≤ w.heap.size) : Below B a w' :=
  hb.trans ⟨h.os, h.tape, h.output, h.size, fun k hk => h.block k (by omega) (fun e => by have := hs k e; omega)⟩

/-- Block SB is a Scheduler. -/
structure Sch (w : World) (SB : Nat) (pv iv hv : Value) (mx th mu : Int) (st : Bool) : Prop where
  it : ∃ cs : Array Value, w.heap[SB]? = some (.cells cs 93 (0, 0)) ∧ cs.size = 107 ∧ cs[0]? = some pv ∧ cs[1]? = some (.int .i64 mx) ∧ cs[88]? = some (.int .i32 mu) ∧ cs[91]? = some iv ∧ cs[92]? = some (.int .i64 th) ∧ cs[93]? = some hv ∧ cs[94]? = some (.bool st)

variable {w w' : World} {SB : Nat} {pv iv hv : Value} {mx th mu : Int} {st : Bool}

theorem Sch.cells (h : Sch w SB pv iv hv mx th mu st) : w.cell? ⟨SB, 0, none⟩ = some pv ∧ w.cell? ⟨SB, 1, none⟩ = some (.int .i64 mx) ∧ w.cell? ⟨SB, 88, none⟩ = some (.int .i32 mu) ∧ w.cell? ⟨SB, 91, none⟩ = some iv ∧ w.cell? ⟨SB, 92, none⟩ = some (.int .i64 th) ∧ w.cell? ⟨SB, 93, none⟩ = some hv ∧ w.cell? ⟨SB, 94, none⟩ = some (.bool st) := by
  obtain ⟨cs, h0, _, h1, h2, h3, h4, h5, h6, h7⟩ := h.it
  exact ⟨(cell_of_row _ _ _ _ _ _ h0).trans h1, (cell_of_row _ _ _ _ _ _ h0).trans h2, (cell_of_row _ _ _ _ _ _ h0).trans h3, (cell_of_row _ _ _ _ _ _ h0).trans h4, (cell_of_row _ _ _ _ _ _ h0).trans h5, (cell_of_row _ _ _ _ _ _ h0).trans h6, (cell_of_row _ _ _ _ _ _ h0).trans h7⟩
theorem Sch.free (h : Sch w SB pv iv hv mx th mu st) (i : Nat) : w.frozen? ⟨SB, i, none⟩ = false := by
  obtain ⟨cs, h0, _⟩ := h.it
  exact frozen_of_row _ _ _ _ _ h0
theorem Sch.of_block (h : Sch w SB pv iv hv mx th mu st) (e : w'.heap[SB]? = w.heap[SB]?) : Sch w' SB pv iv hv mx th mu st := by
  obtain ⟨cs, h0, r⟩ := h.it
  exact ⟨cs, e.trans h0, r⟩
theorem Sch.lt (h : Sch w SB pv iv hv mx th mu st) : SB < w.heap.size := by
  obtain ⟨cs, h0, r⟩ := h.it
  exact (Array.getElem?_eq_some_iff.1 h0).1

theorem Sch.setMu (h : Sch w SB pv iv hv mx th mu st) (m : Int) : Sch (w.setCell ⟨SB, 88, none⟩ (.int .i32 m)) SB pv iv hv mx th m st := by
  obtain ⟨cs, h0, hs, h1, h2, h3, h4, h5, h6, h7⟩ := h.it
  refine ⟨_, heap_setCell_same _ _ _ _ _ _ h0, by simpa using hs, ?_, ?_, ?_, ?_, ?_, ?_, ?_⟩
  all_goals first | (rw [Array.getElem?_setIfInBounds_self_of_lt (by omega)]; done) | (rw [Array.getElem?_setIfInBounds_ne (by omega)]; assumption)
theorem Sch.setTh (h : Sch w SB pv iv hv mx th mu st) (m : Int) : Sch (w.setCell ⟨SB, 92, none⟩ (.int .i64 m)) SB pv iv hv mx m mu st := by
  obtain ⟨cs, h0, hs, h1, h2, h3, h4, h5, h6, h7⟩ := h.it
  refine ⟨_, heap_setCell_same _ _ _ _ _ _ h0, by simpa using hs, ?_, ?_, ?_, ?_, ?_, ?_, ?_⟩
  all_goals first | (rw [Array.getElem?_setIfInBounds_self_of_lt (by omega)]; done) | (rw [Array.getElem?_setIfInBounds_ne (by omega)]; assumption)
theorem Sch.setIv (h : Sch w SB pv iv hv mx th mu st) (v : Value) : Sch (w.setCell ⟨SB, 91, none⟩ v) SB pv v hv mx th mu st := by
  obtain ⟨cs, h0, hs, h1, h2, h3, h4, h5, h6, h7⟩ := h.it
  refine ⟨_, heap_setCell_same _ _ _ _ _ _ h0, by simpa using hs, ?_, ?_, ?_, ?_, ?_, ?_, ?_⟩
  all_goals first | (rw [Array.getElem?_setIfInBounds_self_of_lt (by omega)]; done) | (rw [Array.getElem?_setIfInBounds_ne (by omega)]; assumption)
theorem Sch.setHv (h : Sch w SB pv iv hv mx th mu st) (v : Value) : Sch (w.setCell ⟨SB, 93, none⟩ v) SB pv iv v mx th mu st := by
  obtain ⟨cs, h0, hs, h1, h2, h3, h4, h5, h6, h7⟩ := h.it
  refine ⟨_, heap_setCell_same _ _ _ _ _ _ h0, by simpa using hs, ?_, ?_, ?_, ?_, ?_, ?_, ?_⟩
  all_goals first | (rw [Array.getElem?_setIfInBounds_self_of_lt (by omega)]; done) | (rw [Array.getElem?_setIfInBounds_ne (by omega)]; assumption)

end Go.Proofs.Ybulkaiqu.Sch
