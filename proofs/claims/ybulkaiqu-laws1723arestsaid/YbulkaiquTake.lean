/-
  (*Scheduler).takeHandoffLocked, and restLocked where a hand-off waits.
-/
import Derived.Test.YbulkaiquRest
namespace Go.Proofs.Ybulkaiqu.Take
open Go.RowKit
open Go.Proofs.Ybulkaiqu.Sch

/-- The row's cells behind Delete. -/
theorem del_cells {w : World} {b n : Nat} {xs : List Value} (hn : 1 ≤ n) (hl : xs.length = n) (hc : ∀ (j : Nat) u, xs[j]? = some u → w.cell? ⟨b, j, none⟩ = some u) :
    ∀ (j : Nat) u, xs.tail[j]? = some u → ((w.drew.setCells b 0 xs.tail).setCells b (n - 1) [.pointer none]).cell? ⟨b, j, none⟩ = some u := by
  intro j u hu
  have hj := (List.getElem?_eq_some_iff.1 hu).1
  have hlt : xs.tail.length = n - 1 := by simp [hl]
  rw [World.cell?_setCells_out b _ _ _ _ (fun _ _ => .inl (by show j < n - 1; omega))]
  have := World.cell?_setCells_in b xs.tail 0 w.drew (fun i hi => by
    have : (w.cell? ⟨b, 0 + i, none⟩).isSome = true := by rw [Nat.zero_add, hc i _ (List.getElem?_eq_getElem (by omega))]; rfl
    exact this) j hj
  rw [Nat.zero_add] at this
  rw [this, ← hu, List.getElem?_eq_getElem hj]

set_option maxHeartbeats 1600000 in
set_option maxRecDepth 1000000 in
theorem take_any (SB HB b0 n : Nat) (pv iv pv0 : Value) (mx th mu s0 : Int) (st : Bool) (xs : List Value) (w : World) (hn : 1 ≤ n) (hn4 : n ≤ 1024) (hl : xs.length = n) (h1 : ∀ u ∈ xs, u.oneCell' = true)
    (h : Sch w SB pv iv (.slice (some ⟨HB, 0, none⟩) n n) mx th mu st) (hc : ∀ (j : Nat) u, xs[j]? = some u → w.cell? ⟨HB, j, none⟩ = some u) (hf : ∀ j, w.frozen? ⟨HB, j, none⟩ = false)
    (hx0 : xs[0]? = some (.pointer (some ⟨b0, 0, none⟩))) (hb0 : w.heap[b0]? = some (.cells #[pv0, .int .i64 s0] 61 (0, 0))) (hne1 : SB ≠ HB) (hne2 : b0 ≠ SB) (hne3 : b0 ≠ HB) :
    Calls Yba.prog 24 #[.pointer (some ⟨SB, 0, none⟩)] w fun e w' => e = .returned pv0 ∧ Sch w' SB pv iv (.slice (some ⟨HB, 0, none⟩) (n - 1) n) mx th mu st ∧ (∀ (j : Nat) u, xs.tail[j]? = some u → w'.cell? ⟨HB, j, none⟩ = some u) ∧ w'.heap[b0]? = some (.cells #[pv0, .int .i64 2] 61 (0, 0)) ∧ Kept (fun k => k = SB ∨ k = HB ∨ k = b0) w w' := by
  have hq0 := hc 0 _ hx0
  have c93 := h.cells.2.2.2.2.2.1
  have D := hide (Delete.delete_any HB n xs w hn hn4 hl h1 hc hf)
  have k2 : Kept (fun k => k = SB ∨ k = HB ∨ k = b0) w ((w.drew.setCells HB 0 xs.tail).setCells HB (n - 1) [.pointer none]) := Kept.setCells (by simp) _ _ _ (Kept.setCells (by simp) _ _ _ (Kept.refl _ w).drew)
  have k2' : Kept (fun k => k = HB) w ((w.drew.setCells HB 0 xs.tail).setCells HB (n - 1) [.pointer none]) := Kept.setCells (by simp) _ _ _ (Kept.setCells (by simp) _ _ _ (Kept.refl _ w).drew)
  have r2 := del_cells hn hl hc
  have h2 := h.of_block (k2'.block SB h.lt (by simpa using hne1))
  have b2 := (k2'.block b0 (Array.getElem?_eq_some_iff.1 hb0).1 (by simpa using hne3)).trans hb0
  clear hc hf h1 hx0 hb0 h k2'
  have hnI : (0 : Int) < (n : Int) := by omega
  go_enter Yba.func24, Yba.ntmps24
  go_wp2_with fail
  refine (unhide D).mono ?_
  rintro e w2 ⟨rfl, rfl⟩
  clear D
  generalize (w.drew.setCells HB 0 xs.tail).setCells HB (n - 1) [.pointer none] = w2 at k2 r2 h2 b2 ⊢
  have c93' := h2.cells.2.2.2.2.2.1
  have z93 := h2.free 93
  have p0 := cell_of_row _ _ 0 _ _ _ b2
  have p1 := cell_of_row _ _ 1 _ _ _ b2
  have z1 := frozen_of_row _ _ 1 _ _ b2
  simp at p0 p1
  go_wp2
  go_ret
  refine ⟨rfl, (h2.setHv _).of_block (heap_setCell_other _ _ _ _ (Ne.symm hne2)), fun j u hu => ?_, ?_, (k2.setCell (.inl rfl) _).setCell (.inr (.inr rfl)) _⟩
  · rw [World.cell?_setCell_other _ _ _ _ (by simp), World.cell?_setCell_other _ _ _ _ (by simp)]
    exact r2 j u hu
  · exact heap_setCell_same _ _ 1 _ _ _ ((heap_setCell_other _ _ _ _ hne2).trans b2)

set_option maxHeartbeats 1600000 in
set_option maxRecDepth 1000000 in
/-- restLocked where a hand-off waits. -/
theorem handoff_any (SB HB b0 n : Nat) (pb ib : Option Addr) (np pc ni ic : Nat) (wv pv0 : Value) (mx th s0 : Int) (xs : List Value) (w : World) (hn : 1 ≤ n) (hn4 : n ≤ 1024) (hl : xs.length = n) (h1 : ∀ u ∈ xs, u.oneCell' = true)
    (h : Sch w SB (.slice pb np pc) (.slice ib ni ic) (.slice (some ⟨HB, 0, none⟩) n n) mx th 1 false) (hlt : ¬ mx < th) (hge : ¬ np ≤ ni)
    (hc : ∀ (j : Nat) u, xs[j]? = some u → w.cell? ⟨HB, j, none⟩ = some u) (hf : ∀ j, w.frozen? ⟨HB, j, none⟩ = false)
    (hx0 : xs[0]? = some (.pointer (some ⟨b0, 0, none⟩))) (hb0 : w.heap[b0]? = some (.cells #[pv0, .int .i64 s0] 61 (0, 0))) (hne1 : SB ≠ HB) (hne2 : b0 ≠ SB) (hne3 : b0 ≠ HB) :
    Calls Yba.prog 11 #[.pointer (some ⟨SB, 0, none⟩), wv] w fun e w' => e = .returned pv0 ∧ Sch w' SB (.slice pb np pc) (.slice ib ni ic) (.slice (some ⟨HB, 0, none⟩) (n - 1) n) mx th 0 false ∧ (∀ (j : Nat) u, xs.tail[j]? = some u → w'.cell? ⟨HB, j, none⟩ = some u) ∧ w'.heap[b0]? = some (.cells #[pv0, .int .i64 2] 61 (0, 0)) ∧ Kept (fun k => k = SB ∨ k = HB ∨ k = b0) w w' := by
  obtain ⟨c0, c1, c88, c91, c92, c93, c94⟩ := h.cells
  have hd : decide (mx < th) = false := by simpa using hlt
  have hd2 : decide ((np : Int) ≤ (ni : Int)) = false := by simpa using hge
  have hnI : (0 : Int) < (n : Int) := by omega
  have T : Hid (∀ q, Calls Yba.prog 24 #[.pointer (some ⟨SB, 0, none⟩)] (w.drewN q) fun e w' => e = .returned pv0 ∧ Sch w' SB (.slice pb np pc) (.slice ib ni ic) (.slice (some ⟨HB, 0, none⟩) (n - 1) n) mx th 1 false ∧ (∀ (j : Nat) u, xs.tail[j]? = some u → w'.cell? ⟨HB, j, none⟩ = some u) ∧ w'.heap[b0]? = some (.cells #[pv0, .int .i64 2] 61 (0, 0)) ∧ Kept (fun k => k = SB ∨ k = HB ∨ k = b0) w w') := fun q =>
    (take_any SB HB b0 n _ _ pv0 mx th 1 s0 false xs (w.drewN q) hn hn4 hl h1 (h.of_block rfl) hc hf hx0 hb0 hne1 hne2 hne3).mono (fun e w' ⟨a, b, c, d, k⟩ => ⟨a, b, c, d, ((Kept.refl _ w).drewN q).trans k⟩)
  clear hc hf h1 hx0 hb0 h
  go_enter Yba.func11, Yba.ntmps11
  go_wp2
  go_quiet (fail)
  go_wp2_with fail
  refine (unhide T nq).mono ?_
  rintro e w2 ⟨rfl, h2, r2, b2, k2⟩
  have R2 := hide r2
  have B2 := hide b2
  clear r2 b2 T c0 c1 c88 c91 c92 c93 c94
  go_wp2_with fail
  refine (Lock.unlock_held _ _ _ h2.cells.2.2.1 (h2.free 88)).mono ?_
  rintro e w3 ⟨rfl, rfl⟩
  have h3 := h2.setMu 0
  have k3 := k2.setCell (p := ⟨SB, 88, none⟩) (.inl rfl) (.int .i32 0)
  have R3 : Hid (∀ (j : Nat) u, xs.tail[j]? = some u → (w2.setCell ⟨SB, 88, none⟩ (.int .i32 0)).cell? ⟨HB, j, none⟩ = some u) := fun j u hu => by
    rw [World.cell?_setCell_other _ _ _ _ (by simp)]; exact unhide R2 j u hu
  have B3 : Hid ((w2.setCell ⟨SB, 88, none⟩ (.int .i32 0)).heap[b0]? = some (.cells #[pv0, .int .i64 2] 61 (0, 0))) := (heap_setCell_other _ _ _ _ hne2).trans (unhide B2)
  clear h2 k2 R2 B2
  generalize w2.setCell ⟨SB, 88, none⟩ (.int .i32 0) = w3 at h3 k3 R3 B3 ⊢
  go_wp2
  go_ret
  exact ⟨rfl, h3, unhide R3, unhide B3, k3⟩
#print axioms handoff_any

end Go.Proofs.Ybulkaiqu.Take
