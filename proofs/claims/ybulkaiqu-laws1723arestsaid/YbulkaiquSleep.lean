/-
  restLocked where the worker goes to rest and is handed what its channel holds.
-/
import Derived.Test.YbulkaiquTake
import Derived.Deep.Cut
import Derived.Maps.AppendAt
namespace Go.Proofs.Ybulkaiqu.Sleep
open Go.RowKit Go.Conc
open Go.Proofs.Ybulkaiqu.Sch Go.Proofs.Ybulkaiqu.Comm

set_option maxHeartbeats 1600000 in
set_option maxRecDepth 1000000 in
theorem sleep_any (SB IB WB cb : Nat) (pb hb : Option Addr) (np pc ni hcap : Nat) (pm : Option Addr) (ws : Array Value) (mx th : Int) (xs : List Value) (w : World) (hni : ni ≤ 1024)
    (h : Sch w SB (.slice pb np pc) (.slice (some ⟨IB, 0, none⟩) ni ni) (.slice hb 0 hcap) mx th 1 false) (hlt : ¬ mx < th) (hge : ¬ np ≤ ni)
    (hown : w.ownsRow IB 50 1 (.slice (some ⟨IB, 0, none⟩) ni ni) ni xs) (hW : w.heap[WB]? = some (.cells ws 56 (0, 0))) (hws : ws[0]? = some (.chan (some cb))) (hC : w.heap[cb]? = some (.chan 1 #[.pointer pm] false 1 0 false)) (hI : IB < w.heap.size)
    (hne1 : SB ≠ IB) (hne2 : WB ≠ SB) (hne3 : WB ≠ IB) (hne4 : cb ≠ SB) (hne5 : cb ≠ IB) :
    Calls Yba.prog 11 #[.pointer (some ⟨SB, 0, none⟩), .pointer (some ⟨WB, 0, none⟩)] w fun e w' => e = .returned (.pointer pm) ∧ ∃ (g cap : Nat) (cur : Array Value), Sch w' SB (.slice pb np pc) (.slice (some ⟨g, 0, none⟩) (ni + 1) cap) (.slice hb 0 hcap) mx th 0 false ∧ w'.heap[g]? = some (.cells cur 50 (0, 0)) ∧ (∀ (j : Nat) u, (xs ++ [.pointer (some ⟨WB, 0, none⟩)])[j]? = some u → cur[j]? = some u) ∧ w'.heap[cb]? = some (.chan 1 #[] false 1 1 false) ∧ Kept (fun k => k = SB ∨ k = IB ∨ k = cb) w w' := by
  obtain ⟨i0, hi0, hz0, hz1, hz2⟩ := info_parts Clone.Yba.info50
  obtain ⟨c0, c1, c88, c91, c92, c93, c94⟩ := h.cells
  have hd : decide (mx < th) = false := by simpa using hlt
  have hd2 : decide ((np : Int) ≤ (ni : Int)) = false := by simpa using hge
  go_enter Yba.func11, Yba.ntmps11
  go_wp2
  go_quiet (fail)
  have hq : Sch (w.drewN nq) SB (.slice pb np pc) (.slice (some ⟨IB, 0, none⟩) ni ni) (.slice hb 0 hcap) mx th 1 false := h.of_block rfl
  have kq : Kept (fun k => k = SB ∨ k = IB ∨ k = cb) w (w.drewN nq) := (Kept.refl _ w).drewN nq
  have oq : (w.drewN nq).ownsRow IB 50 1 (.slice (some ⟨IB, 0, none⟩) ni ni) ni xs := hown
  have Wq : (w.drewN nq).heap[WB]? = some (.cells ws 56 (0, 0)) := hW
  have Cq : (w.drewN nq).heap[cb]? = some (.chan 1 #[.pointer pm] false 1 0 false) := hC
  have Iq : IB < (w.drewN nq).heap.size := hI
  clear h hown hW hC hI c0 c1 c88 c91 c92 c93 c94
  generalize w.drewN nq = wq at hq kq oq Wq Cq Iq ⊢
  obtain ⟨c0, c1, c88, c91, c92, c93, c94⟩ := hq.cells
  have z91 := hq.free 91
  have HW := hide Wq
  have HC := hide Cq
  clear Wq Cq
  go_wp2_with (at_builtin; refine wpList_append_own _ rfl (.tmp 62) (.tmp 64) 49 rfl IB 50 i0 (.pointer none) 1 8 Yba.underlying49 hi0 hz0 hz1 hz2 rfl (by decide) _ ni xs rfl (by exact oq.alloc _) ⟨wq.heap.size, 0, none⟩ 1 1 [.pointer (some ⟨WB, 0, none⟩)] rfl rfl (cell_one_new _ _ _) (by intro u hu; simp at hu; subst hu; rfl) ?c3 ?c4 ?c5 ?_)
  case c3 => unfold maxLen; omega
  case c4 => omega
  case c5 => simp; omega
  intro v' w2 hown hgrow hiff
  have kI : Kept (fun k => k = IB) wq w2 := ((Kept.refl _ wq).alloc _).grown hgrow (fun k e => by simpa [Value.ownBlock] using e.symm)
  have h2 := hq.of_block (kI.block SB hq.lt (by simpa using hne1))
  have k2 := kq.trans (kI.mono (fun k e => .inr (.inl e)))
  have W2 := hide ((kI.block WB (Array.getElem?_eq_some_iff.1 (unhide HW)).1 (by simpa using hne3)).trans (unhide HW))
  have C2 := hide ((kI.block cb (Array.getElem?_eq_some_iff.1 (unhide HC)).1 (by simpa using hne5)).trans (unhide HC))
  obtain ⟨g, cap, cur, hv, _, _, _, hg, hcur⟩ := Clone.row_of hown hiff
  have hgS : g ≠ SB := fun e => by
    obtain ⟨cs, e0, _⟩ := h2.it
    rw [e, e0] at hg; simp at hg
  have G2 := hide hg
  have R2 := hide hcur
  rw [hv]
  clear hown hgrow hiff hv hg hcur kI oq HW HC hq kq Iq c0 c1 c88 c91 c92 c93 c94 z91
  obtain ⟨_, _, _, c91, _, _, _⟩ := h2.cells
  have z91 := h2.free 91
  go_wp2_with fail
  have h3 := h2.setIv (.slice (some ⟨g, 0, none⟩) (ni + 1) cap)
  have k3 := k2.setCell (p := ⟨SB, 91, none⟩) (.inl rfl) (.slice (some ⟨g, 0, none⟩) (ni + 1) cap)
  have W3 := hide ((heap_setCell_other w2 ⟨SB, 91, none⟩ WB (.slice (some ⟨g, 0, none⟩) (ni + 1) cap) hne2).trans (unhide W2))
  have C3 := hide ((heap_setCell_other w2 ⟨SB, 91, none⟩ cb (.slice (some ⟨g, 0, none⟩) (ni + 1) cap) hne4).trans (unhide C2))
  have G3 := hide ((heap_setCell_other w2 ⟨SB, 91, none⟩ g (.slice (some ⟨g, 0, none⟩) (ni + 1) cap) hgS).trans (unhide G2))
  clear h2 k2 W2 C2 G2 c91 z91
  generalize w2.setCell ⟨SB, 91, none⟩ (.slice (some ⟨g, 0, none⟩) (ni + 1) cap) = w3 at h3 k3 W3 C3 G3 ⊢
  refine (Lock.unlock_held _ _ _ h3.cells.2.2.1 (h3.free 88)).mono ?_
  rintro e w4 ⟨rfl, rfl⟩
  have h4 := h3.setMu 0
  have k4 := k3.setCell (p := ⟨SB, 88, none⟩) (.inl rfl) (.int .i32 0)
  have W4 := (heap_setCell_other w3 ⟨SB, 88, none⟩ WB (.int .i32 0) hne2).trans (unhide W3)
  have C4 := (heap_setCell_other w3 ⟨SB, 88, none⟩ cb (.int .i32 0) hne4).trans (unhide C3)
  have G4 := (heap_setCell_other w3 ⟨SB, 88, none⟩ g (.int .i32 0) hgS).trans (unhide G3)
  clear h3 k3 W3 C3 G3
  generalize w3.setCell ⟨SB, 88, none⟩ (.int .i32 0) = w4 at h4 k4 W4 C4 G4 ⊢
  have cW : w4.cell? ⟨WB, 0, none⟩ = some (.chan (some cb)) := (cell_of_row _ _ _ _ _ _ W4).trans hws
  have CC := hide C4
  clear C4
  go_upto_region 11 with fail
  refine InReg.region ?_
  change InReg _ _ _ [0, 1, 2, 3, 4, 5] _ _
  refine InReg.value (v := .pointer (some ⟨WB, 0, none⟩)) (w' := w4) rfl rfl (by go_simp) ?_
  refine InReg.value (v := .pointer (some ⟨WB, 0, none⟩)) (w' := w4) rfl rfl (by go_simp) ?_
  refine InReg.value (v := .pointer (some ⟨WB, 0, none⟩)) (w' := w4) rfl rfl (by go_simp) ?_
  refine InReg.value (v := .chan (some cb)) (w' := w4) rfl rfl (by go_simp) ?_
  refine InReg.recv (c := cb) (cap := 1) (buf := #[.pointer pm]) (z := .pointer none) (closed := false) (s := 1) (r := 0) (tm := false) (w' := w4) rfl rfl (by go_simp; rfl) (by exact unhide CC) (by simp) ?_
  have hcl : cb < w4.heap.size := (Array.getElem?_eq_some_iff.1 (unhide CC)).1
  have e5 : w4.setChan cb 1 ((#[.pointer pm] : Array Value).extract 1 (#[.pointer pm] : Array Value).size) false 1 (0 + 1) false = w4.setChan cb 1 #[] false 1 1 false := by simp
  have C5 := hide (heap_setChan w4 cb 1 #[] false 1 1 false hcl)
  have k5 := k4.setChan (c := cb) (.inr (.inr rfl)) 1 #[] false 1 1 false
  have ch : ∀ k, k ≠ cb → (w4.setChan cb 1 #[] false 1 1 false).heap[k]? = w4.heap[k]? := fun k hk => by
    simp only [World.setChan]; exact Array.getElem?_setIfInBounds_ne (Ne.symm hk)
  have h5 := h4.of_block (ch SB (Ne.symm hne4))
  have hgc : g ≠ cb := fun e => by rw [e, unhide CC] at G4; simp at G4
  have G5 := hide ((ch g hgc).trans G4)
  rw [e5]
  clear e5 ch h4 k4 G4 CC cW W4
  generalize w4.setChan cb 1 #[] false 1 1 false = w5 at h5 k5 C5 G5 ⊢
  refine InReg.value (v := .pointer pm) (w' := w5) rfl rfl (by go_simp) ?_
  refine InReg.done ?_
  walk_nrm
  go_wp2
  go_ret
  exact ⟨rfl, g, cap, cur, h5, unhide G5, unhide R2, unhide C5, k5⟩
#print axioms sleep_any

end Go.Proofs.Ybulkaiqu.Sleep
