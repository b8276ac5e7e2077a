/-
  (*Scheduler).restLocked where the worker is to exit: the three ways through its test.
-/
import Derived.Test.YbulkaiquSch
import Derived.Deep.QuietTactic
import Derived.BigQuiet
namespace Go.Proofs.Ybulkaiqu.Rest
open Go.RowKit
open Go.Proofs.Ybulkaiqu.Sch

set_option maxHeartbeats 1600000 in
set_option maxRecDepth 1000000 in
theorem stop1 (SB : Nat) (pb ib : Option Addr) (np pc ni ic : Nat) (hv wv : Value) (mx th : Int) (w : World) (h : Sch w SB (.slice pb np pc) (.slice ib ni ic) hv mx th 1 true) :
    Calls Yba.prog 11 #[.pointer (some ⟨SB, 0, none⟩), wv] w fun e w' => e = .returned (.pointer none) ∧ Sch w' SB (.slice pb np pc) (.slice ib ni ic) hv mx (wrap64 (th - 1)) 0 true ∧ Kept (fun k => k = SB) w w' := by
  obtain ⟨c0, c1, c88, c91, c92, c93, c94⟩ := h.cells
  have z92 := h.free 92
  go_enter Yba.func11, Yba.ntmps11
  go_wp2
  go_quiet (fail)
  go_wp2_with fail
  have h2 : Sch ((w.drewN nq).setCell ⟨SB, 92, none⟩ (.int .i64 (wrap64 (th - 1)))) SB (.slice pb np pc) (.slice ib ni ic) hv mx (wrap64 (th - 1)) 1 true := (h.of_block (w' := w.drewN nq) rfl).setTh _
  have k2 : Kept (fun k => k = SB) w ((w.drewN nq).setCell ⟨SB, 92, none⟩ (.int .i64 (wrap64 (th - 1)))) := ((Kept.refl (fun k => k = SB) w).drewN nq).setCell (p := ⟨SB, 92, none⟩) rfl _
  clear c0 c1 c88 c91 c92 c93 c94 z92 h
  generalize (w.drewN nq).setCell ⟨SB, 92, none⟩ (.int .i64 (wrap64 (th - 1))) = w2 at h2 k2 ⊢
  refine (Lock.unlock_held _ _ _ h2.cells.2.2.1 (h2.free 88)).mono ?_
  rintro e w3 ⟨rfl, rfl⟩
  have h3 := h2.setMu 0
  have k3 := k2.setCell (p := ⟨SB, 88, none⟩) rfl (.int .i32 0)
  clear h2 k2
  generalize w2.setCell ⟨SB, 88, none⟩ (.int .i32 0) = w3 at h3 k3 ⊢
  go_wp2
  go_ret
  exact ⟨rfl, h3, k3⟩

set_option maxHeartbeats 1600000 in
set_option maxRecDepth 1000000 in
theorem stop2 (SB : Nat) (pb ib : Option Addr) (np pc ni ic : Nat) (hv wv : Value) (mx th : Int) (w : World) (h : Sch w SB (.slice pb np pc) (.slice ib ni ic) hv mx th 1 false) (hlt : mx < th) :
    Calls Yba.prog 11 #[.pointer (some ⟨SB, 0, none⟩), wv] w fun e w' => e = .returned (.pointer none) ∧ Sch w' SB (.slice pb np pc) (.slice ib ni ic) hv mx (wrap64 (th - 1)) 0 false ∧ Kept (fun k => k = SB) w w' := by
  obtain ⟨c0, c1, c88, c91, c92, c93, c94⟩ := h.cells
  have z92 := h.free 92
  have hd : decide (mx < th) = true := by simpa using hlt
  go_enter Yba.func11, Yba.ntmps11
  go_wp2
  go_quiet (fail)
  go_wp2_with fail
  have h2 : Sch ((w.drewN nq).setCell ⟨SB, 92, none⟩ (.int .i64 (wrap64 (th - 1)))) SB (.slice pb np pc) (.slice ib ni ic) hv mx (wrap64 (th - 1)) 1 false := (h.of_block (w' := w.drewN nq) rfl).setTh _
  have k2 : Kept (fun k => k = SB) w ((w.drewN nq).setCell ⟨SB, 92, none⟩ (.int .i64 (wrap64 (th - 1)))) := ((Kept.refl (fun k => k = SB) w).drewN nq).setCell (p := ⟨SB, 92, none⟩) rfl _
  clear c0 c1 c88 c91 c92 c93 c94 z92 h
  generalize (w.drewN nq).setCell ⟨SB, 92, none⟩ (.int .i64 (wrap64 (th - 1))) = w2 at h2 k2 ⊢
  refine (Lock.unlock_held _ _ _ h2.cells.2.2.1 (h2.free 88)).mono ?_
  rintro e w3 ⟨rfl, rfl⟩
  have h3 := h2.setMu 0
  have k3 := k2.setCell (p := ⟨SB, 88, none⟩) rfl (.int .i32 0)
  clear h2 k2
  generalize w2.setCell ⟨SB, 88, none⟩ (.int .i32 0) = w3 at h3 k3 ⊢
  go_wp2
  go_ret
  exact ⟨rfl, h3, k3⟩

set_option maxHeartbeats 1600000 in
set_option maxRecDepth 1000000 in
theorem stop3 (SB : Nat) (pb ib : Option Addr) (np pc ni ic : Nat) (hv wv : Value) (mx th : Int) (w : World) (h : Sch w SB (.slice pb np pc) (.slice ib ni ic) hv mx th 1 false) (hlt : ¬ mx < th) (hge : np ≤ ni) :
    Calls Yba.prog 11 #[.pointer (some ⟨SB, 0, none⟩), wv] w fun e w' => e = .returned (.pointer none) ∧ Sch w' SB (.slice pb np pc) (.slice ib ni ic) hv mx (wrap64 (th - 1)) 0 false ∧ Kept (fun k => k = SB) w w' := by
  obtain ⟨c0, c1, c88, c91, c92, c93, c94⟩ := h.cells
  have z92 := h.free 92
  have hd : decide (mx < th) = false := by simpa using hlt
  have hd2 : decide ((np : Int) ≤ (ni : Int)) = true := by simpa using hge
  go_enter Yba.func11, Yba.ntmps11
  go_wp2
  go_quiet (fail)
  go_wp2_with fail
  have h2 : Sch ((w.drewN nq).setCell ⟨SB, 92, none⟩ (.int .i64 (wrap64 (th - 1)))) SB (.slice pb np pc) (.slice ib ni ic) hv mx (wrap64 (th - 1)) 1 false := (h.of_block (w' := w.drewN nq) rfl).setTh _
  have k2 : Kept (fun k => k = SB) w ((w.drewN nq).setCell ⟨SB, 92, none⟩ (.int .i64 (wrap64 (th - 1)))) := ((Kept.refl (fun k => k = SB) w).drewN nq).setCell (p := ⟨SB, 92, none⟩) rfl _
  clear c0 c1 c88 c91 c92 c93 c94 z92 h
  generalize (w.drewN nq).setCell ⟨SB, 92, none⟩ (.int .i64 (wrap64 (th - 1))) = w2 at h2 k2 ⊢
  refine (Lock.unlock_held _ _ _ h2.cells.2.2.1 (h2.free 88)).mono ?_
  rintro e w3 ⟨rfl, rfl⟩
  have h3 := h2.setMu 0
  have k3 := k2.setCell (p := ⟨SB, 88, none⟩) rfl (.int .i32 0)
  clear h2 k2
  generalize w2.setCell ⟨SB, 88, none⟩ (.int .i32 0) = w3 at h3 k3 ⊢
  go_wp2
  go_ret
  exact ⟨rfl, h3, k3⟩

/-- All three. -/
theorem stop_any (SB : Nat) (pb ib : Option Addr) (np pc ni ic : Nat) (hv wv : Value) (mx th : Int) (st : Bool) (w : World) (h : Sch w SB (.slice pb np pc) (.slice ib ni ic) hv mx th 1 st) (hs : st = true ∨ mx < th ∨ np ≤ ni) :
    Calls Yba.prog 11 #[.pointer (some ⟨SB, 0, none⟩), wv] w fun e w' => e = .returned (.pointer none) ∧ Sch w' SB (.slice pb np pc) (.slice ib ni ic) hv mx (wrap64 (th - 1)) 0 st ∧ Kept (fun k => k = SB) w w' := by
  cases st with
  | true => exact stop1 SB pb ib np pc ni ic hv wv mx th w h
  | false =>
    by_cases hlt : mx < th
    · exact stop2 SB pb ib np pc ni ic hv wv mx th w h hlt
    · exact stop3 SB pb ib np pc ni ic hv wv mx th w h hlt (by rcases hs with h | h | h; exact absurd h (by decide); exact absurd h hlt; exact h)
#print axioms stop_any
end Go.Proofs.Ybulkaiqu.Rest
