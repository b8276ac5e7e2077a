import Derived.Test.YbulkaiqgClock4
namespace Go.Proofs.Ybulkaiqg.Clock
open Go.RowKit

theorem net_world (w : World) (W E : Int) : ∃ wq : World, wq = ((((w.alloc (Obj.cells #[Value.int IntKind.u64 W, Value.int IntKind.i64 E, Value.pointer none] 35)).alloc (Obj.map #[] 0)).alloc (Obj.map #[] 0)).alloc (Obj.cells #[Value.int IntKind.i64 0] 61)).alloc
      (Obj.cells #[Value.slice none 0 0, Value.slice none 0 0, Value.map (some (w.heap.size + 1)), Value.map (some (w.heap.size + 1 + 1)), Value.pointer (some { block := w.heap.size + 1 + 1 + 1, off := 0 }), Value.int IntKind.i32 0, Value.int IntKind.u32 0, Value.slice none 0 0] 53)
    ∧ (wq.cell? ⟨w.heap.size, 0, none⟩ = some (.int .u64 W) ∧ wq.cell? ⟨w.heap.size, 1, none⟩ = some (.int .i64 E) ∧ wq.cell? ⟨w.heap.size, 2, none⟩ = some (.pointer none))
    ∧ wq.cell? ⟨w.heap.size + 1 + 1 + 1, 0, none⟩ = some (.int .i64 0) ∧ wq.frozen? ⟨w.heap.size + 1 + 1 + 1, 0, none⟩ = false
    ∧ wq.cell? ⟨w.heap.size + 1 + 1 + 1 + 1, 4, none⟩ = some (.pointer (some ⟨w.heap.size + 1 + 1 + 1, 0, none⟩)) ∧ wq.heap.size = w.heap.size + 5 ∧ Below w.heap.size w wq := by
  refine ⟨_, rfl, ⟨?_, ?_, ?_⟩, ?_, ?_, ?_, ?_, ?_⟩
  · rw [World.cell?_alloc_past _ _ _ (by simp; omega), World.cell?_alloc_past _ _ _ (by simp; omega), World.cell?_alloc_past _ _ _ (by simp; omega), World.cell?_alloc_past _ _ _ (by simp), World.cell?_alloc_at _ _ _ _ rfl]; rfl
  · rw [World.cell?_alloc_past _ _ _ (by simp; omega), World.cell?_alloc_past _ _ _ (by simp; omega), World.cell?_alloc_past _ _ _ (by simp; omega), World.cell?_alloc_past _ _ _ (by simp), World.cell?_alloc_at _ _ _ _ rfl]; rfl
  · rw [World.cell?_alloc_past _ _ _ (by simp; omega), World.cell?_alloc_past _ _ _ (by simp; omega), World.cell?_alloc_past _ _ _ (by simp; omega), World.cell?_alloc_past _ _ _ (by simp), World.cell?_alloc_at _ _ _ _ rfl]; rfl
  · rw [World.cell?_alloc_past _ _ _ (by simp), World.cell?_alloc_at _ _ _ _ (by simp)]; rfl
  · rw [World.frozen?_alloc_past _ _ _ (by simp), World.frozen?_alloc_at _ _ _ _ (by simp)]
  · rw [World.cell?_alloc_at _ _ _ _ (by simp)]; rfl
  · simp
  · refine Below.alloc (Below.alloc (Below.alloc (Below.alloc (Below.alloc (Below.refl _ _) ?_ _) ?_ _) ?_ _) ?_ _) ?_ _ <;> simp <;> omega

set_option maxHeartbeats 1000000 in
set_option maxRecDepth 100000 in
theorem network_any (W E : Int) (w : World) (h0 : 0 ≤ W) (h1 : W < 1000000000) :
    Calls Yba.prog 12 #[.agg #[.int .u64 W, .int .i64 E, .pointer none]] w fun e w' => ∃ nb cb : Nat, e = .returned (.pointer (some ⟨nb, 0, none⟩)) ∧ w'.cell? ⟨nb, 4, none⟩ = some (.pointer (some ⟨cb, 0, none⟩)) ∧ w'.cell? ⟨cb, 0, none⟩ = some (.int .i64 (un W E)) ∧ Below w.heap.size w w' := by
  have hmm := @run_makeMap Yba.prog
  obtain ⟨wq, hq, ⟨q0, q1, q2⟩, c0, z0, n4, sz, hb⟩ := net_world w W E
  have HQ := hide hq
  clear hq
  go_enter Yba.func12, Yba.ntmps12
  go_wp2
  rw [← unhide HQ]
  clear HQ hmm
  have hs1 : w.heap.size + 1 + 1 + 1 < wq.heap.size := by omega
  have hs2 : w.heap.size + 1 + 1 + 1 + 1 < wq.heap.size := by omega
  have SZ := hide sz
  clear sz
  go_region_with (go_at_call 19; refine (set_any _ 0 W E _ (by exact hs1) h0 h1 (by exact c0) (by exact z0)).mono ?_; rintro e w' ⟨rfl, rfl⟩)
  all_goals
    go_wp2
    go_ret
    refine ⟨_, _, rfl, ?_, two_cell (by simpa using hs1) (World.cell?_setCell_same _ _ _ c0), ?_⟩
    · refine two_cell (by simpa using hs2) ?_
      rw [World.cell?_setCell_other _ _ _ _ (by simp)]
      exact n4
    · refine hb.trans (Below.drew (Below.drew (Below.alloc (Below.alloc (Below.setCell (Below.refl _ _) ?_ _) ?_ _) ?_ _))) <;> simp <;> omega
#print axioms network_any
end Go.Proofs.Ybulkaiqg.Clock
