/-
  (*Scheduler).NewGroup, sync.NewCond and zzs1723cfresh: what a new group is in memory; that the test finds it fresh.
-/
import Derived.Test.YbulkaiquPtr
import Derived.WalkKit
import Derived.WalkSpells
import Derived.WalkLawsBesides
import Derived.Deep.QuietTactic
import Derived.BigQuiet
namespace Go.Proofs.Ybulkaiqu.Group
open Go.RowKit

/-- The zero Scheduler: 107 cells, whatever they hold. -/
theorem zero93_closed : ((Yba.prog.info? 93).bind (·.zero)).map (fun v => match v with | .agg cs => cs.size == 107 | _ => false) = some true := by kernel_rfl
theorem zero93 : ∃ Z : Array Value, Z.size = 107 ∧ ∀ w, (zeroValue 93).run Yba.prog w = .ok (.agg Z) w := by
  have h := zero93_closed
  cases hi : Yba.prog.info? 93 with
  | none => rw [hi] at h; cases h
  | some i =>
    rw [hi] at h
    cases hz : i.zero with
    | none => simp [hz] at h
    | some v =>
      cases v with
      | agg cs => simp [hz] at h; exact ⟨cs, h, fun w => by simp [zeroValue, typeInfo, hi, hz]⟩
      | _ => simp [hz] at h

/-- A fresh group of the scheduler at sa in block gb, its condition variable in block cb. -/
structure Fresh (w : World) (sa : Addr) (gb cb : Nat) : Prop where
  g : w.heap[gb]? = some (.cells #[.pointer (some sa), .pointer none, .int .i32 0, .int .u32 0, .int .i64 0, .nilIface, .bool false, .pointer (some ⟨cb, 0, none⟩)] 119 (0, 0))
  c : w.heap[cb]? = some (.cells #[.iface 120 (.pointer (some ⟨gb, 2, none⟩)), .int .u32 0, .int .u32 0, .int .u64 0, .pointer none, .pointer none, .int .u64 0] 87 (0, 0))

theorem Fresh.below {w w' : World} {sa : Addr} {gb cb B : Nat} (h : Fresh w sa gb cb) (hb : Below B w w') (h1 : gb < B) (h2 : cb < B) : Fresh w' sa gb cb := ⟨(hb.block gb h1).trans h.g, (hb.block cb h2).trans h.c⟩

set_option maxHeartbeats 1000000 in
set_option maxRecDepth 100000 in
theorem newGroup_any (sa : Addr) (w : World) :
    Calls Yba.prog 21 #[.pointer (some sa)] w fun e w' => e = .returned (.pointer (some ⟨w.heap.size, 0, none⟩)) ∧ Fresh w' sa w.heap.size (w.heap.size + 1) ∧ Below w.heap.size w w' ∧ w'.heap.size = w.heap.size + 2 := by
  go_enter Yba.func21, Yba.ntmps21
  go_wp2
  go_ret
  exact ⟨rfl, ⟨heap_alloc2_old _ _ _, heap_alloc2_new _ _ _⟩, ((Below.refl _ _).alloc (Nat.le_refl _) _).alloc (by simp) _, by simp⟩

set_option maxHeartbeats 1000000 in
set_option maxRecDepth 100000 in
theorem fresh_any (sa : Addr) (gb cb : Nat) (w : World) (h : Fresh w sa gb cb) :
    Calls Yba.prog 22 #[.pointer (some sa), .pointer (some ⟨gb, 0, none⟩)] w fun e w' => e = .returned (.bool true) ∧ ∃ n, w' = w.drewN n := by
  have g0 := cell_of_row w gb 0 _ _ _ h.g
  have g1 := cell_of_row w gb 1 _ _ _ h.g
  have g4 := cell_of_row w gb 4 _ _ _ h.g
  have g5 := cell_of_row w gb 5 _ _ _ h.g
  have g6 := cell_of_row w gb 6 _ _ _ h.g
  have g7 := cell_of_row w gb 7 _ _ _ h.g
  have c0 := cell_of_row w cb 0 _ _ _ h.c
  simp at g0 g1 g4 g5 g6 g7 c0
  have e24 := Ptr.neq24_same sa
  have e82 := Ptr.eql82_same ⟨gb, 2, none⟩
  clear h
  go_enter Yba.func22, Yba.ntmps22
  go_wp2
  go_quiet (fail)
  go_wp2
  go_ret
  exact ⟨rfl, _, rfl⟩
#print axioms fresh_any
end Go.Proofs.Ybulkaiqu.Group
