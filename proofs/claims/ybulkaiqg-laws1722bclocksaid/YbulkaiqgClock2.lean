import Derived.Test.YbulkaiqgClock
import Derived.WalkKit
import Derived.WalkSpells
import Derived.WalkLawsBesides
import Derived.Deep.QuietTactic
import Derived.BigQuiet
import Derived.Deep.RegionWith
namespace Go.Proofs.Ybulkaiqg.Clock
open Go.RowKit

/-- A time's block. -/
theorem time_cells (w : World) (W E : Int) : (w.alloc (.cells #[.int .u64 W, .int .i64 E, .pointer none] 35)).cell? ⟨w.heap.size, 0, none⟩ = some (.int .u64 W) ∧ (w.alloc (.cells #[.int .u64 W, .int .i64 E, .pointer none] 35)).cell? ⟨w.heap.size, 0 + 1, none⟩ = some (.int .i64 E) := by
  constructor <;> simp

set_option maxRecDepth 100000 in
theorem unix_any (W E : Int) (w : World) (h0 : 0 ≤ W) (h1 : W < 1000000000) :
    Calls Yba.prog 13 #[.agg #[.int .u64 W, .int .i64 E, .pointer none]] w fun e w' => e = .returned (.int .i64 (us E)) ∧ w' = w.alloc (.cells #[.int .u64 W, .int .i64 E, .pointer none] 35) := by
  have t := time_cells w W E
  go_enter Yba.func13, Yba.ntmps13
  go_wp2_with fail
  refine (unixSec_any _ _ W E _ h0 h1 t.1 t.2).mono ?_
  rintro e w' ⟨rfl, rfl⟩
  go_wp2
  go_ret
  exact ⟨rfl, rfl⟩

set_option maxRecDepth 100000 in
theorem nano_any (W E : Int) (w : World) (h0 : 0 ≤ W) (h1 : W < 1000000000) :
    Calls Yba.prog 14 #[.agg #[.int .u64 W, .int .i64 E, .pointer none]] w fun e w' => e = .returned (.int .i64 W) ∧ w' = w.alloc (.cells #[.int .u64 W, .int .i64 E, .pointer none] 35) := by
  have t := time_cells w W E
  go_enter Yba.func14, Yba.ntmps14
  go_wp2_with fail
  refine (nsec_any _ _ W _ h0 h1 t.1).mono ?_
  rintro e w' ⟨rfl, rfl⟩
  go_wp2
  go_ret
  exact ⟨rfl, rfl⟩

/-- The nanoseconds since the Unix epoch, as Go reckons them. -/
def un (W E : Int) : Int := wrap64 (wrap64 (us E * 1000000000) + W)

set_option maxRecDepth 100000 in
theorem unixNano_any (W E : Int) (w : World) (h0 : 0 ≤ W) (h1 : W < 1000000000) :
    Calls Yba.prog 28 #[.agg #[.int .u64 W, .int .i64 E, .pointer none]] w fun e w' => e = .returned (.int .i64 (un W E)) ∧ w' = w.alloc (.cells #[.int .u64 W, .int .i64 E, .pointer none] 35) := by
  have t := time_cells w W E
  go_enter Yba.func28, Yba.ntmps28
  go_wp2_with fail
  refine (unixSec_any _ _ W E _ h0 h1 t.1 t.2).mono ?_
  rintro e w' ⟨rfl, rfl⟩
  go_wp2_with fail
  refine (nsec_any _ _ W _ h0 h1 t.1).mono ?_
  rintro e w' ⟨rfl, rfl⟩
  go_wp2
  go_ret
  exact ⟨rfl, rfl⟩

/-! ### sync/atomic.Int64 -/
theorem load64 (b off : Nat) (x : Int) (w : World) (hc : w.cell? ⟨b, off, none⟩ = some (.int .i64 x)) :
    Calls Yba.prog 15 #[.pointer (some ⟨b, off, none⟩)] w fun e w' => e = .returned (.int .i64 x) ∧ w' = w := by
  have h := run_call_load (P := Yba.prog) Yba.func23 (by kernel_rfl) (by kernel_rfl) (by kernel_rfl) .i64 (by kernel_rfl) hc
  go_enter Yba.func15, Yba.ntmps15
  go_wp2
  go_ret
  exact ⟨rfl, rfl⟩

theorem store64 (b off : Nat) (x y : Int) (w : World) (hc : w.cell? ⟨b, off, none⟩ = some (.int .i64 x)) (hz : w.frozen? ⟨b, off, none⟩ = false) :
    Calls Yba.prog 27 #[.pointer (some ⟨b, off, none⟩), .int .i64 y] w fun e w' => e = .returned (.tuple #[]) ∧ w' = w.setCell ⟨b, off, none⟩ (.int .i64 y) := by
  have h := run_call_store (P := Yba.prog) Yba.func30 (by kernel_rfl) (by kernel_rfl) (by kernel_rfl) (by kernel_rfl) (k := .i64) (y := y) hc hz
  go_enter Yba.func27, Yba.ntmps27
  go_wp2
  go_end0
  exact ⟨rfl, rfl⟩

/-! ### (*runClock).set -/
theorem two_cell {w : World} {o1 o2 : Obj} {b i : Nat} {v : Value} (hb : b < w.heap.size) (h : w.cell? ⟨b, i, none⟩ = some v) : ((w.alloc o1).alloc o2).drew.cell? ⟨b, i, none⟩ = some v := by
  rw [World.cell?_drew, World.cell?_alloc_past _ _ _ (by simp; omega), World.cell?_alloc_past _ _ _ hb]; exact h
theorem two_free {w : World} {o1 o2 : Obj} {b i : Nat} (hb : b < w.heap.size) (h : w.frozen? ⟨b, i, none⟩ = false) : ((w.alloc o1).alloc o2).drew.frozen? ⟨b, i, none⟩ = false := by
  rw [World.frozen?_drew, World.frozen?_alloc_past _ _ _ (by simp; omega), World.frozen?_alloc_past _ _ _ hb]; exact h
set_option maxHeartbeats 1000000 in
set_option maxRecDepth 100000 in
theorem set_any (b : Nat) (x W E : Int) (w : World) (hb : b < w.heap.size) (h0 : 0 ≤ W) (h1 : W < 1000000000) (hc : w.cell? ⟨b, 0, none⟩ = some (.int .i64 x)) (hz : w.frozen? ⟨b, 0, none⟩ = false) :
    Calls Yba.prog 19 #[.pointer (some ⟨b, 0, none⟩), .agg #[.int .u64 W, .int .i64 E, .pointer none]] w fun e w' => e = .returned (.tuple #[]) ∧ w' = (((w.setCell ⟨b, 0, none⟩ (.int .i64 (un W E))).alloc (.cells #[.int .u64 W, .int .i64 E, .pointer none] 35)).alloc (.cells #[.int .u64 W, .int .i64 E, .pointer none] 35)).drew := by
  go_enter Yba.func19, Yba.ntmps19
  go_wp2
  go_region_with (first | (go_at_call 28; refine (unixNano_any W E _ h0 h1).mono ?_; rintro e w' ⟨rfl, rfl⟩) | (go_at_call 27; refine (store64 _ _ x _ _ (by exact two_cell hb hc) (by exact two_free hb hz)).mono ?_; rintro e w' ⟨rfl, rfl⟩))
  go_wp2
  go_end0
  exact ⟨rfl, rfl⟩

#print axioms set_any

end Go.Proofs.Ybulkaiqg.Clock
