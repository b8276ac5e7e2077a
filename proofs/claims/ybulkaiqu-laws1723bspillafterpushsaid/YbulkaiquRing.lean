/-
  sync/atomic.Pointer[Task]: Load and Store; (*runq).push, len, spilled, pop.
-/
import Derived.Test.YbulkaiquQueue
import Derived.Deep.QuietTactic
import Derived.BigQuiet
import Derived.Deep.RegionWith
namespace Go.Proofs.Ybulkaiqu.Ring
open Go.RowKit
open Go.Proofs.Ybulkaiqu.Queue
section
variable {P : Program} {f : FuncId} {fn : Func}

theorem run_call_store_ptr (hf : P.funcs[f]? = some fn) (hname : (fn.name == "runtime.NumGoroutine") = false) (hb : fn.body.isNone = true) (hn : Extern.findNext fn = none)
    (he : Extern.find fn = some Extern.Atomic.storeT) {a : Addr} {p : Option Addr} {u : Value} {w : World} (hc : w.cell? a = some u) (hz : w.frozen? a = false) :
    (callFunc f #[.pointer (some a), .pointer p]).run P w = .ok (.value (.tuple #[])) (w.setCell a (.pointer p)) := by
  rw [run_callFunc_extern hf hname hb hn he]
  change (Sem.run P (do
    store (← asAddr (.pointer (some a))) (.pointer p) .atomic
    pure Extern.Atomic.none_) w).andThen _ = _
  simp [asAddr, hc, hz, run_store P w a (.pointer p) .atomic rfl, Result.andThen, Extern.Atomic.none_]

theorem run_call_load_ptr (hf : P.funcs[f]? = some fn) (hname : (fn.name == "runtime.NumGoroutine") = false) (hb : fn.body.isNone = true) (hn : Extern.findNext fn = none)
    (he : Extern.find fn = some (Extern.Atomic.loadT .ptr)) {a : Addr} {p : Option Addr} {w : World} (hc : w.cell? a = some (.pointer p)) :
    (callFunc f #[.pointer (some a)]).run P w = .ok (.value (.pointer p)) w := by
  rw [run_callFunc_extern hf hname hb hn he]
  change (Sem.run P (do Extern.Atomic.read .ptr (← asAddr (.pointer (some a)))) w).andThen _ = _
  simp [Extern.Atomic.read, asAddr, hc, Result.andThen]
end

/-- A zero Task. -/
def taskZ : Array Value := #[.nilFunc, .pointer none, .pointer none, .pointer none, .bool false, .bool false]

theorem lies105 : liesAt Yba.prog Yba.prog.depth 105 (taskZ.size / Yba.prog.cellsOf 105) 0 105 1 = true := by kernel_rfl

/-- A pointer's conversion to the pointer type 29 without element: the same address. -/
theorem addr_of {src t : TypeId} (hs : Yba.prog.underlying src = some (.pointer t)) (hsz : (Yba.prog.info? t).map (fun i => decide (i.size = 0)) = some false) {a : Addr} {v : Value} {w : World} (hc : w.cell? a = some v) :
    (convert src 29 (.pointer (some a))).run Yba.prog w = .ok (.pointer (some a)) w := by
  obtain ⟨e, n, hsh, hlt, hsp⟩ := World.shape?_of_cell? hc
  obtain ⟨i, hi, hz0⟩ := Option.map_eq_some_iff.1 hsz
  have hz : i.size ≠ 0 := by simpa using hz0
  have hge : ¬ (n ≤ a.off) := by omega
  simp only [convert, Sem.run_bind, run_underlying hs, run_underlying Yba.underlying29, Result.andThen]
  change Sem.run Yba.prog (underlying src >>= _) w = _
  simp [Conv.seenAt, viewAt, cellsIn, sizeOf, typeInfo, run_underlying hs, run_underlying Yba.underlying29, hi, hz, hsh, hge, Result.andThen]

theorem task_of (tb : Nat) (w : World) (h : w.heap[tb]? = some (.cells taskZ 105 (0, 0))) :
    (convert 29 25 (.pointer (some ⟨tb, 0, none⟩))).run Yba.prog w = .ok (.pointer (some ⟨tb, 0, none⟩)) w := by
  have hl := lies105
  simp only [convert, Sem.run_bind, run_underlying Yba.underlying25, run_underlying Yba.underlying29, Result.andThen]
  change Sem.run Yba.prog (underlying 29 >>= _) w = _
  simp [Conv.seenAt, viewAt, run_underlying Yba.underlying29, run_underlying Yba.underlying25, World.shape?, h, Yba.sizeOf105, variablesAt, hl, Result.andThen]

theorem task_to (tb : Nat) (w : World) (h : w.heap[tb]? = some (.cells taskZ 105 (0, 0))) :
    (convert 25 29 (.pointer (some ⟨tb, 0, none⟩))).run Yba.prog w = .ok (.pointer (some ⟨tb, 0, none⟩)) w :=
  addr_of Yba.underlying25 (by kernel_rfl) (v := .nilFunc) (cell_of_row w tb 0 _ _ _ h)

theorem storeP (b off tb : Nat) (u : Value) (w : World) (ht : w.heap[tb]? = some (.cells taskZ 105 (0, 0))) (hc : w.cell? ⟨b, off, none⟩ = some u) (hz : w.frozen? ⟨b, off, none⟩ = false) :
    Calls Yba.prog 30 #[.pointer (some ⟨b, off, none⟩), .pointer (some ⟨tb, 0, none⟩)] w fun e w' => e = .returned (.tuple #[]) ∧ w' = w.setCell ⟨b, off, none⟩ (.pointer (some ⟨tb, 0, none⟩)) := by
  have h := run_call_store_ptr (P := Yba.prog) Yba.func43 (by kernel_rfl) (by kernel_rfl) (by kernel_rfl) (by kernel_rfl) (p := some ⟨tb, 0, none⟩) hc hz
  have k := task_to tb w ht
  go_enter Yba.func30, Yba.ntmps30
  go_wp2
  go_end0
  exact ⟨rfl, rfl⟩

theorem loadP (b off tb : Nat) (w : World) (ht : w.heap[tb]? = some (.cells taskZ 105 (0, 0))) (hc : w.cell? ⟨b, off, none⟩ = some (.pointer (some ⟨tb, 0, none⟩))) :
    Calls Yba.prog 31 #[.pointer (some ⟨b, off, none⟩)] w fun e w' => e = .returned (.pointer (some ⟨tb, 0, none⟩)) ∧ w' = w := by
  have h := run_call_load_ptr (P := Yba.prog) Yba.func44 (by kernel_rfl) (by kernel_rfl) (by kernel_rfl) (by kernel_rfl) hc
  have k := task_of tb w ht
  go_enter Yba.func31, Yba.ntmps31
  go_wp2
  go_ret
  exact ⟨rfl, rfl⟩

end Go.Proofs.Ybulkaiqu.Ring
