/-
  sync/atomic.Pointer[Task]: Load and Store; (*runq).push, len, spilled, pop.
-/
import Derived.Test.YbulkaiquQueue
import Derived.Deep.QuietTactic
import Derived.BigQuiet
import Derived.Deep.RegionWith
namespace Go.Proofs.Ybulkaiqu.Ring
open Go.RowKit
open Go.Proofs.Ybulkaiqu.Queue
section
variable {P : Program} {f : FuncId} {fn : Func}

theorem run_call_store_ptr (hf : P.funcs[f]? = some fn) (hname : (fn.name == "runtime.NumGoroutine") = false) (hb : fn.body.isNone = true) (hn : Extern.findNext fn = none)
    (he : Extern.find fn = some Extern.Atomic.storeT) {a : Addr} {p : Option Addr} {u : Value} {w : World} (hc : w.cell? a = some u) (hz : w.frozen? a = false) :
    (callFunc f #[.pointer (some a), .pointer p]).run P w = .ok (.value (.tuple #[])) (w.setCell a (.pointer p)) := by
  rw [run_callFunc_extern hf hname hb hn he]
  change (Sem.run P (do
    store (← asAddr (.pointer (some a))) (.pointer p) .atomic
    pure Extern.Atomic.none_) w).andThen _ = _
  simp [asAddr, hc, hz, run_store P w a (.pointer p) .atomic rfl, Result.andThen, Extern.Atomic.none_]

theorem run_call_load_ptr (hf : P.funcs[f]? = some fn) (hname : (fn.name == "runtime.NumGoroutine") = false) (hb : fn.body.isNone = true) (hn : Extern.findNext fn = none)
    (he : Extern.find fn = some (Extern.Atomic.loadT .ptr)) {a : Addr} {p : Option Addr} {w : World} (hc : w.cell? a = some (.pointer p)) :
    (callFunc f #[.pointer (some a)]).run P w = .ok (.value (.pointer p)) w := by
  rw [run_callFunc_extern hf hname hb hn he]
  change (Sem.run P (do Extern.Atomic.read .ptr (← asAddr (.pointer (some a)))) w).andThen _ = _
  simp [Extern.Atomic.read, asAddr, hc, Result.andThen]
end

/-- A zero Task. -/
def taskZ : Array Value := #[.nilFunc, .pointer none, .pointer none, .pointer none, .bool false, .bool false]

theorem lies105 : liesAt Yba.prog Yba.prog.depth 105 (taskZ.size / Yba.prog.cellsOf 105) 0 105 1 = true := by kernel_rfl

theorem from_unsafe (tb : Nat) (w : World) (h : w.heap[tb]? = some (.cells taskZ 105 (0, 0))) :
    (convert 29 25 (.pointer (some ⟨tb, 0, none⟩))).run Yba.prog w = .ok (.pointer (some ⟨tb, 0, none⟩)) w := by
  have hl := lies105
  simp [convert, Conv.unsafePointer, Conv.seenAt, viewAt, run_underlying Yba.underlying29, run_underlying Yba.underlying25, World.shape?, h, Yba.sizeOf105, variablesAt, hl, Result.andThen]

theorem to_unsafe (tb : Nat) (w : World) (h : w.heap[tb]? = some (.cells taskZ 105 (0, 0))) :
    (convert 25 29 (.pointer (some ⟨tb, 0, none⟩))).run Yba.prog w = .ok (.pointer (some ⟨tb, 0, none⟩)) w :=
  run_convert_to_unsafe Yba.underlying25 Yba.underlying29 (by kernel_rfl) (v := .nilFunc) (cell_of_row w tb 0 _ _ _ h)

theorem storeP (b off tb : Nat) (u : Value) (w : World) (ht : w.heap[tb]? = some (.cells taskZ 105 (0, 0))) (hc : w.cell? ⟨b, off, none⟩ = some u) (hz : w.frozen? ⟨b, off, none⟩ = false) :
    Calls Yba.prog 30 #[.pointer (some ⟨b, off, none⟩), .pointer (some ⟨tb, 0, none⟩)] w fun e w' => e = .returned (.tuple #[]) ∧ w' = w.setCell ⟨b, off, none⟩ (.pointer (some ⟨tb, 0, none⟩)) := by
  have h := run_call_store_ptr (P := Yba.prog) Yba.func43 (by kernel_rfl) (by kernel_rfl) (by kernel_rfl) (by kernel_rfl) (p := some ⟨tb, 0, none⟩) hc hz
  have k := to_unsafe tb w ht
  go_enter Yba.func30, Yba.ntmps30
  go_wp2
  go_end0
  exact ⟨rfl, rfl⟩

theorem loadP (b off tb : Nat) (w : World) (ht : w.heap[tb]? = some (.cells taskZ 105 (0, 0))) (hc : w.cell? ⟨b, off, none⟩ = some (.pointer (some ⟨tb, 0, none⟩))) :
    Calls Yba.prog 31 #[.pointer (some ⟨b, off, none⟩)] w fun e w' => e = .returned (.pointer (some ⟨tb, 0, none⟩)) ∧ w' = w := by
  have h := run_call_load_ptr (P := Yba.prog) Yba.func44 (by kernel_rfl) (by kernel_rfl) (by kernel_rfl) (by kernel_rfl) hc
  have k := from_unsafe tb w ht
  go_enter Yba.func31, Yba.ntmps31
  go_wp2
  go_ret
  exact ⟨rfl, rfl⟩

end Go.Proofs.Ybulkaiqu.Ring
