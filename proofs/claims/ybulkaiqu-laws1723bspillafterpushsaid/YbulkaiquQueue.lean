/-
  The run queue's atomics (sync/atomic.Uint32: Load, Store, CompareAndSwap) and (*runq).spill.
-/
import Derived.Test.YbulkaiquPtr
import Derived.WalkKit
import Derived.WalkSpells
import Derived.WalkLawsBesides
namespace Go.Proofs.Ybulkaiqu.Queue
open Go.RowKit

theorem load32 (b off : Nat) (x : Int) (w : World) (hc : w.cell? ⟨b, off, none⟩ = some (.int .u32 x)) :
    Calls Yba.prog 16 #[.pointer (some ⟨b, off, none⟩)] w fun e w' => e = .returned (.int .u32 x) ∧ w' = w := by
  have h := run_call_load (P := Yba.prog) Yba.func29 (by kernel_rfl) (by kernel_rfl) (by kernel_rfl) .u32 (by kernel_rfl) hc
  go_enter Yba.func16, Yba.ntmps16
  go_wp2
  go_ret
  exact ⟨rfl, rfl⟩

theorem store32 (b off : Nat) (x y : Int) (w : World) (hc : w.cell? ⟨b, off, none⟩ = some (.int .u32 x)) (hz : w.frozen? ⟨b, off, none⟩ = false) :
    Calls Yba.prog 14 #[.pointer (some ⟨b, off, none⟩), .int .u32 y] w fun e w' => e = .returned (.tuple #[]) ∧ w' = w.setCell ⟨b, off, none⟩ (.int .u32 y) := by
  have h := run_call_store (P := Yba.prog) Yba.func27 (by kernel_rfl) (by kernel_rfl) (by kernel_rfl) (by kernel_rfl) (k := .u32) (y := y) hc hz
  go_enter Yba.func14, Yba.ntmps14
  go_wp2
  go_end0
  exact ⟨rfl, rfl⟩

theorem cas32 (b off : Nat) (x y : Int) (w : World) (hc : w.cell? ⟨b, off, none⟩ = some (.int .u32 x)) (hz : w.frozen? ⟨b, off, none⟩ = false) :
    Calls Yba.prog 28 #[.pointer (some ⟨b, off, none⟩), .int .u32 x, .int .u32 y] w fun e w' => e = .returned (.bool true) ∧ w' = w.setCell ⟨b, off, none⟩ (.int .u32 y) := by
  have h := run_call_cas_hit (P := Yba.prog) Yba.func42 (by kernel_rfl) (by kernel_rfl) (by kernel_rfl) .u32 (by kernel_rfl) (y := y) hc hz
  go_enter Yba.func28, Yba.ntmps28
  go_wp2
  go_ret
  exact ⟨rfl, rfl⟩

/-! ### spill -/
theorem spill_full (b : Nat) (H T : Int) (w : World) (hH : w.cell? ⟨b, 0, none⟩ = some (.int .u32 H)) (hT : w.cell? ⟨b, 1, none⟩ = some (.int .u32 T)) (hz : w.frozen? ⟨b, 0, none⟩ = false) (hd : ((T - H) % 4294967296 != 256) = false) :
    Calls Yba.prog 15 #[.pointer (some ⟨b, 0, none⟩)] w fun e w' => e = .returned (.tuple #[.int .u32 H, .bool true]) ∧ w' = w.setCell ⟨b, 0, none⟩ (.int .u32 ((H + 128) % 4294967296)) := by
  go_enter Yba.func15, Yba.ntmps15
  go_wp2_with fail
  refine (load32 _ _ H _ hH).mono ?_
  rintro e w' ⟨rfl, rfl⟩
  go_wp2_with fail
  refine (load32 _ _ T _ hT).mono ?_
  rintro e w' ⟨rfl, rfl⟩
  go_wp2_with fail
  refine (cas32 _ _ H _ _ hH hz).mono ?_
  rintro e w' ⟨rfl, rfl⟩
  go_wp2
  go_ret2
  exact ⟨rfl, rfl⟩

theorem spill_not (b : Nat) (H T : Int) (w : World) (hH : w.cell? ⟨b, 0, none⟩ = some (.int .u32 H)) (hT : w.cell? ⟨b, 1, none⟩ = some (.int .u32 T)) (hd : ((T - H) % 4294967296 != 256) = true) :
    Calls Yba.prog 15 #[.pointer (some ⟨b, 0, none⟩)] w fun e w' => e = .returned (.tuple #[.int .u32 0, .bool false]) ∧ w' = w := by
  go_enter Yba.func15, Yba.ntmps15
  go_wp2_with fail
  refine (load32 _ _ H _ hH).mono ?_
  rintro e w' ⟨rfl, rfl⟩
  go_wp2_with fail
  refine (load32 _ _ T _ hT).mono ?_
  rintro e w' ⟨rfl, rfl⟩
  go_wp2
  go_ret2
  exact ⟨rfl, rfl⟩

/-! ### a new queue -/
def isQ (v : Value) : Bool := match v with
  | .agg cs => cs.size == 258 && (match cs.toList with | .int .u32 a :: .int .u32 b :: rest => a == 0 && b == 0 && rest.all (fun x => match x with | .pointer none => true | _ => false) | _ => false)
  | _ => false
theorem zero37_closed : ((Yba.prog.info? 37).bind (·.zero)).map isQ = some true := by kernel_rfl

theorem zero37 : ∃ Z : Array Value, (∀ w, (zeroValue 37).run Yba.prog w = .ok (.agg Z) w) ∧ Z.size = 258 ∧ Z[0]? = some (.int .u32 0) ∧ Z[1]? = some (.int .u32 0) ∧ ∀ j, j < 256 → Z[j + 2]? = some (.pointer none) := by
  have h := zero37_closed
  cases hi : Yba.prog.info? 37 with
  | none => rw [hi] at h; cases h
  | some i =>
    rw [hi] at h
    cases hz : i.zero with
    | none => simp [hz] at h
    | some v =>
      simp [hz] at h
      unfold isQ at h
      split at h
      · rename_i cs
        simp only [Bool.and_eq_true, beq_iff_eq] at h
        obtain ⟨hs, h⟩ := h
        split at h
        · rename_i a b rest hl
          simp only [Bool.and_eq_true, beq_iff_eq, List.all_eq_true] at h
          obtain ⟨⟨rfl, rfl⟩, hall⟩ := h
          refine ⟨cs, fun w => by simp [zeroValue, typeInfo, hi, hz], hs, ?_, ?_, fun j hj => ?_⟩
          · rw [← Array.getElem?_toList, hl]; rfl
          · rw [← Array.getElem?_toList, hl]; rfl
          · rw [← Array.getElem?_toList, hl]
            show rest[j]? = _
            have hlen : rest.length = 256 := by
              have := congrArg List.length hl
              simp [hs] at this
              omega
            rw [List.getElem?_eq_getElem (by omega)]
            have := hall _ (List.getElem_mem (by omega : j < rest.length))
            split at this
            · rename_i h'; rw [h']
            · cases this
        · cases h
      · cases h

#print axioms zero37
end Go.Proofs.Ybulkaiqu.Queue
