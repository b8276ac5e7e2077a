import Derived.Test.YbulkaiqgClock2
namespace Go.Proofs.Ybulkaiqg.Clock
open Go.RowKit

set_option maxHeartbeats 1000000 in
set_option maxRecDepth 100000 in
theorem addSec_any (b : Nat) (W E d : Int) (w : World) (h0 : 0 ≤ W) (h1 : W < 1000000000) (hc : w.cell? ⟨b, 0, none⟩ = some (.int .u64 W)) (hc1 : w.cell? ⟨b, 1, none⟩ = some (.int .i64 E)) (hz : ∀ i, w.frozen? ⟨b, i, none⟩ = false) :
    Calls Yba.prog 25 #[.pointer (some ⟨b, 0, none⟩), .int .i64 d] w fun e w' => e = .returned (.tuple #[]) ∧ ∃ E', w' = w.setCell ⟨b, 1, none⟩ (.int .i64 E') := by
  have hf := flag_off h0 h1
  go_enter Yba.func25, Yba.ntmps25
  go_wp2
  all_goals (go_end0; exact ⟨rfl, _, rfl⟩)

set_option maxHeartbeats 1000000 in
set_option maxRecDepth 100000 in
theorem add_any (W E d : Int) (w : World) (h0 : 0 ≤ W) (h1 : W < 1000000000) :
    Calls Yba.prog 18 #[.agg #[.int .u64 W, .int .i64 E, .pointer none], .int .i64 d] w fun e w' => ∃ W' E' : Int, e = .returned (.agg #[.int .u64 W', .int .i64 E', .pointer none]) ∧ 0 ≤ W' ∧ W' < 1000000000 ∧ Below w.heap.size w w' := by
  have ht1 := Int.tmod_lt_of_pos d (show (0 : Int) < 1000000000 by omega)
  have ht2 : -1000000000 < d.tmod 1000000000 := by have := Int.tmod_lt_of_pos (-d) (show (0 : Int) < 1000000000 by omega); rw [Int.neg_tmod] at this; omega
  have hm := mask_out h0 h1
  by_cases c1 : 1000000000 ≤ W + d.tmod 1000000000
  · have ho := or_zero (n := W + d.tmod 1000000000 - 1000000000) (by omega) (by omega)
    have hf := flag_off (W := W + d.tmod 1000000000 - 1000000000) (by omega) (by omega)
    go_enter Yba.func18, Yba.ntmps18
    go_wp2_with fail
    refine (nsec_any _ _ W _ h0 h1 ?_).mono ?_
    · simp
    rintro e w1 ⟨rfl, rfl⟩
    go_wp2_with fail
    refine (addSec_any _ (W + d.tmod 1000000000 - 1000000000) E _ _ (by omega) (by omega) ?_ ?_ ?_).mono ?_
    · simp
    · simp
    · intro i; simp
    rintro e w1 ⟨rfl, E', rfl⟩
    go_wp2
    refine bodyPost_ret (v := .agg #[.int .u64 (W + d.tmod 1000000000 - 1000000000), .int .i64 E', .pointer none]) (by simp [results, Yba.results18, go_sem]) rfl ⟨W + d.tmod 1000000000 - 1000000000, E', rfl, by omega, by omega, ?_⟩
    exact ((Below.refl _ _).alloc (Nat.le_refl _) _).alloc (by simp) _
  by_cases c2 : W + d.tmod 1000000000 < 0
  · have ho := or_zero (n := W + d.tmod 1000000000 + 1000000000) (by omega) (by omega)
    have hf := flag_off (W := W + d.tmod 1000000000 + 1000000000) (by omega) (by omega)
    go_enter Yba.func18, Yba.ntmps18
    go_wp2_with fail
    refine (nsec_any _ _ W _ h0 h1 ?_).mono ?_
    · simp
    rintro e w1 ⟨rfl, rfl⟩
    go_wp2_with fail
    refine (addSec_any _ (W + d.tmod 1000000000 + 1000000000) E _ _ (by omega) (by omega) ?_ ?_ ?_).mono ?_
    · simp
    · simp
    · intro i; simp
    rintro e w1 ⟨rfl, E', rfl⟩
    go_wp2
    refine bodyPost_ret (v := .agg #[.int .u64 (W + d.tmod 1000000000 + 1000000000), .int .i64 E', .pointer none]) (by simp [results, Yba.results18, go_sem]) rfl ⟨W + d.tmod 1000000000 + 1000000000, E', rfl, by omega, by omega, ?_⟩
    exact ((Below.refl _ _).alloc (Nat.le_refl _) _).alloc (by simp) _
  · have ho := or_zero (n := W + d.tmod 1000000000) (by omega) (by omega)
    have hf := flag_off (W := W + d.tmod 1000000000) (by omega) (by omega)
    go_enter Yba.func18, Yba.ntmps18
    go_wp2_with fail
    refine (nsec_any _ _ W _ h0 h1 ?_).mono ?_
    · simp
    rintro e w1 ⟨rfl, rfl⟩
    go_wp2_with fail
    refine (addSec_any _ (W + d.tmod 1000000000) E _ _ (by omega) (by omega) ?_ ?_ ?_).mono ?_
    · simp
    · simp
    · intro i; simp
    rintro e w1 ⟨rfl, E', rfl⟩
    go_wp2
    refine bodyPost_ret (v := .agg #[.int .u64 (W + d.tmod 1000000000), .int .i64 E', .pointer none]) (by simp [results, Yba.results18, go_sem]) rfl ⟨W + d.tmod 1000000000, E', rfl, by omega, by omega, ?_⟩
    exact ((Below.refl _ _).alloc (Nat.le_refl _) _).alloc (by simp) _
#print axioms add_any
end Go.Proofs.Ybulkaiqg.Clock
