/-
  The walk of LawS1723BSpillExact.
-/
import Derived.Test.YbulkaiquQueue
namespace Go.Proofs.Ybulkaiqu.Exact
open Go.RowKit
open Go.Proofs.Ybulkaiqu.Queue

/-- head and tail of the queue in block b, neither frozen; below B the world is as w was. -/
structure HT (w : World) (b : Nat) (H T : Int) (w' : World) : Prop where
  h : w'.cell? ⟨b, 0, none⟩ = some (.int .u32 H)
  t : w'.cell? ⟨b, 1, none⟩ = some (.int .u32 T)
  z : ∀ i, w'.frozen? ⟨b, i, none⟩ = false
  bel : Below w.heap.size w w'
  lo : w.heap.size ≤ b

theorem HT.head {w w' : World} {b : Nat} {H T : Int} (k : HT w b H T w') (H' : Int) : HT w b H' T (w'.setCell ⟨b, 0, none⟩ (.int .u32 H')) :=
  ⟨World.cell?_setCell_same _ _ _ k.h, by rw [World.cell?_setCell_other _ _ _ _ (by simp)]; exact k.t, fun i => by rw [World.frozen?_setCell]; exact k.z i, k.bel.setCell k.lo _, k.lo⟩
theorem HT.tail {w w' : World} {b : Nat} {H T : Int} (k : HT w b H T w') (T' : Int) : HT w b H T' (w'.setCell ⟨b, 1, none⟩ (.int .u32 T')) :=
  ⟨by rw [World.cell?_setCell_other _ _ _ _ (by simp)]; exact k.h, World.cell?_setCell_same _ _ _ k.t, fun i => by rw [World.frozen?_setCell]; exact k.z i, k.bel.setCell k.lo _, k.lo⟩

theorem new_ht {w : World} {Z : Array Value} (h0 : Z[0]? = some (.int .u32 0)) (h1 : Z[1]? = some (.int .u32 0)) : HT w w.heap.size 0 0 (w.alloc (.cells Z 37)) :=
  ⟨by rw [World.cell?_alloc_at _ _ _ _ rfl]; exact h0, by rw [World.cell?_alloc_at _ _ _ _ rfl]; exact h1, fun i => World.frozen?_alloc_at _ _ _ _ rfl, (Below.refl _ _).alloc (Nat.le_refl _) _, Nat.le_refl _⟩

set_option maxHeartbeats 1000000 in
set_option maxRecDepth 100000 in
theorem walk_full (a0 d : Int) (w : World) :
    Calls Yba.prog 4 #[.int .u32 a0, .int .u32 d, .bool true] w fun e w' => e = .returned (.bool true) ∧ Below w.heap.size w w' := by
  obtain ⟨Z, hZ, _, z0, z1, _⟩ := zero37
  have k0 := new_ht (w := w) z0 z1
  have hd : (((a0 + 256) % 4294967296 - a0) % 4294967296 != 256) = false := by
    have : ((a0 + 256) % 4294967296 - a0) % 4294967296 = 256 := by omega
    simp [this]
  go_enter Yba.func4, Yba.ntmps4
  go_wp2_with fail
  generalize w.alloc (Obj.cells Z 37) = wq at k0 ⊢
  refine (store32 _ _ 0 _ _ k0.h (k0.z 0)).mono ?_
  rintro e w1 ⟨rfl, rfl⟩
  have k1 := k0.head a0
  clear k0
  generalize wq.setCell ⟨w.heap.size, 0, none⟩ (.int .u32 a0) = w1 at k1 ⊢
  go_wp2_with fail
  refine (store32 _ _ 0 _ _ k1.t (k1.z 1)).mono ?_
  rintro e w2 ⟨rfl, rfl⟩
  have k2 := k1.tail ((a0 + 256) % 4294967296)
  clear k1
  generalize w1.setCell ⟨w.heap.size, 1, none⟩ (.int .u32 ((a0 + 256) % 4294967296)) = w2 at k2 ⊢
  go_wp2_with fail
  refine (spill_full _ a0 _ _ k2.h k2.t (k2.z 0) hd).mono ?_
  rintro e w3 ⟨rfl, rfl⟩
  have k3 := k2.head ((a0 + 128) % 4294967296)
  clear k2
  generalize w2.setCell ⟨w.heap.size, 0, none⟩ (.int .u32 ((a0 + 128) % 4294967296)) = w3 at k3 ⊢
  go_wp2_with fail
  refine (load32 _ _ _ _ k3.t).mono ?_
  rintro e w4 ⟨rfl, rfl⟩
  go_wp2_with fail
  refine (load32 _ _ _ _ k3.h).mono ?_
  rintro e w4 ⟨rfl, rfl⟩
  go_wp2
  go_ret
  exact ⟨rfl, k3.bel⟩

set_option maxHeartbeats 1000000 in
set_option maxRecDepth 100000 in
theorem walk_same (a0 : Int) (w : World) :
    Calls Yba.prog 4 #[.int .u32 a0, .int .u32 256, .bool false] w fun e w' => e = .returned (.bool true) ∧ Below w.heap.size w w' := by
  obtain ⟨Z, hZ, _, z0, z1, _⟩ := zero37
  have k0 := new_ht (w := w) z0 z1
  have hd : (((a0 + 256) % 4294967296 - a0) % 4294967296 != 256) = false := by
    have : ((a0 + 256) % 4294967296 - a0) % 4294967296 = 256 := by omega
    simp [this]
  go_enter Yba.func4, Yba.ntmps4
  go_wp2_with fail
  generalize w.alloc (Obj.cells Z 37) = wq at k0 ⊢
  refine (store32 _ _ 0 _ _ k0.h (k0.z 0)).mono ?_
  rintro e w1 ⟨rfl, rfl⟩
  have k1 := k0.head a0
  clear k0
  generalize wq.setCell ⟨w.heap.size, 0, none⟩ (.int .u32 a0) = w1 at k1 ⊢
  go_wp2_with fail
  refine (store32 _ _ 0 _ _ k1.t (k1.z 1)).mono ?_
  rintro e w2 ⟨rfl, rfl⟩
  have k2 := k1.tail ((a0 + 256) % 4294967296)
  clear k1
  generalize w1.setCell ⟨w.heap.size, 1, none⟩ (.int .u32 ((a0 + 256) % 4294967296)) = w2 at k2 ⊢
  go_wp2_with fail
  refine (spill_full _ a0 _ _ k2.h k2.t (k2.z 0) hd).mono ?_
  rintro e w3 ⟨rfl, rfl⟩
  have k3 := k2.head ((a0 + 128) % 4294967296)
  clear k2
  generalize w2.setCell ⟨w.heap.size, 0, none⟩ (.int .u32 ((a0 + 128) % 4294967296)) = w3 at k3 ⊢
  go_wp2_with fail
  refine (load32 _ _ _ _ k3.t).mono ?_
  rintro e w4 ⟨rfl, rfl⟩
  go_wp2_with fail
  refine (load32 _ _ _ _ k3.h).mono ?_
  rintro e w4 ⟨rfl, rfl⟩
  go_wp2
  go_ret
  exact ⟨rfl, k3.bel⟩

set_option maxHeartbeats 1000000 in
set_option maxRecDepth 100000 in
theorem walk_not (a0 d : Int) (w : World) (g0 : 0 ≤ d) (g1 : d ≤ 4294967295) (hne : d ≠ 256) :
    Calls Yba.prog 4 #[.int .u32 a0, .int .u32 d, .bool false] w fun e w' => e = .returned (.bool true) ∧ Below w.heap.size w w' := by
  obtain ⟨Z, hZ, _, z0, z1, _⟩ := zero37
  have k0 := new_ht (w := w) z0 z1
  have hd : (((a0 + d) % 4294967296 - a0) % 4294967296 != 256) = true := by
    have : ((a0 + d) % 4294967296 - a0) % 4294967296 = d := by omega
    simp [this, hne]
  have hq : (d == 256) = false := by simpa using hne
  clear hne
  go_enter Yba.func4, Yba.ntmps4
  go_wp2_with fail
  generalize w.alloc (Obj.cells Z 37) = wq at k0 ⊢
  refine (store32 _ _ 0 _ _ k0.h (k0.z 0)).mono ?_
  rintro e w1 ⟨rfl, rfl⟩
  have k1 := k0.head a0
  clear k0
  generalize wq.setCell ⟨w.heap.size, 0, none⟩ (.int .u32 a0) = w1 at k1 ⊢
  go_wp2_with fail
  refine (store32 _ _ 0 _ _ k1.t (k1.z 1)).mono ?_
  rintro e w2 ⟨rfl, rfl⟩
  have k2 := k1.tail ((a0 + d) % 4294967296)
  clear k1
  generalize w1.setCell ⟨w.heap.size, 1, none⟩ (.int .u32 ((a0 + d) % 4294967296)) = w2 at k2 ⊢
  go_wp2_with fail
  refine (spill_not _ a0 _ _ k2.h k2.t hd).mono ?_
  rintro e w3 ⟨rfl, rfl⟩
  go_wp2_with fail
  refine (load32 _ _ _ _ k2.t).mono ?_
  rintro e w4 ⟨rfl, rfl⟩
  go_wp2_with fail
  refine (load32 _ _ _ _ k2.h).mono ?_
  rintro e w4 ⟨rfl, rfl⟩
  go_wp2
  go_ret
  exact ⟨rfl, k2.bel⟩

theorem walk (a0 d : Int) (f : Bool) (w : World) (g0 : 0 ≤ d) (g1 : d ≤ 4294967295) :
    Calls Yba.prog 4 #[.int .u32 a0, .int .u32 d, .bool f] w fun e w' => e = .returned (.bool true) ∧ Below w.heap.size w w' := by
  cases f with
  | true => exact walk_full a0 d w
  | false =>
    by_cases hd : d = 256
    · subst hd; exact walk_same a0 w
    · exact walk_not a0 d w g0 g1 hd
#print axioms walk
end Go.Proofs.Ybulkaiqu.Exact
