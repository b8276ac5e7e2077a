/-
  slices.Delete(s, 0, 1) at []*blocking, s a slice whose capacity is its length: what stood behind the first element moves one to the left; the last cell is nil.
-/
import Derived.Test.YbulkaiquPtr
import Derived.WalkKit
import Derived.WalkSpells
import Derived.WalkLawsBesides
import Derived.Deep.RegionLaw
import Derived.Lib.SliceRun
namespace Go.Proofs.Ybulkaiqu.Delete
open Go.RowKit

theorem Yba.info58 : (Yba.prog.info? 58).map (fun i => (i.zero, i.size, i.bytes)) = some (some (.pointer none), 1, 8) := by kernel_rfl

set_option maxHeartbeats 1600000 in
set_option maxRecDepth 1000000 in
theorem delete_any (b n : Nat) (xs : List Value) (w : World) (hn : 1 ≤ n) (hn4 : n ≤ 1024) (hl : xs.length = n) (h1 : ∀ u ∈ xs, u.oneCell' = true)
    (hc : ∀ (j : Nat) u, xs[j]? = some u → w.cell? ⟨b, j, none⟩ = some u) (hf : ∀ j, w.frozen? ⟨b, j, none⟩ = false) :
    Calls Yba.prog 38 #[.slice (some ⟨b, 0, none⟩) n n, .int .i64 0, .int .i64 1] w fun e w' => e = .returned (.slice (some ⟨b, 0, none⟩) (n - 1) n) ∧ w' = (w.drew.setCells b 0 xs.tail).setCells b (n - 1) [.pointer none] := by
  obtain ⟨i0, hi0, hz0, hz1, hz2⟩ := info_parts Yba.info58
  have hlen : xs.tail.length = n - 1 := by simp [hl]
  have hsome : ∀ j, j < n → (w.cell? ⟨b, j, none⟩).isSome = true := fun j hj => by rw [hc j _ (List.getElem?_eq_getElem (by omega))]; rfl
  obtain ⟨A, hA, hnews⟩ : ∃ A : Addr, (if n = 1 then some (⟨b, 0, none⟩ : Addr) else some ⟨b, 1, none⟩) = some A ∧ Hid (∀ j u, xs.tail[j]? = some u → w.drew.cell? (A.add j) = some u) := by
    by_cases h : n = 1
    · refine ⟨⟨b, 0, none⟩, by simp [h], fun j u hu => ?_⟩
      have := (List.getElem?_eq_some_iff.1 hu).1
      omega
    · refine ⟨⟨b, 1, none⟩, by simp [h], fun j u hu => ?_⟩
      rw [List.getElem?_tail, Nat.add_comm] at hu
      rw [Addr.add_lit]
      exact hc _ _ hu
  have s1 : Hid (xs.tail.length = (n - 1) * 1) := by rw [Nat.mul_one]; exact hlen
  have s2 : Hid (∀ u ∈ xs.tail, u.oneCell' = true) := fun u hu => h1 u (List.mem_of_mem_tail hu)
  have s3 : Hid (∀ j, j < xs.tail.length → (w.drew.cell? ⟨b, 0 + 0 * 1 + j, none⟩).isSome = true ∧ w.drew.frozen? ⟨b, 0 + 0 * 1 + j, none⟩ = false) := fun j hj => by
    simp only [Nat.zero_mul, Nat.zero_add]
    exact ⟨hsome j (by omega), hf j⟩
  have e1 : n - (n - 1) = 1 := by omega
  have hcl := hide (Lib.run_clear_slice (P := Yba.prog) (w.drew.setCells b 0 xs.tail) 57 58 0 (.pointer none) Yba.underlying57 (fun w => by simp [zeroValue, typeInfo, hi0, hz0]) rfl rfl b (n - 1) (n - (n - 1)) (n - (n - 1)) (by omega)
    (fun j hj => by
      have : j = 0 := by omega
      subst this
      rw [World.cell?_setCells_out b _ _ _ _ (fun _ _ => .inr (by simp [hl]))]
      exact hsome _ (by simp; omega))
    (fun j hj => by rw [World.frozen?_setCells]; exact hf _))
  have hni : (1 : Int) ≤ (n : Int) := by omega
  clear hc hf hsome h1 e1
  go_enter Yba.func38, Yba.ntmps38
  go_wp2_with fail
  go_region_law (refine step_append_room rfl (.tmp 22) (.tmp 25) 57 rfl 58 i0 1 Yba.underlying57 hi0 hz1 b 0 0 n (by simp [Act.eval, Act.put]) A (n - 1) (n - 1) xs.tail (by simp [Act.eval, Act.put]) s1.out hnews.out s2.out (by omega) s3.out ?_)
  have hcl' := unhide hcl
  go_wp2
  go_ret
  refine ⟨rfl, ?_⟩
  rw [show n - (n - 1) = 1 by omega]
  rfl
#print axioms delete_any

end Go.Proofs.Ybulkaiqu.Delete
