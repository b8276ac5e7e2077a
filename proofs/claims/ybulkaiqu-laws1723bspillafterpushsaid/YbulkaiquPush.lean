/-
  (*runq).push, len, spilled, pop by their contracts.
-/
import Derived.Test.YbulkaiquRing
namespace Go.Proofs.Ybulkaiqu.Ring
open Go.RowKit
open Go.Proofs.Ybulkaiqu.Queue

theorem push_room (b tb h t : Nat) (u : Value) (w : World) (ht32 : t < 4294967296) (hH : w.cell? ⟨b, 0, none⟩ = some (.int .u32 h)) (hT : w.cell? ⟨b, 1, none⟩ = some (.int .u32 t)) (hz : ∀ i, w.frozen? ⟨b, i, none⟩ = false)
    (htb : w.heap[tb]? = some (.cells taskZ 105 (0, 0))) (hc : w.cell? ⟨b, 2 + t % 256, none⟩ = some u) (hd : (((t : Int) - (h : Int)) % 4294967296 == 256) = false) :
    Calls Yba.prog 17 #[.pointer (some ⟨b, 0, none⟩), .pointer (some ⟨tb, 0, none⟩)] w fun e w' => e = .returned (.bool true) ∧ w' = (w.setCell ⟨b, 2 + t % 256, none⟩ (.pointer (some ⟨tb, 0, none⟩))).setCell ⟨b, 1, none⟩ (.int .u32 (((t : Int) + 1) % 4294967296)) := by
  have hT' : (w.setCell ⟨b, 2 + t % 256, none⟩ (.pointer (some ⟨tb, 0, none⟩))).cell? ⟨b, 1, none⟩ = some (.int .u32 t) := by rw [World.cell?_setCell_other _ _ _ _ (by simp <;> omega)]; exact hT
  have hz1 : (w.setCell ⟨b, 2 + t % 256, none⟩ (.pointer (some ⟨tb, 0, none⟩))).frozen? ⟨b, 1, none⟩ = false := by rw [World.frozen?_setCell]; exact hz 1
  have S1 := hide (store32 b 1 t (((t : Int) + 1) % 4294967296) _ hT' hz1)
  have S0 := hide (storeP b (2 + t % 256) tb u w htb hc (hz _))
  clear hT' hz1 hz htb hc
  go_enter Yba.func17, Yba.ntmps17
  go_wp2_with fail
  refine (load32 _ _ _ _ hT).mono ?_
  rintro e w' ⟨rfl, rfl⟩
  go_wp2_with fail
  refine (load32 _ _ _ _ hH).mono ?_
  rintro e w' ⟨rfl, rfl⟩
  go_wp2_with fail
  refine (unhide S0).mono ?_
  rintro e w1 ⟨rfl, rfl⟩
  go_wp2_with fail
  refine (unhide S1).mono ?_
  rintro e w2 ⟨rfl, rfl⟩
  go_wp2
  go_ret
  exact ⟨rfl, rfl⟩

theorem push_full (b : Nat) (h t : Int) (p : Option Addr) (w : World) (hH : w.cell? ⟨b, 0, none⟩ = some (.int .u32 h)) (hT : w.cell? ⟨b, 1, none⟩ = some (.int .u32 t)) (hd : ((t - h) % 4294967296 == 256) = true) :
    Calls Yba.prog 17 #[.pointer (some ⟨b, 0, none⟩), .pointer p] w fun e w' => e = .returned (.bool false) ∧ w' = w := by
  go_enter Yba.func17, Yba.ntmps17
  go_wp2_with fail
  refine (load32 _ _ _ _ hT).mono ?_
  rintro e w' ⟨rfl, rfl⟩
  go_wp2_with fail
  refine (load32 _ _ _ _ hH).mono ?_
  rintro e w' ⟨rfl, rfl⟩
  go_wp2
  go_ret
  exact ⟨rfl, rfl⟩

theorem len_any (b : Nat) (h t : Int) (w : World) (hH : w.cell? ⟨b, 0, none⟩ = some (.int .u32 h)) (hT : w.cell? ⟨b, 1, none⟩ = some (.int .u32 t)) :
    Calls Yba.prog 18 #[.pointer (some ⟨b, 0, none⟩)] w fun e w' => e = .returned (.int .i64 ((t - h) % 4294967296)) ∧ w' = w := by
  have hb1 : 0 ≤ (t - h) % 4294967296 := by omega
  have hb2 : (t - h) % 4294967296 < 4294967296 := by omega
  go_enter Yba.func18, Yba.ntmps18
  go_wp2_with fail
  refine (load32 _ _ _ _ hH).mono ?_
  rintro e w' ⟨rfl, rfl⟩
  go_wp2_with fail
  refine (load32 _ _ _ _ hT).mono ?_
  rintro e w' ⟨rfl, rfl⟩
  go_wp2
  go_ret
  exact ⟨rfl, rfl⟩

theorem spilled_any (b i tb : Nat) (w : World) (htb : w.heap[tb]? = some (.cells taskZ 105 (0, 0))) (hc : w.cell? ⟨b, 2 + i % 256, none⟩ = some (.pointer (some ⟨tb, 0, none⟩))) :
    Calls Yba.prog 19 #[.pointer (some ⟨b, 0, none⟩), .int .u32 i] w fun e w' => e = .returned (.pointer (some ⟨tb, 0, none⟩)) ∧ w' = w := by
  have S := hide (loadP b (2 + i % 256) tb w htb hc)
  clear htb hc
  go_enter Yba.func19, Yba.ntmps19
  go_wp2_with fail
  refine (unhide S).mono ?_
  rintro e w' ⟨rfl, rfl⟩
  go_wp2
  go_ret
  exact ⟨rfl, rfl⟩

theorem pop_none (b : Nat) (h : Int) (w : World) (hH : w.cell? ⟨b, 0, none⟩ = some (.int .u32 h)) (hT : w.cell? ⟨b, 1, none⟩ = some (.int .u32 h)) :
    Calls Yba.prog 20 #[.pointer (some ⟨b, 0, none⟩)] w fun e w' => e = .returned (.pointer none) ∧ w' = w := by
  go_enter Yba.func20, Yba.ntmps20
  go_wp2
  refine wp_loop_rounds 1 ?_
  rw [rounds_succ]
  go_wp2_with fail
  refine (load32 _ _ _ _ hH).mono ?_
  rintro e w' ⟨rfl, rfl⟩
  go_wp2_with fail
  refine (load32 _ _ _ _ hT).mono ?_
  rintro e w' ⟨rfl, rfl⟩
  go_wp2
  go_ret
  exact ⟨rfl, rfl⟩

theorem pop_some (b h tb : Nat) (t : Int) (w : World) (hH : w.cell? ⟨b, 0, none⟩ = some (.int .u32 h)) (hT : w.cell? ⟨b, 1, none⟩ = some (.int .u32 t)) (hz : w.frozen? ⟨b, 0, none⟩ = false) (hd : ((h : Int) == t) = false)
    (htb : w.heap[tb]? = some (.cells taskZ 105 (0, 0))) (hc : w.cell? ⟨b, 2 + h % 256, none⟩ = some (.pointer (some ⟨tb, 0, none⟩))) :
    Calls Yba.prog 20 #[.pointer (some ⟨b, 0, none⟩)] w fun e w' => e = .returned (.pointer (some ⟨tb, 0, none⟩)) ∧ w' = w.setCell ⟨b, 0, none⟩ (.int .u32 (((h : Int) + 1) % 4294967296)) := by
  have S := hide (loadP b (2 + h % 256) tb w htb hc)
  have C := hide (cas32 b 0 h (((h : Int) + 1) % 4294967296) w hH hz)
  clear htb hc hz
  go_enter Yba.func20, Yba.ntmps20
  go_wp2
  refine wp_loop_rounds 1 ?_
  rw [rounds_succ]
  go_wp2_with fail
  refine (load32 _ _ _ _ hH).mono ?_
  rintro e w' ⟨rfl, rfl⟩
  go_wp2_with fail
  refine (load32 _ _ _ _ hT).mono ?_
  rintro e w' ⟨rfl, rfl⟩
  go_wp2_with fail
  refine (unhide S).mono ?_
  rintro e w1 ⟨rfl, rfl⟩
  go_wp2_with fail
  refine (unhide C).mono ?_
  rintro e w2 ⟨rfl, rfl⟩
  go_wp2
  go_ret
  exact ⟨rfl, rfl⟩

end Go.Proofs.Ybulkaiqu.Ring
