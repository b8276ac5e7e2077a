/-
  The walk of LawS1723CDistinct.
-/
import Derived.Test.YbulkaiquMany
import Derived.WalkKit
import Derived.WalkSpells
import Derived.WalkLawsBesides
import Derived.Deep.QuietTactic
import Derived.BigQuiet
import Derived.Maps.AppendAt
namespace Go.Proofs.Ybulkaiqu.Distinct
open Go.RowKit
open Go.Proofs.Ybulkaiqu.Group Go.Proofs.Ybulkaiqu.Many

theorem Yba.info103 : (Yba.prog.info? 103).map (fun i => (i.zero, i.size, i.bytes)) = some (some (.pointer none), 1, 8) := by kernel_rfl

set_option maxHeartbeats 2000000 in
set_option maxRecDepth 100000 in
theorem walk (a0 : Int) (hk0 : 0 ≤ a0) (hk1 : a0 ≤ 255) (w : World) :
    Calls Yba.prog 7 #[.int .u8 a0] w fun e w' => e = .returned (.bool true) ∧ Below w.heap.size w w' := by
  obtain ⟨Z, hZ, hz⟩ := zero93
  obtain ⟨i0, hi, hz0, hz1, hz2⟩ := info_parts Yba.info103
  obtain ⟨n, hn⟩ : ∃ n : Nat, a0 % 8 + 1 = (n : Int) := ⟨(a0 % 8 + 1).toNat, by omega⟩
  have hn1 : 1 ≤ n := by omega
  have hn8 : n ≤ 8 := by omega
  have hm1 : 0 ≤ a0 % 8 := by omega
  have hm2 : a0 % 8 < 8 := by omega
  go_enter Yba.func7, Yba.ntmps7
  go_wp2_with (at_make; refine wpList_make_own _ rfl _ _ 114 rfl (w.heap.size + 1) 103 i0 (.pointer none) 1 Yba.underlying114 hi hz0 hz1 _ _ _ 8 rfl rfl rfl ?b2 ?b3 ?b4 ?_)
  case b2 => rw [hz2]; decide
  case b3 => decide
  case b4 => simp
  intro w1 hown hgrow
  have hown' : w1.ownsRow (w.heap.size + 1) 103 1 (.slice (some ⟨w.heap.size + 1, 0, none⟩) 0 8) 0 [] := by simpa using hown
  have I0 : Inv w w1 ⟨w.heap.size, 0, none⟩ (w.heap.size + 1) 0 [] := ⟨rfl, hown', by simp, by simp, ((Below.refl _ _).alloc (Nat.le_refl _) _).grown hgrow (by simp) (fun k e => by cases e), by omega, by
    rcases hown'.2 with ⟨h', _⟩ | ⟨g, cap, cur, h', _, hg, _⟩
    · cases h'
    · cases h'; exact (Array.getElem?_eq_some_iff.1 hg).1⟩
  clear hown hown' hgrow
  go_wp2
  go_loopw [5, 6] (fun s i wr => ∃ (k : Nat) (fs : List Nat), k ≤ n ∧ i = .int .i64 k ∧ s = .slice (some ⟨w.heap.size + 1, 0, none⟩) k 8 ∧ Inv w wr ⟨w.heap.size, 0, none⟩ (w.heap.size + 1) k fs) (fun _ i _ => n - (intOf i).toNat)
  case atStart => exact ⟨0, [], Nat.zero_le _, rfl, rfl, I0⟩
  case round =>
    clear I0
    obtain ⟨k, fs, hk, rfl, rfl, I⟩ := hrel
    by_cases hlt : k < n
    · go_wp2_with fail
      refine (newGroup_any _ _).mono ?_
      rintro e w2 ⟨rfl, hf, hb2, hs2⟩
      have F := hide hf
      have S2 := hide hs2
      clear hf hs2
      go_wp2_with fail
      refine (fresh_any _ _ _ _ (unhide F)).mono ?_
      rintro e w3 ⟨rfl, q, rfl⟩
      have F3 : Hid (Fresh (w2.drewN q) ⟨w.heap.size, 0, none⟩ wr.heap.size (wr.heap.size + 1)) := ⟨(unhide F).g, (unhide F).c⟩
      have S3 : Hid ((w2.drewN q).heap.size = wr.heap.size + 2) := unhide S2
      have hb3 := below_drewN hb2 q
      clear F S2 hb2
      generalize w2.drewN q = w3 at F3 S3 hb3 ⊢
      have hown3 := own_below I.own hb3
      go_wp2_with (at_builtin; refine wpList_append_fits _ rfl (.tmp 28) (.tmp 30) 114 rfl (w.heap.size + 1) 103 i0 1 Yba.underlying114 hi hz1 (w.heap.size + 1) k 8 _ rfl (hown3.alloc _) ⟨w3.heap.size, 0, none⟩ 1 1 [.pointer (some ⟨wr.heap.size, 0, none⟩)] rfl rfl (cell_one_new _ _ _) (by intro u hu; simp at hu; subst hu; rfl) (by omega) ?_; intro w4 hown4 hgrow4)
      have I' := I.step (unhide F3) hb3 (unhide S3) hgrow4 hown4
      clear hown4 hgrow4 hown3 F3 S3 hb3 I
      go_wp2
      go_roundw
      case rel => exact ⟨k + 1, _, by omega, by go_num, rfl, I'⟩
      case measure => simp [intOf]; omega
    · have e : k = n := by omega
      subst e
      go_wp2
      obtain ⟨wo, rfl⟩ : ∃ wo : World, wo = wr := ⟨_, rfl⟩
      go_loopw [8] (fun i wr => ∃ p : Nat, p ≤ k ∧ i = .int .i64 p ∧ Inv w wr ⟨w.heap.size, 0, none⟩ (w.heap.size + 1) k fs) (fun i _ => k - (intOf i).toNat)
      case atStart => exact ⟨0, Nat.zero_le _, rfl, I⟩
      case round =>
        clear I
        obtain ⟨p, hp, rfl, I⟩ := hrel
        by_cases hpk : p < k
        · go_wp2
          obtain ⟨wp, rfl⟩ : ∃ wp : World, wp = wr := ⟨_, rfl⟩
          go_loopw [9] (fun j wr => ∃ q : Nat, p < q ∧ q ≤ k ∧ j = .int .i64 q ∧ Inv w wr ⟨w.heap.size, 0, none⟩ (w.heap.size + 1) k fs) (fun j _ => k - (intOf j).toNat)
          case atStart => exact ⟨p + 1, by omega, by omega, by go_num, I⟩
          case round =>
            clear I
            obtain ⟨q, hpq, hq, rfl, I⟩ := hrel
            by_cases hqk : q < k
            · obtain ⟨a, b, ⟨ci, cj⟩, hab, ⟨d1, d2⟩, ⟨l1, l2⟩, e1, e2, e3⟩ := I.pair hpq hqk
              go_wp2
              go_quiet (fail)
              go_wp2
              have I2 := I.drewN nq
              clear ci cj hab d1 d2 l1 l2 e1 e2 e3 I
              generalize wr.drewN nq = wq at I2 ⊢
              obtain ⟨a2, b2, ⟨ci, cj⟩, hab, ⟨d1, d2⟩, ⟨l1, l2⟩, e1, e2, e3⟩ := I2.pair hpq hqk
              go_quiet (fail)
              go_wp2
              go_roundw
              case rel => exact ⟨q + 1, by omega, by omega, by go_num, I2.drewN _⟩
              case measure => simp [intOf]; omega
            · go_wp2
              go_roundw
              case rel => exact ⟨p + 1, by omega, by go_num, I⟩
              case measure => simp [intOf]; omega
        · go_wp2
          go_ret
          exact ⟨rfl, I.bel⟩

#print axioms walk
end Go.Proofs.Ybulkaiqu.Distinct
