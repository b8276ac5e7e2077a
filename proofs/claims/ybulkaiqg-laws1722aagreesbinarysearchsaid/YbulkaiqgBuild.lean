import Derived.Test.YbulkaiqgPlain
import Derived.Test.YbulkaiqgFind
import Derived.WalkKit
import Derived.WalkSpells
import Derived.WalkLawsBesides
namespace Go.Proofs.Ybulkaiqg.Build
open Go.RowKit
open Go.Proofs.Ybulkaiqg.Plain

theorem Yba.info22 : (Yba.prog.info? 22).map (fun i => (i.zero, i.size, i.bytes)) = some (some (.int .u64 0), 1, 8) := by kernel_rfl

/-- Block B is a row of len uint64's, the first k of which are f 0 .. f (k-1). -/
def Fills (wr : World) (B len k : Nat) (f : Nat → Int) : Prop :=
  ∃ xs, wr.ownsRow B 22 1 (.slice (some ⟨B, 0, none⟩) len len) len xs ∧ ∀ j, j < k → xs[j]? = some (.int .u64 (f j))

theorem Fills.old {wr : World} {B len k : Nat} {f : Nat → Int} (h : Fills wr B len k f) (hk : k < len) : (∃ v, wr.cell? ⟨B, k, none⟩ = some v) ∧ wr.frozen? ⟨B, k, none⟩ = false := by
  obtain ⟨xs, ho, _⟩ := h
  have hl := ho.1
  refine ⟨⟨xs[k]'(by omega), ?_⟩, ho.frozenAt k⟩
  rw [ho.cellAt k (by omega), List.getElem?_eq_getElem (by omega)]

theorem Fills.step {wr : World} {B len k : Nat} {f : Nat → Int} (h : Fills wr B len k f) (hk : k < len) {v : Int} (hv : v = f k) : Fills (wr.setCell ⟨B, k, none⟩ (.int .u64 v)) B len (k + 1) f := by
  obtain ⟨xs, ho, hx⟩ := h
  have hl := ho.1
  refine ⟨_, (ho.stored k _).1, fun j hj => ?_⟩
  by_cases e : k = j
  · subst e; subst hv
    rw [List.getElem?_set_self (by omega)]
  · rw [List.getElem?_set_ne e]
    exact hx j (by omega)

theorem Fills.cell {wr : World} {B len : Nat} {f : Nat → Int} (h : Fills wr B len len f) (j : Nat) (hj : j < len) : wr.cell? ⟨B, j, none⟩ = some (.int .u64 (f j)) := by
  obtain ⟨xs, ho, hx⟩ := h
  rw [ho.cellAt j (by omega)]
  exact hx j hj

theorem Fills.lt {wr : World} {B len k : Nat} {f : Nat → Int} (h : Fills wr B len k f) : B < wr.heap.size := by
  obtain ⟨xs, ho, hx⟩ := h
  rcases ho.2 with ⟨h', _⟩ | ⟨g', cap', cur, h', _, hg, _⟩
  · simp at h'
  · simp only [Value.slice.injEq, Option.some.injEq, Addr.mk.injEq, and_true, true_and] at h'
    obtain ⟨rfl, rfl⟩ := h'
    exact (Array.getElem?_eq_some_iff.1 hg).1

set_option maxHeartbeats 1000000 in
set_option maxRecDepth 100000 in
theorem build_any (base : Int) (a : Option Addr) (len cap : Nat) (zs : List Int) (w : World) (h0 : 0 ≤ base) (h1 : base ≤ 18446744073709551615) (hl : len ≤ 1024)
    (hc : ∀ j, j < len → ∃ b off, a = some ⟨b, off, none⟩ ∧ b < w.heap.size ∧ w.cell? ⟨b, off + j, none⟩ = some (.int .u16 (zs.getD j 0))) (hz : ∀ j, 0 ≤ zs.getD j 0 ∧ zs.getD j 0 ≤ 65535) :
    Calls Yba.prog 7 #[.int .u64 base, .slice a len cap] w fun e w' => e = .returned (.slice (some ⟨w.heap.size, 0, none⟩) len len) ∧ (∀ j, j < len → w'.cell? ⟨w.heap.size, j, none⟩ = some (.int .u64 (T base zs j))) ∧ Below w.heap.size w w' ∧ w.heap.size < w'.heap.size := by
  obtain ⟨i0, hi, hz0, hz1, hz2⟩ := info_parts Yba.info22
  have TB : Hid (∀ k, 0 ≤ T base zs k ∧ T base zs k ≤ 18446744073709551615) := T_bd base zs h0 h1 (fun j => (hz j).1)
  have HC : Hid (∀ j, j < len → ∃ b off, a = some ⟨b, off, none⟩ ∧ b < w.heap.size ∧ w.cell? ⟨b, off + j, none⟩ = some (.int .u16 (zs.getD j 0))) := hc
  have HZ : Hid (∀ j, 0 ≤ zs.getD j 0 ∧ zs.getD j 0 ≤ 65535) := hz
  clear hc hz
  go_enter Yba.func7, Yba.ntmps7
  go_wp2_with (at_make; refine wpList_make_full _ rfl _ _ 24 rfl w.heap.size 22 i0 (.int .u64 0) 1 Yba.underlying24 hi hz0 hz1 _ _ _ _ len rfl rfl rfl rfl ?b2 ?b3 (Nat.le_refl _) ?_)
  case b2 => rw [hz2]; omega
  case b3 => unfold maxLen; omega
  intro w1 hown hgrow
  have hbel : Below w.heap.size w w1 := (Below.refl _ _).grown hgrow (Nat.le_refl _) (fun k e => by cases e)
  clear hgrow
  go_wp2
  go_loopw [6, 7] (fun p i wr => ∃ k : Nat, k ≤ len ∧ i = .int .i64 k ∧ p = .int .u64 (T base zs (k - 1)) ∧ Fills wr w.heap.size len k (T base zs) ∧ Below w.heap.size w wr)
    (fun _ i _ => len - (intOf i).toNat)
  case atStart => exact ⟨0, Nat.zero_le _, rfl, rfl, ⟨_, hown, fun j hj => absurd hj (Nat.not_lt_zero _)⟩, hbel⟩
  case round =>
    clear hown hbel
    obtain ⟨k, hk, rfl, rfl, hf, hb⟩ := hrel
    by_cases hlt : k < len
    · obtain ⟨⟨v, hv⟩, hfz⟩ := hf.old hlt
      cases k with
      | zero =>
        simp only [Nat.zero_sub]
        have F := hf.step hlt (v := base) rfl
        go_wp2
        go_roundw
        case rel => exact ⟨1, by omega, rfl, rfl, F, hb.setCell (Nat.le_refl _) _⟩
        case measure => simp [intOf]; omega
      | succ k =>
        obtain ⟨b, off, rfl, hbs, hcell⟩ := HC.out (k + 1) hlt
        have hcr : wr.cell? ⟨b, off + (k + 1), none⟩ = some (.int .u16 (zs.getD (k + 1) 0)) := (hb.cell (p := ⟨b, off + (k + 1), none⟩) hbs).trans hcell
        clear hcell
        simp only [Nat.add_sub_cancel]
        have hd := HZ.out (k + 1)
        have hp := TB.out k
        have HT : Hid (T base zs (k + 1) = stp (T base zs k) (zs.getD (k + 1) 0)) := rfl
        generalize zs.getD (k + 1) 0 = d at hcr hd HT
        generalize hpe : T base zs k = p at hp HT ⊢
        have hd1 := hd.1
        have hd2 := hd.2
        have hp1 := hp.1
        have hp2 := hp.2
        clear hd hp hpe
        by_cases hov : p + d ≤ 18446744073709551615
        · have F := hf.step hlt (v := p + d) (by rw [HT.out, stp_fits hov])
          go_wp2
          go_roundw
          case rel => exact ⟨k + 1 + 1, by omega, by go_num, by rw [show k + 1 + 1 - 1 = k + 1 from rfl, HT.out, stp_fits hov], F, hb.setCell (Nat.le_refl _) _⟩
          case measure => simp [intOf]; omega
        · have F := hf.step hlt (v := 18446744073709551615) (by rw [HT.out, stp_wraps hov])
          have hwr : IntKind.u64.wrap (p + d) < p := by rw [IntKind.wrap_u64]; omega
          go_wp2
          go_roundw
          case rel => exact ⟨k + 1 + 1, by omega, by go_num, by rw [show k + 1 + 1 - 1 = k + 1 from rfl, HT.out, stp_wraps hov], F, hb.setCell (Nat.le_refl _) _⟩
          case measure => simp [intOf]; omega
    · have e : k = len := by omega
      subst e
      go_wp2
      go_ret
      exact ⟨rfl, hf.cell, hb, hf.lt⟩
#print axioms build_any
end Go.Proofs.Ybulkaiqg.Build
