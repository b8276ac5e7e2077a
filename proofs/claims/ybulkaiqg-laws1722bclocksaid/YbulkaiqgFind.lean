/-
  slices.BinarySearch at []uint64, with its callees cmp.Less, cmp.isNaN, slices.isNaN at uint64: their contracts over this seat's dump. (The walk is turned from the guide's worked contract at []int.)
-/
import Derived.Test.YbulkaiqgRows
import Derived.WalkKit
import Derived.Deep.LoopGhost
import Derived.Deep.Draws
namespace Go.Proofs.Ybulkaiqg
open Go.RowKit
theorem hide {p : Prop} (h : p) : Hid p := h
theorem unhide {p : Prop} (h : Hid p) : p := h
end Go.Proofs.Ybulkaiqg
namespace Go.Proofs.Ybulkaiqg.Find
open Go.RowKit

theorem isNaN_cmp (x : Int) (w : World) : Calls Yba.prog 24 #[.int .u64 x] w fun e w' => e = .returned (.bool false) ∧ w' = w := by
  go_enter Yba.func24, Yba.ntmps24
  go_wp2
  go_ret
  exact ⟨by simp, rfl⟩

theorem isNaN_slices (x : Int) (w : World) : Calls Yba.prog 17 #[.int .u64 x] w fun e w' => e = .returned (.bool false) ∧ w' = w := by
  go_enter Yba.func17, Yba.ntmps17
  go_wp2
  go_ret
  exact ⟨by simp, rfl⟩

theorem less_any (x y : Int) (w : World) : Calls Yba.prog 16 #[.int .u64 x, .int .u64 y] w fun e w' => e = .returned (.bool (decide (x < y))) ∧ w' = w := by
  go_enter Yba.func16, Yba.ntmps16
  go_wp2_with (go_at_call 24; refine (isNaN_cmp _ _).mono ?_; rintro e w' ⟨rfl, rfl⟩)
  go_ret
  exact ⟨rfl, rfl⟩

set_option maxHeartbeats 1000000 in
/-- OF A SORTED ROW OF n CELLS 'f 0 .. f (n-1)': the place r at which all before are less than x and all from there on are not. -/
theorem search_any (b off n c : Nat) (f : Nat → Int) (x : Int) (w : World) (hbig : n ≤ 65536) (hc : ∀ j, j < n → w.cell? ⟨b, off + j, none⟩ = some (.int .u64 (f j)))
    (hs : ∀ a b, a ≤ b → b < n → f a ≤ f b) :
    Calls Yba.prog 10 #[.slice (some ⟨b, off, none⟩) n c, .int .u64 x] w fun e w' => ∃ (r : Nat) (q : Bool), e = .returned (.tuple #[.int .i64 (r : Int), .bool q]) ∧ r ≤ n ∧ (∀ t, t < r → f t < x) ∧ (∀ t, r ≤ t → t < n → x ≤ f t) ∧ w' = w := by
  have S : Hid (∀ a b, a ≤ b → b < n → f a ≤ f b) := hs
  clear hs
  go_enter Yba.func10, Yba.ntmps10
  go_wp2
  go_loopg [7, 8] n (fun g s7 s8 wr => ∃ lo hi : Nat, s7 = .int .i64 lo ∧ s8 = .int .i64 hi ∧ lo ≤ hi ∧ hi ≤ n ∧ hi - lo ≤ g ∧ wr = w ∧ (∀ t, t < lo → f t < x) ∧ (∀ t, hi ≤ t → t < n → x ≤ f t))
  case atStart => exact ⟨0, n, rfl, rfl, Nat.zero_le _, Nat.le_refl _, by omega, rfl, fun t ht => absurd ht (Nat.not_lt_zero _), fun t h1 h2 => by omega⟩
  case round =>
    obtain ⟨lo, hi, rfl, rfl, hlh, hin, hg, rfl, h1, h2⟩ := hrel
    have I : Hid ((∀ t, t < lo → f t < x) ∧ (∀ t, hi ≤ t → t < n → x ≤ f t)) := ⟨h1, h2⟩
    clear h1 h2
    by_cases hlt : lo < hi
    · have cm := hc ((lo + hi) / 2) (by omega)
      clear hc
      generalize hy : f ((lo + hi) / 2) = y at cm
      have Y : Hid (f ((lo + hi) / 2) = y) := hy
      clear hy
      by_cases hyx : y < x
      · go_wp2_with (first | (go_at_call 16; refine (less_any _ _ _).mono ?_; rintro e w' ⟨rfl, rfl⟩) | (go_at_call 17; refine (isNaN_slices _ _).mono ?_; rintro e w' ⟨rfl, rfl⟩))
        go_roundg (hi - ((lo + hi) / 2 + 1))
        case measure => omega
        case rel =>
          refine ⟨(lo + hi) / 2 + 1, hi, by rw [show ((lo : Int) + (hi : Int)) / 2 + 1 = (((lo + hi) / 2 + 1 : Nat) : Int) by omega], rfl, by omega, hin, Nat.le_refl _, rfl, fun t ht => ?_, I.out.2⟩
          have := S.out t ((lo + hi) / 2) (by omega) (by omega)
          rw [Y.out] at this
          omega
      · go_wp2_with (first | (go_at_call 16; refine (less_any _ _ _).mono ?_; rintro e w' ⟨rfl, rfl⟩) | (go_at_call 17; refine (isNaN_slices _ _).mono ?_; rintro e w' ⟨rfl, rfl⟩))
        go_roundg ((lo + hi) / 2 - lo)
        case measure => omega
        case rel =>
          refine ⟨lo, (lo + hi) / 2, rfl, by rw [show ((lo : Int) + (hi : Int)) / 2 = (((lo + hi) / 2 : Nat) : Int) by omega], by omega, by omega, Nat.le_refl _, rfl, I.out.1, fun t ht htn => ?_⟩
          have := S.out ((lo + hi) / 2) t ht htn
          rw [Y.out] at this
          omega
    · have : hi = lo := by omega
      subst this
      by_cases hn : hi < n
      · have cl := hc hi (by omega)
        clear hc
        generalize hy : f hi = y at cl
        clear hy
        by_cases hyx : y = x
        · have hq : (y == x) = true := by simpa using hyx
          have HX : Hid (y = x) := hyx
          clear hyx
          go_wp2_with (first | (go_at_call 16; refine (less_any _ _ _).mono ?_; rintro e w' ⟨rfl, rfl⟩) | (go_at_call 17; refine (isNaN_slices _ _).mono ?_; rintro e w' ⟨rfl, rfl⟩))
          go_ret2
          exact ⟨hi, _, rfl, hin, I.out.1, I.out.2, rfl⟩
        · have hq : (y == x) = false := by simpa using hyx
          clear hyx
          go_wp2_with (first | (go_at_call 16; refine (less_any _ _ _).mono ?_; rintro e w' ⟨rfl, rfl⟩) | (go_at_call 17; refine (isNaN_slices _ _).mono ?_; rintro e w' ⟨rfl, rfl⟩))
          go_ret2
          exact ⟨hi, _, rfl, hin, I.out.1, I.out.2, rfl⟩
      · clear hc
        go_wp2_with (first | (go_at_call 16; refine (less_any _ _ _).mono ?_; rintro e w' ⟨rfl, rfl⟩) | (go_at_call 17; refine (isNaN_slices _ _).mono ?_; rintro e w' ⟨rfl, rfl⟩))
        go_ret2
        exact ⟨hi, _, rfl, hin, I.out.1, I.out.2, rfl⟩

/-- OF NO ELEMENT (whatever the address): place 0. -/
theorem search_none (a : Option Addr) (c : Nat) (x : Int) (w : World) :
    Calls Yba.prog 10 #[.slice a 0 c, .int .u64 x] w fun e w' => ∃ q : Bool, e = .returned (.tuple #[.int .i64 0, .bool q]) ∧ w' = w := by
  go_enter Yba.func10, Yba.ntmps10
  go_wp2
  refine wp_loop_rounds 1 ?_
  rw [rounds_succ]
  go_wp2_with (first | (go_at_call 16; refine (less_any _ _ _).mono ?_; rintro e w' ⟨rfl, rfl⟩) | (go_at_call 17; refine (isNaN_slices _ _).mono ?_; rintro e w' ⟨rfl, rfl⟩))
  go_ret2
  exact ⟨_, rfl, rfl⟩

#print axioms search_any
end Go.Proofs.Ybulkaiqg.Find
