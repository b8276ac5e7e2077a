/-
  The road of LawS1722BClock through package time (Add, addSec, sec, nsec, unixSec, UnixNano, Unix, Nanosecond) at times without a monotonic reading whose wall word is the nanosecond alone, and through sync/atomic.Int64.
-/
import Derived.Test.YbulkaiqgFind
import Derived.WalkKit
import Derived.WalkSpells
import Derived.WalkLawsBesides
namespace Go.Proofs.Ybulkaiqg.Clock
open Go.RowKit

/-! ### bits -/
theorem flag_off {W : Int} (h0 : 0 ≤ W) (h1 : W < 1000000000) : (bits .and .u64 W 9223372036854775808 != 0) = false := by
  rw [u64_and W 9223372036854775808 h0 (by omega) (by omega) (by omega)]
  have e : (9223372036854775808 : Int).toNat = 2 ^ 63 := by decide
  rw [e, nat_bit, Nat.div_eq_of_lt (by omega)]
  simp

theorem mask_in {W : Int} (h0 : 0 ≤ W) (h1 : W < 1000000000) : bits .and .u64 W 1073741823 = W := by
  rw [u64_and W 1073741823 h0 (by omega) (by omega) (by omega)]
  have e : (1073741823 : Int).toNat = 2 ^ 30 - 1 := by decide
  rw [e, Nat.and_two_pow_sub_one_eq_mod, Nat.mod_eq_of_lt (by omega)]
  omega

theorem mask_out {W : Int} (h0 : 0 ≤ W) (h1 : W < 1000000000) : bits .andNot .u64 W 1073741823 = 0 := by
  rw [u64_andNot W 1073741823 h0 (by omega) (by omega) (by omega)]
  have e : (18446744073709551615 - (1073741823 : Int).toNat) = (2 ^ 34 - 1) * 2 ^ 30 := by decide
  rw [e]
  have : W.toNat &&& ((2 ^ 34 - 1) * 2 ^ 30) = 0 := by
    apply Nat.eq_of_testBit_eq
    intro i
    rw [Nat.testBit_and, Nat.zero_testBit, Nat.testBit_mul_two_pow]
    by_cases hi : 30 ≤ i
    · have : W.toNat < 2 ^ i := Nat.lt_of_lt_of_le (by omega : W.toNat < 2 ^ 30) (Nat.pow_le_pow_right (by omega) hi)
      rw [Nat.testBit_lt_two_pow this]; simp
    · simp [hi]
  rw [this]; rfl

theorem or_zero {n : Int} (h0 : 0 ≤ n) (h1 : n < 1000000000) : bits .or .u64 0 n = n := by
  rw [u64_or 0 n (by omega) (by omega) h0 (by omega)]
  simp; omega

/-! ### the readers -/
set_option maxRecDepth 100000 in
theorem nsec_any (b off : Nat) (W : Int) (w : World) (h0 : 0 ≤ W) (h1 : W < 1000000000) (hc : w.cell? ⟨b, off, none⟩ = some (.int .u64 W)) :
    Calls Yba.prog 22 #[.pointer (some ⟨b, off, none⟩)] w fun e w' => e = .returned (.int .i32 W) ∧ w' = w := by
  have hm := mask_in h0 h1
  go_enter Yba.func22, Yba.ntmps22
  go_wp2
  go_ret
  exact ⟨rfl, rfl⟩

set_option maxRecDepth 100000 in
theorem sec_any (b off : Nat) (W E : Int) (w : World) (h0 : 0 ≤ W) (h1 : W < 1000000000) (hc : w.cell? ⟨b, off, none⟩ = some (.int .u64 W)) (hc1 : w.cell? ⟨b, off + 1, none⟩ = some (.int .i64 E)) :
    Calls Yba.prog 29 #[.pointer (some ⟨b, off, none⟩)] w fun e w' => e = .returned (.int .i64 E) ∧ w' = w := by
  have hf := flag_off h0 h1
  go_enter Yba.func29, Yba.ntmps29
  go_wp2
  go_ret
  exact ⟨rfl, rfl⟩

/-- The seconds since the Unix epoch, as Go reckons them. -/
def us (E : Int) : Int := wrap64 (E + -62135596800)

set_option maxRecDepth 100000 in
theorem unixSec_any (b off : Nat) (W E : Int) (w : World) (h0 : 0 ≤ W) (h1 : W < 1000000000) (hc : w.cell? ⟨b, off, none⟩ = some (.int .u64 W)) (hc1 : w.cell? ⟨b, off + 1, none⟩ = some (.int .i64 E)) :
    Calls Yba.prog 21 #[.pointer (some ⟨b, off, none⟩)] w fun e w' => e = .returned (.int .i64 (us E)) ∧ w' = w := by
  go_enter Yba.func21, Yba.ntmps21
  go_wp2_with (go_at_call 29; refine (sec_any b off W E _ h0 h1 hc hc1).mono ?_; rintro e w' ⟨rfl, rfl⟩)
  go_ret
  exact ⟨rfl, rfl⟩

/-- A time's cells. -/
def tcs (W E : Int) : Array Value := #[.int .u64 W, .int .i64 E, .pointer none]

end Go.Proofs.Ybulkaiqg.Clock
