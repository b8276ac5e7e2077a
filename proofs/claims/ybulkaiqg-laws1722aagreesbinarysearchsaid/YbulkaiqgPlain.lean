/-
  THE PLAIN MATHEMATICS of zzs1722abuild: the ascending row that it makes of a base and of steps. No model in this text.
-/
namespace Go.Proofs.Ybulkaiqg.Plain

/-- One step: the sum, or the greatest uint64 where the sum wraps. -/
def stp (p d : Int) : Int := if p + d ≤ 18446744073709551615 then p + d else 18446744073709551615

/-- The number at place k. -/
def T (base : Int) (zs : List Int) : Nat → Int
  | 0 => base
  | k + 1 => stp (T base zs k) (zs.getD (k + 1) 0)

theorem stp_bd (p d : Int) (hp : 0 ≤ p) (hp2 : p ≤ 18446744073709551615) (hd : 0 ≤ d) : p ≤ stp p d ∧ stp p d ≤ 18446744073709551615 := by
  unfold stp; split <;> omega

theorem T_bd (base : Int) (zs : List Int) (h0 : 0 ≤ base) (h1 : base ≤ 18446744073709551615) (hz : ∀ j, 0 ≤ zs.getD j 0) : ∀ k, 0 ≤ T base zs k ∧ T base zs k ≤ 18446744073709551615
  | 0 => ⟨h0, h1⟩
  | k + 1 => by
    have ih := T_bd base zs h0 h1 hz k
    have := stp_bd (T base zs k) (zs.getD (k + 1) 0) ih.1 ih.2 (hz _)
    exact ⟨by show 0 ≤ stp _ _; omega, this.2⟩

theorem T_le (base : Int) (zs : List Int) (h0 : 0 ≤ base) (h1 : base ≤ 18446744073709551615) (hz : ∀ j, 0 ≤ zs.getD j 0) (a : Nat) : ∀ b, a ≤ b → T base zs a ≤ T base zs b
  | 0, h => by have : a = 0 := by omega
               rw [this]; exact Int.le_refl _
  | b + 1, h => by
    rcases Nat.lt_or_ge b a with h2 | h2
    · have : a = b + 1 := by omega
      rw [this]; exact Int.le_refl _
    · have ih := T_le base zs h0 h1 hz a b h2
      have bd := T_bd base zs h0 h1 hz b
      have := stp_bd (T base zs b) (zs.getD (b + 1) 0) bd.1 bd.2 (hz _)
      have e : T base zs (b + 1) = stp (T base zs b) (zs.getD (b + 1) 0) := rfl
      omega

theorem stp_fits {p d : Int} (h : p + d ≤ 18446744073709551615) : stp p d = p + d := by unfold stp; rw [if_pos h]
theorem stp_wraps {p d : Int} (h : ¬ p + d ≤ 18446744073709551615) : stp p d = 18446744073709551615 := by unfold stp; rw [if_neg h]

end Go.Proofs.Ybulkaiqg.Plain
