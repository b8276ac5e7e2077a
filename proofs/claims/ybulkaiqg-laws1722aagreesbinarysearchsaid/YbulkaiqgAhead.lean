import Derived.Test.YbulkaiqgBuild
import Derived.WalkKit
import Derived.WalkSpells
import Derived.WalkLawsBesides
namespace Go.Proofs.Ybulkaiqg.Ahead
open Go.RowKit

theorem gt_raw (a : Option Addr) (n c : Nat) (pick adj raw : Int) (w : World) :
    Calls Yba.prog 8 #[.slice a n c, .int .u8 pick, .int .u8 adj, .int .u64 raw, .bool true] w fun e w' => (∃ g : Int, e = .returned (.int .u64 g)) ∧ w' = w := by
  go_enter Yba.func8, Yba.ntmps8
  go_wp2
  go_ret
  exact ⟨⟨_, rfl⟩, rfl⟩

theorem gt_none (a : Option Addr) (c : Nat) (pick adj raw : Int) (w : World) :
    Calls Yba.prog 8 #[.slice a 0 c, .int .u8 pick, .int .u8 adj, .int .u64 raw, .bool false] w fun e w' => (∃ g : Int, e = .returned (.int .u64 g)) ∧ w' = w := by
  go_enter Yba.func8, Yba.ntmps8
  go_wp2
  go_ret
  exact ⟨⟨_, rfl⟩, rfl⟩

theorem gt_some (b n c p : Nat) (adj raw : Int) (f : Nat → Int) (w : World) (hn : 0 < n) (hn2 : n ≤ 1024) (hp : p ≤ 255) (ha : 0 ≤ adj) (hc : ∀ j, j < n → w.cell? ⟨b, j, none⟩ = some (.int .u64 (f j))) :
    Calls Yba.prog 8 #[.slice (some ⟨b, 0, none⟩) n c, .int .u8 p, .int .u8 adj, .int .u64 raw, .bool false] w fun e w' => (∃ g : Int, e = .returned (.int .u64 g)) ∧ w' = w := by
  have hne : ((n : Int) == 0) = false := by simp; omega
  have hm : p % n < n := Nat.mod_lt _ hn
  have hmi : (p : Int) % (n : Int) < (n : Int) := by omega
  have hmi0 : 0 ≤ (p : Int) % (n : Int) := by omega
  have hcc := hc (p % n) hm
  clear hc
  go_enter Yba.func8, Yba.ntmps8
  go_wp2
  go_ret
  exact ⟨⟨_, rfl⟩, rfl⟩

/-- The end of the search: place r of the part from s on is place s + r of the whole. -/
theorem glue (n e : Nat) (f : Nat → Int) (x : Int) (hs : ∀ a b, a ≤ b → b < n → f a ≤ f b) (h1 : e = 1 ∨ (e / 2 < n ∧ f (e / 2) < x)) (h2 : n ≤ e ∨ x ≤ f e)
    (r : Nat) (hr : r ≤ min e n - e / 2) (k1 : ∀ t, t < r → f (e / 2 + t) < x) (k2 : ∀ t, r ≤ t → t < min e n - e / 2 → x ≤ f (e / 2 + t)) :
    e / 2 + r ≤ max n (e / 2) ∧ (∀ t, t < e / 2 + r → f t < x) ∧ (∀ t, e / 2 + r ≤ t → t < n → x ≤ f t) := by
  refine ⟨by omega, fun t ht => ?_, fun t ht htn => ?_⟩
  · by_cases hlt : t < e / 2
    · rcases h1 with h1 | ⟨h1, h1'⟩
      · omega
      · have := hs t (e / 2) (by omega) h1
        omega
    · have := k1 (t - e / 2) (by omega)
      rw [show e / 2 + (t - e / 2) = t by omega] at this
      exact this
  · by_cases hlt : t < e
    · have := k2 (t - e / 2) (by omega) (by omega)
      rw [show e / 2 + (t - e / 2) = t by omega] at this
      exact this
    · rcases h2 with h2 | h2
      · omega
      · have := hs e t (by omega) htn
        omega

/-- Of no element: 0. -/
theorem ahead_none (a : Option Addr) (c : Nat) (x : Int) (w : World) :
    Calls Yba.prog 9 #[.slice a 0 c, .int .u64 x] w fun e w' => e = .returned (.int .i64 0) ∧ w' = w := by
  go_enter Yba.func9, Yba.ntmps9
  go_wp2
  refine wp_loop_rounds 1 ?_
  rw [rounds_succ]
  go_wp2_with fail
  refine (Find.search_none _ _ _ _).mono ?_
  rintro e w' ⟨q, rfl, rfl⟩
  go_wp2
  go_ret
  exact ⟨rfl, rfl⟩

set_option maxHeartbeats 1000000 in
theorem ahead_any (b off n c : Nat) (f : Nat → Int) (x : Int) (w : World) (hn0 : 0 < n) (hbig : n ≤ 1024) (hcap : n ≤ c) (hc : ∀ j, j < n → w.cell? ⟨b, off + j, none⟩ = some (.int .u64 (f j)))
    (hs : ∀ a b, a ≤ b → b < n → f a ≤ f b) :
    Calls Yba.prog 9 #[.slice (some ⟨b, off, none⟩) n c, .int .u64 x] w fun e w' => ∃ r : Nat, e = .returned (.int .i64 (r : Int)) ∧ r ≤ n ∧ (∀ t, t < r → f t < x) ∧ (∀ t, r ≤ t → t < n → x ≤ f t) ∧ w' = w := by
  have S : Hid (∀ a b, a ≤ b → b < n → f a ≤ f b) := hs
  have C : Hid (∀ j, j < n → w.cell? ⟨b, off + j, none⟩ = some (.int .u64 (f j))) := hc
  clear hs hc
  go_enter Yba.func9, Yba.ntmps9
  go_wp2
  go_loop [5] (fun t => ∃ e : Nat, t = .int .i64 e ∧ 1 ≤ e ∧ e ≤ 4096 ∧ (e = 1 ∨ (e / 2 < n ∧ f (e / 2) < x))) (fun t => n - (intOf t).toNat)
  case atStart => exact ⟨1, rfl, Nat.le_refl _, by omega, .inl rfl⟩
  case round =>
    obtain ⟨e, rfl, he1, he2, hrel⟩ := hrel
    have R : Hid (e = 1 ∨ (e / 2 < n ∧ f (e / 2) < x)) := hrel
    have he3 : e / 2 < n := by rcases hrel with h | h <;> omega
    have he4 : ¬ c = e / 2 := by omega
    clear hrel
    have fin : ∀ (m : Nat), m = min e n - e / 2 → (n ≤ e ∨ x ≤ f e) → Calls Yba.prog 10 #[.slice (some ⟨b, off + e / 2, none⟩) m (c - e / 2), .int .u64 x] w fun e' w' => ∃ (r : Nat) (q : Bool), e' = .returned (.tuple #[.int .i64 (r : Int), .bool q]) ∧ (e / 2 + r ≤ n ∧ (∀ t, t < e / 2 + r → f t < x) ∧ (∀ t, e / 2 + r ≤ t → t < n → x ≤ f t)) ∧ w' = w := by
      intro m hm h2
      refine (Find.search_any b (off + e / 2) m (c - e / 2) (fun j => f (e / 2 + j)) x w (by omega) (fun j hj => ?_) (fun p q hpq hq => S.out _ _ (by omega) (by omega))).mono ?_
      · rw [show off + e / 2 + j = off + (e / 2 + j) by omega]
        exact C.out _ (by omega)
      · rintro e' w' ⟨r, q, rfl, hr, k1, k2, rfl⟩
        subst hm
        have g := glue n e f x S.out R.out h2 r hr k1 k2
        exact ⟨r, q, rfl, ⟨by omega, g.2⟩, rfl⟩
    have FIN := hide fin
    clear fin
    by_cases hlt : e < n
    · have hce := C.out e hlt
      by_cases hx : f e < x
      · go_wp2
        go_round
        case rel => exact ⟨2 * e, by go_num, by omega, by omega, .inr ⟨by omega, by rw [show 2 * e / 2 = e by omega]; exact hx⟩⟩
        case measure => simp [intOf]; omega
      · go_wp2_with fail
        refine (unhide FIN (e - e / 2) (by omega) (.inr (by omega))).mono ?_
        rintro e' w' ⟨r, q, rfl, hg, rfl⟩
        have hr := hg.1
        have G := hide hg
        clear hg
        go_wp2
        go_ret
        refine ⟨e / 2 + r, ?_, (unhide G).1, (unhide G).2.1, (unhide G).2.2, rfl⟩
        rw [show ((e : Int) / 2 + (r : Int)) = ((e / 2 + r : Nat) : Int) by omega]; rfl
    · by_cases heq : e = n
      · subst heq
        go_wp2_with fail
        refine (unhide FIN (e - e / 2) (by omega) (.inl (by omega))).mono ?_
        rintro e' w' ⟨r, q, rfl, hg, rfl⟩
        have hr := hg.1
        have G := hide hg
        clear hg
        go_wp2
        go_ret
        refine ⟨e / 2 + r, ?_, (unhide G).1, (unhide G).2.1, (unhide G).2.2, rfl⟩
        rw [show ((e : Int) / 2 + (r : Int)) = ((e / 2 + r : Nat) : Int) by omega]; rfl
      · go_wp2_with fail
        refine (unhide FIN (n - e / 2) (by omega) (.inl (by omega))).mono ?_
        rintro e' w' ⟨r, q, rfl, hg, rfl⟩
        have hr := hg.1
        have G := hide hg
        clear hg
        go_wp2
        go_ret
        refine ⟨e / 2 + r, ?_, (unhide G).1, (unhide G).2.1, (unhide G).2.2, rfl⟩
        rw [show ((e : Int) / 2 + (r : Int)) = ((e / 2 + r : Nat) : Int) by omega]; rfl

/-- WHAT A PLACE OF THE SEARCH IS: all before are less than x, all from there on are not. -/
def Is (n : Nat) (f : Nat → Int) (x : Int) (r : Nat) : Prop := r ≤ n ∧ (∀ t, t < r → f t < x) ∧ (∀ t, r ≤ t → t < n → x ≤ f t)

theorem Is.one {n : Nat} {f : Nat → Int} {x : Int} {r s : Nat} (h : Is n f x r) (k : Is n f x s) : r = s := by
  rcases Nat.lt_trichotomy r s with hl | hl | hl
  · have h1 := k.2.1 r hl
    have h2 := h.2.2 r (Nat.le_refl _) (by have := k.1; omega)
    omega
  · exact hl
  · have h1 := h.2.1 s hl
    have h2 := k.2.2 s (Nat.le_refl _) (by have := h.1; omega)
    omega

theorem ahead_all (a : Option Addr) (b off n c : Nat) (f : Nat → Int) (x : Int) (w : World) (ha : 0 < n → a = some ⟨b, off, none⟩) (hbig : n ≤ 1024) (hcap : n ≤ c) (hc : ∀ j, j < n → w.cell? ⟨b, off + j, none⟩ = some (.int .u64 (f j)))
    (hs : ∀ a b, a ≤ b → b < n → f a ≤ f b) :
    Calls Yba.prog 9 #[.slice a n c, .int .u64 x] w fun e w' => ∃ r : Nat, e = .returned (.int .i64 (r : Int)) ∧ Is n f x r ∧ w' = w := by
  rcases Nat.eq_zero_or_pos n with h | h
  · subst h
    refine (ahead_none a c x w).mono ?_
    rintro e w' ⟨rfl, rfl⟩
    exact ⟨0, rfl, ⟨Nat.le_refl _, fun t ht => by omega, fun t _ ht => by omega⟩, rfl⟩
  · rw [ha h]
    refine (ahead_any b off n c f x w h hbig hcap hc hs).mono ?_
    rintro e w' ⟨r, rfl, h1, h2, h3, rfl⟩
    exact ⟨r, rfl, ⟨h1, h2, h3⟩, rfl⟩

theorem search_all (a : Option Addr) (b off n c : Nat) (f : Nat → Int) (x : Int) (w : World) (ha : 0 < n → a = some ⟨b, off, none⟩) (hbig : n ≤ 1024) (hc : ∀ j, j < n → w.cell? ⟨b, off + j, none⟩ = some (.int .u64 (f j)))
    (hs : ∀ a b, a ≤ b → b < n → f a ≤ f b) :
    Calls Yba.prog 10 #[.slice a n c, .int .u64 x] w fun e w' => ∃ (r : Nat) (q : Bool), e = .returned (.tuple #[.int .i64 (r : Int), .bool q]) ∧ Is n f x r ∧ w' = w := by
  rcases Nat.eq_zero_or_pos n with h | h
  · subst h
    refine (Find.search_none a c x w).mono ?_
    rintro e w' ⟨q, rfl, rfl⟩
    exact ⟨0, q, rfl, ⟨Nat.le_refl _, fun t ht => by omega, fun t _ ht => by omega⟩, rfl⟩
  · rw [ha h]
    refine (Find.search_any b off n c f x w (by omega) hc hs).mono ?_
    rintro e w' ⟨r, q, rfl, h1, h2, h3, rfl⟩
    exact ⟨r, q, rfl, ⟨h1, h2, h3⟩, rfl⟩

theorem gt_all (b n c : Nat) (pick adj raw : Int) (u : Bool) (f : Nat → Int) (w : World) (hn2 : n ≤ 1024) (hp0 : 0 ≤ pick) (hp : pick ≤ 255) (ha : 0 ≤ adj) (hc : ∀ j, j < n → w.cell? ⟨b, j, none⟩ = some (.int .u64 (f j))) :
    Calls Yba.prog 8 #[.slice (some ⟨b, 0, none⟩) n c, .int .u8 pick, .int .u8 adj, .int .u64 raw, .bool u] w fun e w' => (∃ g : Int, e = .returned (.int .u64 g)) ∧ w' = w := by
  cases u with
  | true => exact gt_raw _ _ _ _ _ _ _
  | false =>
    rcases Nat.eq_zero_or_pos n with h | h
    · subst h; exact gt_none _ _ _ _ _ _
    · obtain ⟨p, rfl⟩ := Int.eq_ofNat_of_zero_le hp0
      exact gt_some b n c p adj raw f w h hn2 (by omega) ha hc

#print axioms ahead_all
end Go.Proofs.Ybulkaiqg.Ahead
