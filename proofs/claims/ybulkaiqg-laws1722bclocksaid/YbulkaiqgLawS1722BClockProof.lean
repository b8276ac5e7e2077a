/-
  'Rows.LawS1722BClockSaid': the proof. The frame (from 'lifted' on) is the seat's shell, its last step said by 'Below' (as the seat's shells over slices say it); the walk is filled in.
-/
import Derived.Test.YbulkaiqgRows
import Derived.WalkKit
import Derived.ProofKit
import Derived.OpenShut
import Derived.ShutString
import Derived.ChangeOld
import Derived.Below
import Derived.Test.YbulkaiqgClock5
namespace Go.Proofs.Ybulkaiqg.lawS1722BClock
open Go.ChangeShapes Go.WideShapes Go.ChangeAt Go.RowKit
open Go.ChangeMaps (open_string shut_string)
set_option linter.unusedVariables false      -- a walk need not use every 'w<i>' (that an integer argument fits its kind)

theorem own : ownKnob Yba.prog.godebug = none := by kernel_rfl

/-! ### STEP 1: THE WALK -/
set_option maxHeartbeats 2000000 in
set_option maxRecDepth 100000 in
theorem walk (a0 : Int) (a1 : Int) (w0 : (Lit.int .u8 a0).wf = true) (w1 : (Lit.int .i64 a1).wf = true) (w : World) :
    Calls Yba.prog 5 #[.int .u8 a0, .int .i64 a1] w fun e w' => e = .returned (.bool true) ∧ Below w.heap.size w w' := by
  have hk := bounds_u8 w0
  clear w0 w1
  go_enter Yba.func5, Yba.ntmps5
  go_wp2_with fail
  refine (Clock.start_any a0 a1 w hk.1 hk.2).mono ?_
  rintro e w1 ⟨W, E, rfl, h0, h1, hb1⟩
  go_wp2_with fail
  refine (Clock.network_any W E _ h0 h1).mono ?_
  rintro e w2 ⟨nb, cb, rfl, n4, c0, hb2⟩
  have hs2 : w1.heap.size < w2.heap.size := by have := hb2.size; simp at this; omega
  have t0 : w2.cell? ⟨w1.heap.size, 0, none⟩ = some (.int .u64 W) := by rw [hb2.cell (by simp)]; simp
  have t1 : w2.cell? ⟨w1.heap.size, 1, none⟩ = some (.int .i64 E) := by rw [hb2.cell (by simp)]; simp
  have t2 : w2.cell? ⟨w1.heap.size, 2, none⟩ = some (.pointer none) := by rw [hb2.cell (by simp)]; simp
  have hnb : nb < w2.heap.size := World.block_lt_of_cell? _ _ n4
  have hcb : cb < w2.heap.size := World.block_lt_of_cell? _ _ c0
  have hun : (Clock.un W E == wrap64 (wrap64 (Clock.us E * 1000000000) + W)) = true := by simp [Clock.un]
  have hbel : Below w.heap.size w w2 := hb1.trans (((Below.refl _ _).alloc (hb1.size) _).trans (hb2.mono (by have := hb1.size; simp; omega)))
  clear hb1 hb2
  go_wp2_with fail
  go_region_with (first | (go_at_call 13; refine (Clock.unix_any W E _ h0 h1).mono ?_; rintro e w' ⟨rfl, rfl⟩) | (go_at_call 14; refine (Clock.nano_any W E _ h0 h1).mono ?_; rintro e w' ⟨rfl, rfl⟩))
  all_goals
    go_wp2_with fail
    refine (Clock.load64 _ _ (Clock.un W E) _ (by exact Clock.two_cell hcb c0)).mono ?_
    rintro e w3 ⟨rfl, rfl⟩
    go_wp2
    go_ret
    exact ⟨rfl, ((hbel.alloc hbel.size _).alloc (by have := hbel.size; simp; omega) _).drew⟩

/-! ### THE ROW's STEP: WRITTEN OUT: LEAVE IT -/
set_option maxRecDepth 100000 in
theorem lifted (os : Os) (started : os.Started) (H : Type) (enc : TypeId × Value → H) :
    ReturnsInHanded {} Yba.checked os 5 .any (Rows.lawS1722BClockSpec.pre6 enc Yba.prog Yba.f5 Rows.lawS1722BClockRow.domain false) (Rows.lawS1722BClockSpec.post enc Yba.prog Yba.f5 false true false false) := by
  refine returnsInHanded_of_change (C := Yba.checked) own started (by kernel_rfl) Yba.func5
    (ChangeSpec.witness6 (enc := enc) (C := Yba.checked) false ⟨#[], #[.int .u8 0, .int .i64 0], []⟩ 8 (by kernel_rfl) (by kernel_rfl) (by kernel_rfl) (by kernel_rfl)) ?_
  intro W base args ds gs before hval0 hW hcnd _
  have hval : ∀ (j : Nat) t v, Yba.f5.params[j]? = some t → args[j]? = some v → Value.okWide Yba.prog W .any base t v := hval0
  have hW' := hW
  obtain ⟨p, q, hA0, hV, rfl, hfz, hnd⟩ := hW
  have hA : DataW.TrodAll enc Yba.prog W 0 (fun _ => true) true Yba.f5.params.toList args.toList ds p := hA0
  rw [Yba.params5] at hA hval
  obtain ⟨v0, vs0, d0, ds0, p0, q0, hargs, rfl, rfl, h0, r0⟩ := trodAll_cons hA
  obtain ⟨v1, vs1, d1, ds1, p1, q1, rfl, rfl, rfl, h1, r1⟩ := trodAll_cons r0
  obtain ⟨rfl, rfl, rfl⟩ := trodAll_nil r1
  obtain rfl : args = #[v0, v1] := by cases args; simp_all
  obtain ⟨rfl, rfl⟩ := trodVars_none hV
  obtain ⟨a0, rfl, rfl, rfl, w0⟩ := open_int Yba.underlying5 (hval 0 5 v0 rfl rfl) h0
  obtain ⟨a1, rfl, rfl, rfl, w1⟩ := open_int Yba.underlying2 (hval 1 2 v1 rfl rfl) h1
  clear hA0 hval0
  refine (walk a0 a1 w0 w1 W).mono fun e W' ⟨he, bel⟩ => ?_
  subst he
  exact ⟨_, rfl, _, _, _, [], _, [], hW', trodAll_mk1 (shut_bool Yba.underlying4 _), (trodAll_cons_mk (shut_int Yba.underlying5 w0) (trodAll_cons_mk (shut_int Yba.underlying2 w1) trodAll_mk0)), rfl, bel.frame _, fun h => by cases h⟩

theorem over : Rows.lawS1722BClockRow.holds Yba.pinned (OpenSpec.ofChange Rows.lawS1722BClockSpec) :=
  OpenClaim.holds_of_wide 5 Yba.f5 rfl rfl rfl rfl rfl rfl rfl ⟨rfl, rfl, rfl, rfl, rfl⟩ rfl rfl rfl rfl rfl (by kernel_rfl) Yba.func5 (by kernel_rfl)
    (of_decide_eq_true (by kernel_rfl)) (by unfold Func.isWrapper; first | (rw [if_pos (by decide +kernel)]; kernel_rfl) | (rw [if_neg (by decide +kernel)]; exact ⟨rfl, rfl⟩))
    (fun os started H enc _ => lifted os started H enc)

/-- ████ THE STATEMENT ████ -/
theorem proved : Rows.LawS1722BClockSaid :=
  over
#print axioms proved
end Go.Proofs.Ybulkaiqg.lawS1722BClock
