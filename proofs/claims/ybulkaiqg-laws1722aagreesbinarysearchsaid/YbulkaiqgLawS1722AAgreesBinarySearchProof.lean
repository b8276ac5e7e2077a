/-
  'Rows.LawS1722AAgreesBinarySearchSaid': the proof. The frame (from 'lifted' on) is the seat's shell; the walk is filled in.
-/
import Derived.Test.YbulkaiqgRows
import Derived.WalkKit
import Derived.ProofKit
import Derived.OpenShut
import Derived.ShutString
import Derived.ChangeOld
import Derived.Below
import Derived.Test.YbulkaiqgAhead
namespace Go.Proofs.Ybulkaiqg.lawS1722AAgreesBinarySearch
open Go.ChangeShapes Go.WideShapes Go.ChangeAt Go.RowKit
open Go.ChangeMaps (open_string shut_string)
set_option linter.unusedVariables false

theorem own : ownKnob Yba.prog.godebug = none := by kernel_rfl
theorem laidOut : laidOutB Yba.prog = true := by kernel_rfl

/-- WHAT THE WALK IS TOLD OF A SLICE OF INTEGERS THAT CAME IN: it is nil; or it leads to a row of 'cap' cells, the numbers 'zs' (the first 'len' are its elements, the rest its spare room), each fitting its kind. -/
def IsRow (k : IntKind) (w : World) (a : Option Addr) (len cap : Nat) (zs : List Int) : Prop :=
  (a = none ∧ len = 0 ∧ cap = 0 ∧ zs = []) ∨
  ∃ x, a = some x ∧ len ≤ cap ∧ cap ≤ maxLen ∧ zs.length = cap ∧ (∀ i, i < zs.length → w.cell? (x.add i) = some (.int k (zs.getD i 0))) ∧ ∀ n ∈ zs, (Lit.int k n).wf = true

/-! ### STEP 1: THE WALK -/
theorem IsRow.cells {w : World} {a : Option Addr} {len cap : Nat} {zs : List Int} (h : IsRow .u16 w a len cap zs) :
    (∀ j, j < len → ∃ b off, a = some ⟨b, off, none⟩ ∧ b < w.heap.size ∧ w.cell? ⟨b, off + j, none⟩ = some (.int .u16 (zs.getD j 0))) ∧ (∀ j, 0 ≤ zs.getD j 0 ∧ zs.getD j 0 ≤ 65535) := by
  rcases h with ⟨rfl, rfl, rfl, rfl⟩ | ⟨x, rfl, hlc, hcm, hz, hcell, hwf⟩
  · exact ⟨fun j hj => absurd hj (Nat.not_lt_zero _), fun j => by simp⟩
  · refine ⟨fun j hj => ?_, fun j => ?_⟩
    · obtain ⟨b, off, spot⟩ := x
      have h0 := hcell j (by omega)
      have hspot : spot = none := by simpa [Addr.add] using World.cell?_spot (hcell 0 (by omega))
      subst hspot
      rw [add_plain] at h0
      exact ⟨b, off, rfl, World.block_lt_of_cell? _ _ h0, h0⟩
    · have := range_u16 hwf j
      simpa using this

set_option maxHeartbeats 1000000 in
theorem walk (a0 : Int) (a1 : Option Addr) (len1 cap1 : Nat) (z1 : List Int) (a2 : Int) (a3 : Int) (a4 : Int) (a5 : Bool) (a6 : Int) (w : World) (w0 : (Lit.int .u64 a0).wf = true) (w1 : IsRow .u16 w a1 len1 cap1 z1) (w2 : (Lit.int .u8 a2).wf = true) (w3 : (Lit.int .u8 a3).wf = true) (w4 : (Lit.int .u64 a4).wf = true) (w6 : (Lit.int .u16 a6).wf = true) :
    Calls Yba.prog 4 #[.int .u64 a0, .slice a1 len1 cap1, .int .u8 a2, .int .u8 a3, .int .u64 a4, .bool a5, .int .u16 a6] w fun e w' => e = .returned (.bool true) ∧ Below w.heap.size w w' := by
  have h0 := bounds_u64 w0
  have h2 := bounds_u8 w2
  have h3 := bounds_u8 w3
  have h6 := bounds_u16 w6
  obtain ⟨hcs, hzs⟩ := w1.cells
  clear w0 w1 w2 w3 w4 w6
  by_cases hl : len1 ≤ 1024
  · have B := hide (Build.build_any a0 a1 len1 cap1 z1 w h0.1 h0.2 hl hcs hzs)
    have S := hide (Plain.T_le a0 z1 h0.1 h0.2 (fun j => (hzs j).1))
    generalize Plain.T a0 z1 = f at B S
    clear hcs hzs h0
    obtain ⟨q, rfl⟩ := Int.eq_ofNat_of_zero_le h6.1
    have hm : q % (len1 + 1) < len1 + 1 := Nat.mod_lt _ (by omega)
    have he : ((q : Int) % ((len1 : Int) + 1)) = ((q % (len1 + 1) : Nat) : Int) := by simp
    generalize q % (len1 + 1) = k at hm he
    rcases Nat.eq_zero_or_pos len1 with hz | hz
    · subst hz
      clear hm he
      go_enter Yba.func4, Yba.ntmps4
      go_wp2_with fail
      refine (unhide B).mono ?_
      rintro e w1 ⟨rfl, hc, hb, hsz⟩
      have C := hide hc
      clear hc B
      go_wp2_with fail
      refine (Ahead.gt_all w.heap.size 0 0 a2 a3 a4 a5 f w1 hl h2.1 h2.2 h3.1 (unhide C)).mono ?_
      rintro e w2 ⟨⟨g, rfl⟩, rfl⟩
      go_wp2_with fail
      refine (Ahead.ahead_all _ w.heap.size 0 0 0 (fun j => f (0 + j)) g w2 (fun h => absurd h (by omega)) (by omega) (Nat.le_refl _) (fun j hj => unhide C _ (by omega)) (fun p q hpq _ => unhide S _ _ (by omega))).mono ?_
      rintro e w3 ⟨r, rfl, hr, rfl⟩
      have hrn := hr.1
      have R := hide hr
      clear hr
      go_wp2_with fail
      refine (Ahead.search_all _ w.heap.size 0 0 0 (fun j => f (0 + j)) g w3 (fun h => absurd h (by omega)) (by omega) (fun j hj => unhide C _ (by omega)) (fun p q hpq _ => unhide S _ _ (by omega))).mono ?_
      rintro e w4 ⟨r2, q2, rfl, hr2, rfl⟩
      obtain rfl := (unhide R).one hr2
      clear hr2
      go_wp2
      go_ret
      exact ⟨by simp, hb⟩
    · by_cases hk : k = len1
      · subst hk
        clear hm
        go_enter Yba.func4, Yba.ntmps4
        go_wp2_with fail
        refine (unhide B).mono ?_
        rintro e w1 ⟨rfl, hc, hb, hsz⟩
        have C := hide hc
        clear hc B
        go_wp2_with fail
        refine (Ahead.gt_all w.heap.size k k a2 a3 a4 a5 f w1 hl h2.1 h2.2 h3.1 (unhide C)).mono ?_
        rintro e w2 ⟨⟨g, rfl⟩, rfl⟩
        go_wp2_with fail
        refine (Ahead.ahead_all _ w.heap.size 0 0 0 (fun j => f (0 + j)) g w2 (fun h => absurd h (by omega)) (by omega) (Nat.le_refl _) (fun j hj => absurd hj (Nat.not_lt_zero _)) (fun p q hpq _ => unhide S _ _ (by omega))).mono ?_
        rintro e w3 ⟨r, rfl, hr, rfl⟩
        have hrn := hr.1
        have R := hide hr
        clear hr
        go_wp2_with fail
        refine (Ahead.search_all _ w.heap.size 0 0 0 (fun j => f (0 + j)) g w3 (fun h => absurd h (by omega)) (by omega) (fun j hj => absurd hj (Nat.not_lt_zero _)) (fun p q hpq _ => unhide S _ _ (by omega))).mono ?_
        rintro e w4 ⟨r2, q2, rfl, hr2, rfl⟩
        obtain rfl := (unhide R).one hr2
        clear hr2
        go_wp2
        go_ret
        exact ⟨by simp, hb⟩
      · go_enter Yba.func4, Yba.ntmps4
        go_wp2_with fail
        refine (unhide B).mono ?_
        rintro e w1 ⟨rfl, hc, hb, hsz⟩
        have C := hide hc
        clear hc B
        go_wp2_with fail
        refine (Ahead.gt_all w.heap.size len1 len1 a2 a3 a4 a5 f w1 hl h2.1 h2.2 h3.1 (unhide C)).mono ?_
        rintro e w2 ⟨⟨g, rfl⟩, rfl⟩
        go_wp2_with fail
        refine (Ahead.ahead_all _ w.heap.size k (len1 - k) (len1 - k) (fun j => f (k + j)) g w2 (fun _ => rfl) (by omega) (Nat.le_refl _) (fun j hj => unhide C _ (by omega)) (fun p q hpq _ => unhide S _ _ (by omega))).mono ?_
        rintro e w3 ⟨r, rfl, hr, rfl⟩
        have hrn := hr.1
        have R := hide hr
        clear hr
        go_wp2_with fail
        refine (Ahead.search_all _ w.heap.size k (len1 - k) (len1 - k) (fun j => f (k + j)) g w3 (fun _ => rfl) (by omega) (fun j hj => unhide C _ (by omega)) (fun p q hpq _ => unhide S _ _ (by omega))).mono ?_
        rintro e w4 ⟨r2, q2, rfl, hr2, rfl⟩
        obtain rfl := (unhide R).one hr2
        clear hr2
        go_wp2
        go_ret
        exact ⟨by simp, hb⟩
  · go_enter Yba.func4, Yba.ntmps4
    go_wp2
    go_ret
    exact ⟨rfl, Below.refl _ _⟩

/-! ### THE ROW's STEP: WRITTEN OUT: LEAVE IT -/
set_option maxRecDepth 100000 in
theorem lifted (os : Os) (started : os.Started) (H : Type) (enc : TypeId × Value → H) :
    ReturnsInHanded {} Yba.checked os 4 .any (Rows.lawS1722AAgreesBinarySearchSpec.pre6 enc Yba.prog Yba.f4 Rows.lawS1722AAgreesBinarySearchRow.domain false) (Rows.lawS1722AAgreesBinarySearchSpec.post enc Yba.prog Yba.f4 false true false false) := by
  refine returnsInHanded_of_change (C := Yba.checked) own started (by kernel_rfl) Yba.func4
    (ChangeSpec.witness6 (enc := enc) (C := Yba.checked) false ⟨#[], #[.int .u64 0, .slice none 0 0, .int .u8 0, .int .u8 0, .int .u64 0, .bool false, .int .u16 0], []⟩ 8 (by kernel_rfl) (by kernel_rfl) (by kernel_rfl) (by kernel_rfl)) ?_
  intro W base args ds gs before hval0 hW hcnd _
  have hval : ∀ (j : Nat) t v, Yba.f4.params[j]? = some t → args[j]? = some v → Value.okWide Yba.prog W .any base t v := hval0
  have hW' := hW
  obtain ⟨p, q, hA0, hV, rfl, hfz, hnd⟩ := hW
  have hA : DataW.TrodAll enc Yba.prog W 0 (fun _ => true) true Yba.f4.params.toList args.toList ds p := hA0
  rw [Yba.params4] at hA hval
  obtain ⟨v0, vs0, d0, ds0, p0, q0, hargs, rfl, rfl, h0, r0⟩ := trodAll_cons hA
  obtain ⟨v1, vs1, d1, ds1, p1, q1, rfl, rfl, rfl, h1, r1⟩ := trodAll_cons r0
  obtain ⟨v2, vs2, d2, ds2, p2, q2, rfl, rfl, rfl, h2, r2⟩ := trodAll_cons r1
  obtain ⟨v3, vs3, d3, ds3, p3, q3, rfl, rfl, rfl, h3, r3⟩ := trodAll_cons r2
  obtain ⟨v4, vs4, d4, ds4, p4, q4, rfl, rfl, rfl, h4, r4⟩ := trodAll_cons r3
  obtain ⟨v5, vs5, d5, ds5, p5, q5, rfl, rfl, rfl, h5, r5⟩ := trodAll_cons r4
  obtain ⟨v6, vs6, d6, ds6, p6, q6, rfl, rfl, rfl, h6, r6⟩ := trodAll_cons r5
  obtain ⟨rfl, rfl, rfl⟩ := trodAll_nil r6
  obtain rfl : args = #[v0, v1, v2, v3, v4, v5, v6] := by cases args; simp_all
  obtain ⟨rfl, rfl⟩ := trodVars_none hV
  obtain ⟨a0, rfl, rfl, rfl, w0⟩ := open_int Yba.underlying22 (hval 0 22 v0 rfl rfl) h0
  obtain ⟨a1, len1, cap1, rfl⟩ := okWide_slice Yba.underlying23 (hval 1 23 v1 rfl rfl)
  have k1 := h1
  have lt1 : ∀ x ∈ p1, x.block < W.heap.size := by obtain ⟨m, hm⟩ := k1; exact DataW.trod_lt m _ _ _ hm
  obtain ⟨z1, w1⟩ : ∃ zs, IsRow .u16 W a1 len1 cap1 zs := by
    obtain ⟨fuel, hf⟩ := h1
    rcases open_ints Yba.underlying23 Yba.underlying29 (by kernel_rfl) hf with ⟨hcs, _⟩ | ⟨x, l, c, zs, hcs, _, hl, hm, hz, _, hcell, hwz⟩
    · simp [Value.cells] at hcs
      obtain ⟨rfl, rfl, rfl⟩ := hcs
      exact ⟨[], .inl ⟨rfl, rfl, rfl, rfl⟩⟩
    · simp [Value.cells] at hcs
      obtain ⟨rfl, rfl, rfl⟩ := hcs
      exact ⟨zs, .inr ⟨_, rfl, hl, hm, by simpa using hz, hcell, hwz⟩⟩
  obtain ⟨a2, rfl, rfl, rfl, w2⟩ := open_int Yba.underlying5 (hval 2 5 v2 rfl rfl) h2
  obtain ⟨a3, rfl, rfl, rfl, w3⟩ := open_int Yba.underlying5 (hval 3 5 v3 rfl rfl) h3
  obtain ⟨a4, rfl, rfl, rfl, w4⟩ := open_int Yba.underlying22 (hval 4 22 v4 rfl rfl) h4
  obtain ⟨a5, rfl, rfl, rfl⟩ := open_bool Yba.underlying4 (hval 5 4 v5 rfl rfl) h5
  obtain ⟨a6, rfl, rfl, rfl, w6⟩ := open_int Yba.underlying29 (hval 6 29 v6 rfl rfl) h6
  clear hA0 hval0
  refine (walk a0 a1 len1 cap1 z1 a2 a3 a4 a5 a6 W w0 w1 w2 w3 w4 w6).mono fun e W' ⟨he, bel⟩ => ?_
  subst he
  exact ⟨_, rfl, _, _, _, [], _, [], hW', trodAll_mk1 (shut_bool Yba.underlying4 _), (trodAll_cons_mk (shut_int Yba.underlying22 w0) (trodAll_cons_mk (Below.trod laidOut (by kernel_rfl) (of_decide_eq_true (by kernel_rfl)) k1 bel lt1) (trodAll_cons_mk (shut_int Yba.underlying5 w2) (trodAll_cons_mk (shut_int Yba.underlying5 w3) (trodAll_cons_mk (shut_int Yba.underlying22 w4) (trodAll_cons_mk (shut_bool Yba.underlying4 _) (trodAll_cons_mk (shut_int Yba.underlying29 w6) trodAll_mk0))))))), rfl, bel.frame _, fun h => by cases h⟩

theorem over : Rows.lawS1722AAgreesBinarySearchRow.holds Yba.pinned (OpenSpec.ofChange Rows.lawS1722AAgreesBinarySearchSpec) :=
  OpenClaim.holds_of_wide 4 Yba.f4 rfl rfl rfl rfl rfl rfl rfl ⟨rfl, rfl, rfl, rfl, rfl⟩ rfl rfl rfl rfl rfl (by kernel_rfl) Yba.func4 (by kernel_rfl)
    (of_decide_eq_true (by kernel_rfl)) (by unfold Func.isWrapper; first | (rw [if_pos (by decide +kernel)]; kernel_rfl) | (rw [if_neg (by decide +kernel)]; exact ⟨rfl, rfl⟩))
    (fun os started H enc _ => lifted os started H enc)

/-- ████ THE STATEMENT ████ -/
theorem proved : Rows.LawS1722AAgreesBinarySearchSaid := over
#print axioms proved
end Go.Proofs.Ybulkaiqg.lawS1722AAgreesBinarySearch
