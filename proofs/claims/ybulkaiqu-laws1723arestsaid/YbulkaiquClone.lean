/-
  slices.Clone at []*blocking and []*worker, of a slice at its row's head that is not nil.
-/
import Derived.Test.YbulkaiquDelete
namespace Go.Proofs.Ybulkaiqu.Clone
open Go.RowKit

theorem Yba.info50 : (Yba.prog.info? 50).map (fun i => (i.zero, i.size, i.bytes)) = some (some (.pointer none), 1, 8) := by kernel_rfl

set_option maxHeartbeats 1600000 in
set_option maxRecDepth 1000000 in
theorem clone58 (b n : Nat) (xs : List Value) (w : World) (hn4 : n ≤ 1024) (hl : xs.length = n) (h1 : ∀ u ∈ xs, u.oneCell' = true) (hb : b < w.heap.size)
    (hc : ∀ (j : Nat) u, xs[j]? = some u → w.cell? ⟨b, j, none⟩ = some u) :
    Calls Yba.prog 8 #[.slice (some ⟨b, 0, none⟩) n n] w fun e w' => ∃ v, e = .returned v ∧ w'.ownsRow w.heap.size 58 1 v n xs ∧ Below w.heap.size w w' ∧ ¬ v = .slice none 0 0 := by
  obtain ⟨i0, hi0, hz0, hz1, hz2⟩ := info_parts Delete.Yba.info58
  have hnil := fun w => Lib.run_eql_slice_nil (P := Yba.prog) w 57 58 (some ⟨b, 0, none⟩) n n 0 0 Yba.underlying57
  have hown0 : (w.alloc (.cells #[] 58)).ownsRow w.heap.size 58 1 (.slice (some ⟨w.heap.size, 0, none⟩) 0 0) 0 [] := World.ownsRow_lit w #[] 0 (Nat.le_refl _) (by decide) rfl
  have H0 := hide hown0
  have hc1 : ∀ (j : Nat) u, xs[j]? = some u → (w.alloc (.cells #[] 58)).cell? ((⟨b, 0, none⟩ : Addr).add j) = some u := fun j u hu => by
    rw [Addr.add_lit, World.cell?_alloc_past _ _ _ hb]; simpa using hc j u hu
  have HC := hide hc1
  have HL : Hid (xs.length = n * 1) := by rw [Nat.mul_one]; exact hl
  have H1 := hide h1
  clear hown0 hc1 hc h1 hl
  go_enter Yba.func8, Yba.ntmps8
  go_wp2_with (at_builtin; refine wpList_append_own _ rfl (.tmp 5) (.tmp 6) 57 rfl w.heap.size 58 i0 (.pointer none) 1 8 Yba.underlying57 hi0 hz0 hz1 hz2 rfl (by decide) _ 0 [] rfl (by exact unhide H0) ⟨b, 0, none⟩ n n xs rfl (by exact unhide HL) (by exact unhide HC) (by exact unhide H1) ?c3 ?c4 ?c5 ?_)
  case c3 => unfold maxLen; omega
  case c4 => omega
  case c5 => simp
  intro v' w1 hown hgrow hiff
  have hbel : Below w.heap.size w w1 := ((Below.refl _ _).alloc (Nat.le_refl _) _).grown hgrow (by simp) (fun k e => by simp [Value.ownBlock] at e; omega)
  have hown' : w1.ownsRow w.heap.size 58 1 v' n xs := by simpa using hown
  have hnn : ¬ v' = .slice none 0 0 := hiff
  have F := hide (show w1.ownsRow w.heap.size 58 1 v' n xs ∧ Below w.heap.size w w1 ∧ ¬ v' = .slice none 0 0 from ⟨hown', hbel, hnn⟩)
  clear hown hgrow hiff hbel hown' hnn hnil
  go_wp2
  go_ret
  exact ⟨v', rfl, unhide F⟩

/-- What a row that is owned and not nil is, in memory. -/
theorem row_of {w : World} {base e n : Nat} {v : Value} {xs : List Value} (h : w.ownsRow base e 1 v n xs) (hn : ¬ v = .slice none 0 0) :
    ∃ (g cap : Nat) (cur : Array Value), v = .slice (some ⟨g, 0, none⟩) n cap ∧ base ≤ g ∧ n ≤ cap ∧ cap ≤ maxLen ∧ w.heap[g]? = some (.cells cur e (0, 0)) ∧ ∀ (j : Nat) u, xs[j]? = some u → cur[j]? = some u := by
  rcases h.2 with ⟨h', _⟩ | ⟨g, cap, cur, h', hb, hg, hnc, hcm, hcs, htake⟩
  · exact absurd h' hn
  · refine ⟨g, cap, cur, h', hb, hnc, hcm, hg, fun j u hu => ?_⟩
    rw [← htake, List.getElem?_take] at hu
    split at hu
    · simpa using hu
    · cases hu
#print axioms clone58

set_option maxHeartbeats 1600000 in
set_option maxRecDepth 1000000 in
theorem clone50 (b n : Nat) (xs : List Value) (w : World) (hn4 : n ≤ 1024) (hl : xs.length = n) (h1 : ∀ u ∈ xs, u.oneCell' = true) (hb : b < w.heap.size)
    (hc : ∀ (j : Nat) u, xs[j]? = some u → w.cell? ⟨b, j, none⟩ = some u) :
    Calls Yba.prog 9 #[.slice (some ⟨b, 0, none⟩) n n] w fun e w' => ∃ v, e = .returned v ∧ w'.ownsRow w.heap.size 50 1 v n xs ∧ Below w.heap.size w w' ∧ ¬ v = .slice none 0 0 := by
  obtain ⟨i0, hi0, hz0, hz1, hz2⟩ := info_parts Yba.info50
  have hnil := fun w => Lib.run_eql_slice_nil (P := Yba.prog) w 49 50 (some ⟨b, 0, none⟩) n n 0 0 Yba.underlying49
  have hown0 : (w.alloc (.cells #[] 50)).ownsRow w.heap.size 50 1 (.slice (some ⟨w.heap.size, 0, none⟩) 0 0) 0 [] := World.ownsRow_lit w #[] 0 (Nat.le_refl _) (by decide) rfl
  have H0 := hide hown0
  have hc1 : ∀ (j : Nat) u, xs[j]? = some u → (w.alloc (.cells #[] 50)).cell? ((⟨b, 0, none⟩ : Addr).add j) = some u := fun j u hu => by
    rw [Addr.add_lit, World.cell?_alloc_past _ _ _ hb]; simpa using hc j u hu
  have HC := hide hc1
  have HL : Hid (xs.length = n * 1) := by rw [Nat.mul_one]; exact hl
  have H1 := hide h1
  clear hown0 hc1 hc h1 hl
  go_enter Yba.func9, Yba.ntmps9
  go_wp2_with (at_builtin; refine wpList_append_own _ rfl (.tmp 5) (.tmp 6) 49 rfl w.heap.size 50 i0 (.pointer none) 1 8 Yba.underlying49 hi0 hz0 hz1 hz2 rfl (by decide) _ 0 [] rfl (by exact unhide H0) ⟨b, 0, none⟩ n n xs rfl (by exact unhide HL) (by exact unhide HC) (by exact unhide H1) ?c3 ?c4 ?c5 ?_)
  case c3 => unfold maxLen; omega
  case c4 => omega
  case c5 => simp
  intro v' w1 hown hgrow hiff
  have hbel : Below w.heap.size w w1 := ((Below.refl _ _).alloc (Nat.le_refl _) _).grown hgrow (by simp) (fun k e => by simp [Value.ownBlock] at e; omega)
  have hown' : w1.ownsRow w.heap.size 50 1 v' n xs := by simpa using hown
  have hnn : ¬ v' = .slice none 0 0 := hiff
  have F := hide (show w1.ownsRow w.heap.size 50 1 v' n xs ∧ Below w.heap.size w w1 ∧ ¬ v' = .slice none 0 0 from ⟨hown', hbel, hnn⟩)
  clear hown hgrow hiff hbel hown' hnn hnil
  go_wp2
  go_ret
  exact ⟨v', rfl, unhide F⟩
#print axioms clone50

end Go.Proofs.Ybulkaiqu.Clone
