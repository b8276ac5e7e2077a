/-
  Rows of pointers in memory (the idle workers, the hand-offs, their copies), and zero values that are too wide for the loader's list. No walk in this text.
-/
import Derived.Test.YbulkaiquSleep
namespace Go.Proofs.Ybulkaiqu.Row
open Go.RowKit
open Go.Proofs.Ybulkaiqu.Sch

/-- Block b is a row of n cells of type e; the first are pointers to the blocks bs. -/
structure PRow (w : World) (b e n : Nat) (bs : List Nat) : Prop where
  it : ∃ cs : Array Value, w.heap[b]? = some (.cells cs e (0, 0)) ∧ cs.size = n ∧ ∀ j x : Nat, bs[j]? = some x → cs[j]? = some (.pointer (some ⟨x, 0, none⟩))

variable {w w' : World} {b e n : Nat} {bs : List Nat}

theorem PRow.of_block (h : PRow w b e n bs) (k : w'.heap[b]? = w.heap[b]?) : PRow w' b e n bs := by
  obtain ⟨cs, h0, r⟩ := h.it
  exact ⟨cs, k.trans h0, r⟩
theorem PRow.lt (h : PRow w b e n bs) : b < w.heap.size := by
  obtain ⟨cs, h0, _⟩ := h.it
  exact (Array.getElem?_eq_some_iff.1 h0).1
theorem PRow.below (h : PRow w b e n bs) {B : Nat} (hb : Below B w w') (hl : b < B) : PRow w' b e n bs := h.of_block (hb.block b hl)
theorem PRow.cell (h : PRow w b e n bs) {j x : Nat} (hj : bs[j]? = some x) : w.cell? ⟨b, j, none⟩ = some (.pointer (some ⟨x, 0, none⟩)) := by
  obtain ⟨cs, h0, _, r⟩ := h.it
  exact (cell_of_row _ _ _ _ _ _ h0).trans (r j x hj)
theorem PRow.slot (h : PRow w b e n bs) (j : Nat) (hj : j < n) : ∃ u, w.cell? ⟨b, j, none⟩ = some u := by
  obtain ⟨cs, h0, hs, r⟩ := h.it
  rw [cell_of_row _ _ _ _ _ _ h0, Array.getElem?_eq_getElem (by omega)]
  exact ⟨_, rfl⟩
theorem PRow.free (h : PRow w b e n bs) (j : Nat) : w.frozen? ⟨b, j, none⟩ = false := by
  obtain ⟨cs, h0, _⟩ := h.it
  exact frozen_of_row _ _ _ _ _ h0
theorem PRow.ne {b' e' n' : Nat} {bs' : List Nat} (h : PRow w b e n bs) (k : PRow w b' e' n' bs') (he : e ≠ e') : b ≠ b' := by
  obtain ⟨cs, h0, _⟩ := h.it
  obtain ⟨cs', k0, _⟩ := k.it
  intro x; subst x; rw [h0] at k0; simp at k0; exact he k0.2
theorem PRow.put (h : PRow w b e n bs) (hl : bs.length < n) (x : Nat) : PRow (w.setCell ⟨b, bs.length, none⟩ (.pointer (some ⟨x, 0, none⟩))) b e n (bs ++ [x]) := by
  obtain ⟨cs, h0, hs, r⟩ := h.it
  refine ⟨_, heap_setCell_same _ _ _ _ _ _ h0, by simpa using hs, fun j y hj => ?_⟩
  by_cases hlt : j < bs.length
  · rw [List.getElem?_append_left hlt] at hj
    rw [Array.getElem?_setIfInBounds_ne (by omega)]; exact r j y hj
  · rw [List.getElem?_append_right (by omega)] at hj
    have e0 : j - bs.length = 0 := by
      rcases Nat.eq_zero_or_pos (j - bs.length) with e | e
      · exact e
      · rw [List.getElem?_eq_none (by simp; omega)] at hj; cases hj
    rw [e0] at hj
    have e1 : j = bs.length := by omega
    have e2 : x = y := by simpa using hj
    subst e1; subst e2
    rw [Array.getElem?_setIfInBounds_self_of_lt (by omega)]
theorem PRow.alloc (h : PRow w b e n bs) (o : Obj) : PRow (w.alloc o) b e n bs := h.of_block (heap_alloc_old _ _ h.lt)
/-- The row's elements as values. -/
def ptrs (bs : List Nat) : List Value := bs.map fun x => .pointer (some ⟨x, 0, none⟩)
theorem ptrs_one (bs : List Nat) : ∀ u ∈ ptrs bs, u.oneCell' = true := by
  intro u hu
  obtain ⟨x, _, rfl⟩ := List.mem_map.1 hu
  rfl
theorem PRow.vals (h : PRow w b e n bs) : ∀ (j : Nat) u, (ptrs bs)[j]? = some u → w.cell? ⟨b, j, none⟩ = some u := by
  intro j u hu
  rw [ptrs, List.getElem?_map] at hu
  cases hx : bs[j]? with
  | none => rw [hx] at hu; cases hu
  | some x => rw [hx] at hu; cases hu; exact h.cell hx
theorem ptrs_get {bs : List Nat} {j x : Nat} (h : bs[j]? = some x) : (ptrs bs)[j]? = some (.pointer (some ⟨x, 0, none⟩)) := by
  rw [ptrs, List.getElem?_map, h]; rfl

/-- A copy that Clone has made. -/
theorem PRow.of_cur {g : Nat} {cur : Array Value} (hg : w.heap[g]? = some (.cells cur e (0, 0))) (hc : ∀ (j : Nat) u, (ptrs bs)[j]? = some u → cur[j]? = some u) : PRow w g e cur.size bs :=
  ⟨cur, hg, rfl, fun _ _ hj => hc _ _ (ptrs_get hj)⟩

/-- A new row out of 'make'. -/
theorem PRow.made {xs : List Value} {base g : Nat} (ho : w.ownsRow base e 1 (.slice (some ⟨g, 0, none⟩) n n) n xs) : PRow w g e n [] := by
  rcases ho.2 with ⟨h', _⟩ | ⟨g', cap, cur, h', _, hgg, _, _, hcs, _⟩
  · cases h'
  · simp only [Value.slice.injEq, Option.some.injEq, Addr.mk.injEq, and_true, true_and] at h'
    obtain ⟨rfl, rfl⟩ := h'
    exact ⟨cur, hgg, by omega, by simp⟩
theorem PRow.own (h : PRow w b e n bs) (hl : bs.length = n) (hm : n ≤ maxLen) : w.ownsRow b e 1 (.slice (some ⟨b, 0, none⟩) n n) n (ptrs bs) := by
  obtain ⟨cs, h0, hn, r⟩ := h.it
  refine ⟨by simp [ptrs, hl], .inr ⟨b, n, cs, rfl, Nat.le_refl _, h0, Nat.le_refl _, hm, by omega, ?_⟩⟩
  apply List.ext_getElem?
  intro j
  by_cases hj : j < n
  · have hj' : j < bs.length := by omega
    rw [List.getElem?_take, if_pos (by omega), Array.getElem?_toList, r j bs[j] (List.getElem?_eq_getElem hj'), ptrs_get (List.getElem?_eq_getElem hj')]
  · rw [List.getElem?_eq_none (by simp; omega), List.getElem?_eq_none (by simp [ptrs]; omega)]

/-- Each of the blocks bs is a hand-off that waits (stage 1), from block B on. -/
def Blk (w : World) (B : Nat) (bs : List Nat) : Prop := ∀ x ∈ bs, B ≤ x ∧ ∃ p : Nat, w.heap[x]? = some (.cells #[.pointer (some ⟨p, 0, none⟩), .int .i64 1] 61 (0, 0))

theorem Blk.step {B HB nh : Nat} {v : Value} {k : Nat} {o : Obj} (h : Blk w B bs) (r : PRow w HB 58 nh bs) (hB : B ≤ w.heap.size) :
    Blk (((w.setCell ⟨HB, k, none⟩ v).alloc o).alloc (.cells #[.pointer (some ⟨w.heap.size, 0, none⟩), .int .i64 1] 61)) B (bs ++ [w.heap.size + 1]) := by
  intro x hx
  rcases List.mem_append.1 hx with hx | hx
  · obtain ⟨h1, p, h2⟩ := h x hx
    have hlt := (Array.getElem?_eq_some_iff.1 h2).1
    have hne : x ≠ HB := fun e => by
      obtain ⟨cs, k0, _⟩ := r.it
      rw [e, k0] at h2; simp at h2
    refine ⟨h1, p, ?_⟩
    rw [heap_alloc_old _ _ (by simp; omega), heap_alloc_old _ _ (by simpa using hlt), heap_setCell_other _ _ _ _ hne]; exact h2
  · have e : x = w.heap.size + 1 := by simpa using hx
    subst e
    refine ⟨by omega, w.heap.size, ?_⟩
    have := heap_alloc_new ((w.setCell ⟨HB, k, none⟩ v).alloc o) (.cells #[.pointer (some ⟨w.heap.size, 0, none⟩), .int .i64 1] 61)
    simpa using this
theorem Blk.of_blocks {B : Nat} (h : Blk w B bs) (k : ∀ x, x < w.heap.size → x ∈ bs → w'.heap[x]? = w.heap[x]?) : Blk w' B bs := fun x hx => by
  obtain ⟨h1, p, h2⟩ := h x hx
  exact ⟨h1, p, (k x (Array.getElem?_eq_some_iff.1 h2).1 hx).trans h2⟩
theorem Blk.below {B : Nat} (h : Blk w B bs) (hb : Below w.heap.size w w') : Blk w' B bs := h.of_blocks fun x hx _ => hb.block x hx

/-- Two zero values: whatever their cells hold. -/
theorem zero_closed48 : ((Yba.prog.info? 48).bind (·.zero)).map (fun v => match v with | .agg cs => cs.size == 270 | _ => false) = some true := by kernel_rfl
theorem zero_of {t n : Nat} (h : ((Yba.prog.info? t).bind (·.zero)).map (fun v => match v with | .agg cs => cs.size == n | _ => false) = some true) : ∃ Z : Array Value, Z.size = n ∧ ∀ w, (zeroValue t).run Yba.prog w = .ok (.agg Z) w := by
  cases hi : Yba.prog.info? t with
  | none => rw [hi] at h; cases h
  | some i =>
    rw [hi] at h
    cases hz : i.zero with
    | none => simp [hz] at h
    | some v =>
      cases v with
      | agg cs => simp [hz] at h; exact ⟨cs, h, fun w => by simp [zeroValue, typeInfo, hi, hz]⟩
      | _ => simp [hz] at h
end Go.Proofs.Ybulkaiqu.Row
