/-
  All that LawS1723ARest has laid in memory, and what is left of it behind each of restLocked's three ways. No walk in this text.
-/
import Derived.Test.YbulkaiquRow
import Derived.Conc.LoneSelectN
namespace Go.Proofs.Ybulkaiqu.Mem
open Go.RowKit Go.Conc
open Go.Proofs.Ybulkaiqu.Sch Go.Proofs.Ybulkaiqu.Row

structure Mem (w wr : World) (PB IB HB WB cb gI gH MB ni nh nI nH : Nat) (is bs : List Nat) : Prop where
  rI : PRow wr IB 50 ni is
  rH : PRow wr HB 58 nh bs
  cI : PRow wr gI 50 nI is
  cH : PRow wr gH 58 nH bs
  blk : Blk wr PB bs
  up : bs.Pairwise (· < ·)
  wk : ∃ ws : Array Value, wr.heap[WB]? = some (.cells ws 56 (0, 0)) ∧ ws[0]? = some (.chan (some cb))
  ch : wr.heap[cb]? = some (.chan 1 #[.pointer (some ⟨MB, 0, none⟩)] false 1 0 false)
  neI : gI ≠ IB
  neH : gH ≠ HB
  lo : PB ≤ IB ∧ PB ≤ HB ∧ PB ≤ cb
  bel : Below PB w wr
  sz : PB ≤ wr.heap.size

variable {w wr wr' : World} {PB IB HB WB cb gI gH MB ni nh nI nH : Nat} {is bs : List Nat}

theorem blk_ne {S : Nat} {cs : Array Value} {t : Nat} {x : Nat} (h : Blk wr PB bs) (hx : x ∈ bs) (hS : wr.heap[S]? = some (.cells cs t (0, 0))) (ht : t ≠ 61) : x ≠ S := fun e => by
  obtain ⟨_, p, h2⟩ := h x hx
  rw [e, hS] at h2; simp at h2; exact ht h2.2
theorem prow_ne {S b e n : Nat} {cs : Array Value} {t : Nat} {l : List Nat} (h : PRow wr b e n l) (hS : wr.heap[S]? = some (.cells cs t (0, 0))) (ht : t ≠ e) : b ≠ S := fun x => by
  obtain ⟨ds, h0, _⟩ := h.it
  rw [x, hS] at h0; simp at h0; exact ht h0.2

/-- The blocks that Mem speaks of are none of Scheduler's. -/
theorem Mem.apart {SB : Nat} {pv iv hv : Value} {mx th mu : Int} {st : Bool} (m : Mem w wr PB IB HB WB cb gI gH MB ni nh nI nH is bs) (s : Sch wr SB pv iv hv mx th mu st) :
    IB ≠ SB ∧ HB ≠ SB ∧ gI ≠ SB ∧ gH ≠ SB ∧ WB ≠ SB ∧ cb ≠ SB ∧ ∀ x ∈ bs, x ≠ SB := by
  obtain ⟨cs, hS, _⟩ := s.it
  obtain ⟨ws, hW, _⟩ := m.wk
  refine ⟨prow_ne m.rI hS (by decide), prow_ne m.rH hS (by decide), prow_ne m.cI hS (by decide), prow_ne m.cH hS (by decide), fun e => ?_, fun e => ?_, fun x hx => blk_ne m.blk hx hS (by decide)⟩
  · rw [e, hS] at hW; simp at hW
  · have := m.ch; rw [e, hS] at this; simp at this

/-- Where Scheduler's own block alone has turned, all of it stands. -/
theorem Mem.kept {SB : Nat} {pv iv hv : Value} {mx th mu : Int} {st : Bool} (m : Mem w wr PB IB HB WB cb gI gH MB ni nh nI nH is bs) (s : Sch wr SB pv iv hv mx th mu st) (hSB : PB ≤ SB) (k : Kept (fun k => k = SB) wr wr') : Mem w wr' PB IB HB WB cb gI gH MB ni nh nI nH is bs := by
  obtain ⟨a1, a2, a3, a4, a5, a6, a7⟩ := m.apart s
  obtain ⟨ws, hW, hws⟩ := m.wk
  exact ⟨m.rI.of_block (k.block _ m.rI.lt a1), m.rH.of_block (k.block _ m.rH.lt a2), m.cI.of_block (k.block _ m.cI.lt a3), m.cH.of_block (k.block _ m.cH.lt a4), m.blk.of_blocks (fun x hx hm => k.block x hx (a7 x hm)), m.up,
    ⟨ws, (k.block _ (Array.getElem?_eq_some_iff.1 hW).1 a5).trans hW, hws⟩, (k.block _ (Array.getElem?_eq_some_iff.1 m.ch).1 a6).trans m.ch, m.neI, m.neH, m.lo, Kept.below m.bel k (fun k e => by subst e; exact hSB) m.sz, Nat.le_trans m.sz k.size⟩

theorem Mem.wake (m : Mem w wr PB IB HB WB cb gI gH MB ni nh nI nH is bs) : wr.cell? ⟨WB, 0, none⟩ = some (.chan (some cb)) := by
  obtain ⟨ws, hW, hws⟩ := m.wk
  exact (cell_of_row _ _ _ _ _ _ hW).trans hws

/-- The length of the worker's channel, in whatever world that differs by draws. -/
theorem Mem.len (m : Mem w wr PB IB HB WB cb gI gH MB ni nh nI nH is bs) : ∀ q, (Builtin.len_ #[51] 3 #[.chan (some cb)]).run Yba.prog (wr.drewN q) = .ok (.int .i64 1) (wr.drewN q) := fun q =>
  run_len_chan (P := Yba.prog) (w := wr.drewN q) 51 3 Yba.underlying51 m.ch
theorem Mem.len0 (m : Mem w wr PB IB HB WB cb gI gH MB ni nh nI nH is bs) : (Builtin.len_ #[51] 3 #[.chan (some cb)]).run Yba.prog wr = .ok (.int .i64 1) wr :=
  run_len_chan (P := Yba.prog) (w := wr) 51 3 Yba.underlying51 m.ch

theorem Mem.stage (m : Mem w wr PB IB HB WB cb gI gH MB ni nh nI nH is bs) {j x : Nat} (hj : bs[j]? = some x) : wr.cell? ⟨x, 1, none⟩ = some (.int .i64 1) := by
  obtain ⟨_, p, h⟩ := m.blk x (List.mem_of_getElem? hj)
  exact cell_of_row _ _ 1 _ _ _ h

theorem Mem.alloc (m : Mem w wr PB IB HB WB cb gI gH MB ni nh nI nH is bs) (o : Obj) : Mem w (wr.alloc o) PB IB HB WB cb gI gH MB ni nh nI nH is bs := by
  obtain ⟨ws, h1, h2⟩ := m.wk
  exact ⟨m.rI.alloc o, m.rH.alloc o, m.cI.alloc o, m.cH.alloc o, m.blk.of_blocks (fun x hx _ => heap_alloc_old _ _ hx), m.up, ⟨ws, (heap_alloc_old _ _ (Array.getElem?_eq_some_iff.1 h1).1).trans h1, h2⟩, (heap_alloc_old _ _ (Array.getElem?_eq_some_iff.1 m.ch).1).trans m.ch, m.neI, m.neH, m.lo, m.bel.alloc m.sz o, by have := m.sz; simp; omega⟩
theorem Mem.drewN (m : Mem w wr PB IB HB WB cb gI gH MB ni nh nI nH is bs) (q : Nat) : Mem w (wr.drewN q) PB IB HB WB cb gI gH MB ni nh nI nH is bs :=
  ⟨m.rI.of_block rfl, m.rH.of_block rfl, m.cI.of_block rfl, m.cH.of_block rfl, m.blk.of_blocks (fun _ _ _ => rfl), m.up, m.wk, m.ch, m.neI, m.neH, m.lo, below_drewN m.bel q, m.sz⟩

/-! ### '!=' at the three pointer types -/
theorem neq58_same (a : Addr) (w : World) : (binOp .neq 58 (.pointer (some a)) (.pointer (some a))).run Yba.prog w = .ok (.bool false) w := by
  obtain ⟨j, hj, _⟩ := Ptr.info_some (show (Yba.prog.info? 61).map (·.size) = some 2 by kernel_rfl)
  exact Ptr.run_neq_ptr_same w a Yba.underlying58 hj
theorem neq50_same (a : Addr) (w : World) : (binOp .neq 50 (.pointer (some a)) (.pointer (some a))).run Yba.prog w = .ok (.bool false) w := by
  obtain ⟨j, hj, _⟩ := Ptr.info_some (show (Yba.prog.info? 56).map (·.size) = some 8 by kernel_rfl)
  exact Ptr.run_neq_ptr_same w a Yba.underlying50 hj
theorem neq23_same (a : Addr) (w : World) : (binOp .neq 23 (.pointer (some a)) (.pointer (some a))).run Yba.prog w = .ok (.bool false) w := by
  obtain ⟨j, hj, _⟩ := Ptr.info_some (show (Yba.prog.info? 48).map (·.size) = some 270 by kernel_rfl)
  exact Ptr.run_neq_ptr_same w a Yba.underlying23 hj

/-! ### the Scheduler, made -/
def isSch (v : Value) : Bool := match v with
  | .agg cs => cs.size == 107 && (match (cs[88]? : Option Value) with | some (.int .i32 n) => n == 0 | _ => false)
  | _ => false
theorem zero93_closed : ((Yba.prog.info? 93).bind (·.zero)).map isSch = some true := by kernel_rfl
theorem zero93 : ∃ Z : Array Value, Z.size = 107 ∧ Z[88]? = some (.int .i32 0) ∧ ∀ w, (zeroValue 93).run Yba.prog w = .ok (.agg Z) w := by
  have h := zero93_closed
  cases hi : Yba.prog.info? 93 with
  | none => rw [hi] at h; cases h
  | some i =>
    rw [hi] at h
    cases hz : i.zero with
    | none => simp [hz] at h
    | some v =>
      simp [hz] at h
      unfold isSch at h
      split at h
      · rename_i cs
        simp only [Bool.and_eq_true, beq_iff_eq] at h
        obtain ⟨h1, h2⟩ := h
        refine ⟨cs, h1, ?_, fun w => by simp [zeroValue, typeInfo, hi, hz]⟩
        split at h2
        · rename_i n hn
          rw [hn]
          have : n = 0 := by simpa using h2
          rw [this]
        · cases h2
      · cases h

theorem made {Z : Array Value} (hZ : Z.size = 107) (h88 : Z[88]? = some (.int .i32 0)) (pv iv hv : Value) (mx th : Int) (st : Bool) (w : World) :
    Sch (w.alloc (.cells ((((((Z.setIfInBounds 94 (.bool st)).setIfInBounds 92 (.int .i64 th)).setIfInBounds 1 (.int .i64 mx)).setIfInBounds 0 pv).setIfInBounds 91 iv).setIfInBounds 93 hv) 93)) w.heap.size pv iv hv mx th 0 st := by
  refine ⟨_, heap_alloc_new _ _, by simp [hZ], ?_, ?_, ?_, ?_, ?_, ?_, ?_⟩
  all_goals first | (simp [hZ]; done) | (simp [hZ]; exact (Array.getElem?_eq_some_iff.1 h88).2)

theorem up_step {B : Nat} (h : Blk w B bs) (u : bs.Pairwise (· < ·)) : (bs ++ [w.heap.size + 1]).Pairwise (· < ·) := by
  rw [List.pairwise_append]
  refine ⟨u, by simp, fun a ha b hb => ?_⟩
  obtain ⟨_, p, h2⟩ := h a ha
  have := (Array.getElem?_eq_some_iff.1 h2).1
  have e : b = w.heap.size + 1 := by simpa using hb
  omega

/-- The marker, the channel and the worker, laid. -/
theorem chan_world (w5 : World) (Zp : Array Value) : ∃ wq : World, wq = ((w5.alloc (Obj.cells Zp 48)).alloc (Obj.chan 1 #[] false 0 0 false)).alloc (Obj.cells #[Value.chan (some (w5.heap.size + 1)), Value.bool false, Value.int IntKind.u64 0, Value.bool false, Value.int IntKind.i64 0, Value.int IntKind.i64 0, Value.int IntKind.i64 0, Value.int IntKind.i64 0] 56)
    ∧ wq.heap[w5.heap.size + 1]? = some (.chan 1 #[] false 0 0 false) ∧ (∃ ws : Array Value, wq.heap[w5.heap.size + 1 + 1]? = some (.cells ws 56 (0, 0)) ∧ ws[0]? = some (.chan (some (w5.heap.size + 1)))) ∧ Below w5.heap.size w5 wq := by
  refine ⟨_, rfl, ?_, ⟨#[Value.chan (some (w5.heap.size + 1)), Value.bool false, Value.int IntKind.u64 0, Value.bool false, Value.int IntKind.i64 0, Value.int IntKind.i64 0, Value.int IntKind.i64 0, Value.int IntKind.i64 0], ?_, rfl⟩, ?_⟩
  · rw [heap_alloc_old _ _ (by simp)]
    have := heap_alloc_new (w5.alloc (Obj.cells Zp 48)) (Obj.chan 1 #[] false 0 0 false)
    simpa using this
  · have := heap_alloc_new ((w5.alloc (Obj.cells Zp 48)).alloc (Obj.chan 1 #[] false 0 0 false)) (Obj.cells #[Value.chan (some (w5.heap.size + 1)), Value.bool false, Value.int IntKind.u64 0, Value.bool false, Value.int IntKind.i64 0, Value.int IntKind.i64 0, Value.int IntKind.i64 0, Value.int IntKind.i64 0] 56)
    simpa using this
  · refine Below.alloc (Below.alloc (Below.alloc (Below.refl _ _) ?_ _) ?_ _) ?_ _ <;> simp <;> omega

/-- All of it, once the marker has been sent. -/
theorem Mem.sent {wq : World} {cb' : Nat} (rI : PRow w IB 50 ni is) (rH : PRow w HB 58 nh bs) (cI : PRow w gI 50 nI is) (cH : PRow w gH 58 nH bs) (blk : Blk w PB bs) (up : bs.Pairwise (· < ·)) (neI : gI ≠ IB) (neH : gH ≠ HB) {w0 : World} (bel : Below PB w0 w) (lo : PB ≤ IB ∧ PB ≤ HB) (hPB : PB ≤ w.heap.size)
    (hb : Below w.heap.size w wq) (hcl : w.heap.size ≤ cb') (hc : wq.heap[cb']? = some (.chan 1 #[] false 0 0 false)) (hw : ∃ ws : Array Value, wq.heap[WB]? = some (.cells ws 56 (0, 0)) ∧ ws[0]? = some (.chan (some cb'))) :
    Mem w0 (wq.setChan cb' 1 #[.pointer (some ⟨MB, 0, none⟩)] false 1 0 false) PB IB HB WB cb' gI gH MB ni nh nI nH is bs := by
  have hlt := (Array.getElem?_eq_some_iff.1 hc).1
  have ch : ∀ k, k ≠ cb' → (wq.setChan cb' 1 #[.pointer (some ⟨MB, 0, none⟩)] false 1 0 false).heap[k]? = wq.heap[k]? := fun k hk => by
    simp only [World.setChan]; exact Array.getElem?_setIfInBounds_ne (Ne.symm hk)
  have old : ∀ k, k < w.heap.size → (wq.setChan cb' 1 #[.pointer (some ⟨MB, 0, none⟩)] false 1 0 false).heap[k]? = w.heap[k]? := fun k hk => (ch k (by omega)).trans (hb.block k hk)
  obtain ⟨ws, h1, h2⟩ := hw
  have hne : WB ≠ cb' := fun e => by rw [e, hc] at h1; simp at h1
  refine ⟨rI.of_block (old _ rI.lt), rH.of_block (old _ rH.lt), cI.of_block (old _ cI.lt), cH.of_block (old _ cH.lt), blk.of_blocks (fun x hx _ => old x hx), up, ⟨ws, (ch _ hne).trans h1, h2⟩, heap_setChan _ _ _ _ _ _ _ _ hlt, neI, neH, ⟨lo.1, lo.2, by omega⟩, ?_, ?_⟩
  · exact below_setChan (bel.trans (hb.mono hPB)) (by omega) _ _ _ _ _ _
  · rw [size_setChan]; omega

end Go.Proofs.Ybulkaiqu.Mem
