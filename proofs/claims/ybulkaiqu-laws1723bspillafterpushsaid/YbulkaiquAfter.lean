/-
  The walk of LawS1723BSpillAfterPush.
-/
import Derived.Test.YbulkaiquSt
namespace Go.Proofs.Ybulkaiqu.Ring
open Go.RowKit
open Go.Proofs.Ybulkaiqu.Queue

/-- The queue alone: head H, tail T. -/
structure Q0 (w wr : World) (qb : Nat) (H T : Int) : Prop where
  q : ∃ cs : Array Value, wr.heap[qb]? = some (.cells cs 37 (0, 0)) ∧ cs.size = 258 ∧ cs[0]? = some (.int .u32 H) ∧ cs[1]? = some (.int .u32 T)
  bel : Below w.heap.size w wr
  lo : w.heap.size ≤ qb

theorem Q0.cells {w wr : World} {qb : Nat} {H T : Int} (k : Q0 w wr qb H T) : wr.cell? ⟨qb, 0, none⟩ = some (.int .u32 H) ∧ wr.cell? ⟨qb, 1, none⟩ = some (.int .u32 T) ∧ ∀ i, wr.frozen? ⟨qb, i, none⟩ = false := by
  obtain ⟨cs, h1, _, h2, h3⟩ := k.q
  exact ⟨by rw [cell_of_row _ _ _ _ _ _ h1]; exact h2, by rw [cell_of_row _ _ _ _ _ _ h1]; exact h3, fun i => frozen_of_row _ _ _ _ _ h1⟩

theorem Q0.setHead {w wr : World} {qb : Nat} {H T : Int} (k : Q0 w wr qb H T) (H' : Int) : Q0 w (wr.setCell ⟨qb, 0, none⟩ (.int .u32 H')) qb H' T := by
  obtain ⟨cs, h1, hs, h2, h3⟩ := k.q
  refine ⟨⟨_, heap_setCell_same _ _ _ _ _ _ h1, by simpa using hs, ?_, ?_⟩, k.bel.setCell k.lo _, k.lo⟩
  · rw [Array.getElem?_setIfInBounds_self_of_lt (by omega)]
  · rw [Array.getElem?_setIfInBounds_ne (by omega)]; exact h3
theorem Q0.setTail {w wr : World} {qb : Nat} {H T : Int} (k : Q0 w wr qb H T) (T' : Int) : Q0 w (wr.setCell ⟨qb, 1, none⟩ (.int .u32 T')) qb H T' := by
  obtain ⟨cs, h1, hs, h2, h3⟩ := k.q
  refine ⟨⟨_, heap_setCell_same _ _ _ _ _ _ h1, by simpa using hs, ?_, ?_⟩, k.bel.setCell k.lo _, k.lo⟩
  · rw [Array.getElem?_setIfInBounds_ne (by omega)]; exact h2
  · rw [Array.getElem?_setIfInBounds_self_of_lt (by omega)]
theorem Q0.new {w : World} {Z : Array Value} (hs : Z.size = 258) (h0 : Z[0]? = some (.int .u32 0)) (h1 : Z[1]? = some (.int .u32 0)) : Q0 w (w.alloc (.cells Z 37)) w.heap.size 0 0 :=
  ⟨⟨Z, heap_alloc_new _ _, hs, h0, h1⟩, (Below.refl _ _).alloc (Nat.le_refl _) _, Nat.le_refl _⟩

/-- The row is made. -/
theorem Q0.made {w wr w1 : World} {qb h : Nat} (k : Q0 w wr qb h h) {xs : List Value} (ho : w1.ownsRow w.heap.size 25 1 (.slice (some ⟨wr.heap.size, 0, none⟩) 256 256) 256 xs) (hg : wr.grownBy w1 none) (hh : h < 4294967296) :
    St w w1 qb wr.heap.size h h ((h + ([] : List Nat).length) % 4294967296) [] := by
  obtain ⟨cs, h1, hs, h2, h3⟩ := k.q
  have e : (h + ([] : List Nat).length) % 4294967296 = h := by simp; omega
  rw [e]
  rcases ho.2 with ⟨h', _⟩ | ⟨g, cap, cur, h', _, hgg, hnc, hcm, hcs, _⟩
  · cases h'
  · simp only [Value.slice.injEq, Option.some.injEq, Addr.mk.injEq, and_true, true_and] at h'
    obtain ⟨rfl, rfl⟩ := h'
    refine ⟨⟨cs, ?_, hs, h2, h3, by simp⟩, ⟨cur, hgg, by omega, by simp⟩, by simp, k.bel.grown hg k.bel.size (fun _ e => by cases e), k.lo, k.bel.size⟩
    rw [hg.block qb (Array.getElem?_eq_some_iff.1 h1).1 (by simp)]; exact h1

theorem St.alloc {w wr : World} {qb R h H T : Nat} {ts : List Nat} (k : St w wr qb R h H T ts) (o : Obj) : St w (wr.alloc o) qb R h H T ts := by
  obtain ⟨cs, h1, h2⟩ := k.q
  obtain ⟨rs, r1, r2⟩ := k.r
  have hl := k.lt
  exact ⟨⟨cs, (heap_alloc_old _ _ hl.1).trans h1, h2⟩, ⟨rs, (heap_alloc_old _ _ hl.2).trans r1, r2⟩, fun b hb => (heap_alloc_old _ _ (Array.getElem?_eq_some_iff.1 (k.t b hb)).1).trans (k.t b hb), k.bel.alloc k.bel.size _, k.lo⟩

theorem St.drew {w wr : World} {qb R h H T : Nat} {ts : List Nat} (k : St w wr qb R h H T ts) : St w wr.drew qb R h H T ts := ⟨k.q, k.r, k.t, k.bel.drew, k.lo⟩

/-- spill, of natural numbers. -/
theorem spill_n (b h t : Nat) (w : World) (hH : w.cell? ⟨b, 0, none⟩ = some (.int .u32 h)) (hT : w.cell? ⟨b, 1, none⟩ = some (.int .u32 t)) (hz : w.frozen? ⟨b, 0, none⟩ = false) (hd : (((t : Int) - (h : Int)) % 4294967296 != 256) = false) :
    Calls Yba.prog 15 #[.pointer (some ⟨b, 0, none⟩)] w fun e w' => e = .returned (.tuple #[.int .u32 h, .bool true]) ∧ w' = w.setCell ⟨b, 0, none⟩ (.int .u32 (((h + 128) % 4294967296 : Nat) : Int)) := by
  refine (spill_full b h t w hH hT hz hd).mono ?_
  rintro e w' ⟨rfl, rfl⟩
  refine ⟨rfl, ?_⟩
  rw [show ((h : Int) + 128) % 4294967296 = (((h + 128) % 4294967296 : Nat) : Int) by omega]

theorem pop_n (b h tb : Nat) (t : Int) (w : World) (hH : w.cell? ⟨b, 0, none⟩ = some (.int .u32 h)) (hT : w.cell? ⟨b, 1, none⟩ = some (.int .u32 t)) (hz : w.frozen? ⟨b, 0, none⟩ = false) (hd : ((h : Int) == t) = false)
    (htb : w.heap[tb]? = some (.cells taskZ 105 (0, 0))) (hc : w.cell? ⟨b, 2 + h % 256, none⟩ = some (.pointer (some ⟨tb, 0, none⟩))) :
    Calls Yba.prog 20 #[.pointer (some ⟨b, 0, none⟩)] w fun e w' => e = .returned (.pointer (some ⟨tb, 0, none⟩)) ∧ w' = w.setCell ⟨b, 0, none⟩ (.int .u32 (((h + 1) % 4294967296 : Nat) : Int)) := by
  refine (pop_some b h tb t w hH hT hz hd htb hc).mono ?_
  rintro e w' ⟨rfl, rfl⟩
  refine ⟨rfl, ?_⟩
  rw [show ((h : Int) + 1) % 4294967296 = (((h + 1) % 4294967296 : Nat) : Int) by omega]

theorem spilled_int (b i tb : Nat) (x : Int) (w : World) (hx : x = (i : Int)) (htb : w.heap[tb]? = some (.cells taskZ 105 (0, 0))) (hc : w.cell? ⟨b, 2 + i % 256, none⟩ = some (.pointer (some ⟨tb, 0, none⟩))) :
    Calls Yba.prog 19 #[.pointer (some ⟨b, 0, none⟩), .int .u32 x] w fun e w' => e = .returned (.pointer (some ⟨tb, 0, none⟩)) ∧ w' = w := by
  subst hx
  exact spilled_any b i tb w htb hc

/-- 't != t' at *Task. -/
theorem neq25_same (a : Addr) (w : World) : (binOp .neq 25 (.pointer (some a)) (.pointer (some a))).run Yba.prog w = .ok (.bool false) w := by
  obtain ⟨j, hj, _⟩ := Ptr.info_some (show (Yba.prog.info? 105).map (·.size) = some 6 by kernel_rfl)
  exact Ptr.run_neq_ptr_same w a Yba.underlying25 hj

theorem Yba.info25 : (Yba.prog.info? 25).map (fun i => (i.zero, i.size, i.bytes)) = some (some (.pointer none), 1, 8) := by kernel_rfl

set_option maxHeartbeats 2000000 in
set_option maxRecDepth 100000 in
theorem walk (h : Nat) (hh : h < 4294967296) (w : World) :
    Calls Yba.prog 5 #[.int .u32 h] w fun e w' => e = .returned (.bool true) ∧ Below w.heap.size w w' := by
  obtain ⟨Z, hZ, zs, z0, z1, _⟩ := zero37
  obtain ⟨i0, hi, hz0, hz1, hz2⟩ := info_parts Yba.info25
  have k0 := Q0.new (w := w) zs z0 z1
  go_enter Yba.func5, Yba.ntmps5
  go_wp2_with fail
  generalize w.alloc (Obj.cells Z 37) = wq at k0 ⊢
  refine (store32 _ _ 0 _ _ k0.cells.1 (k0.cells.2.2 0)).mono ?_
  rintro e w1 ⟨rfl, rfl⟩
  have k1 := k0.setHead h
  clear k0
  generalize wq.setCell ⟨w.heap.size, 0, none⟩ (.int .u32 h) = w1 at k1 ⊢
  go_wp2_with fail
  refine (store32 _ _ 0 _ _ k1.cells.2.1 (k1.cells.2.2 1)).mono ?_
  rintro e w2 ⟨rfl, rfl⟩
  have k2 := k1.setTail h
  clear k1
  generalize w1.setCell ⟨w.heap.size, 1, none⟩ (.int .u32 h) = w2 at k2 ⊢
  go_wp2_with (at_make; refine wpList_make_full _ rfl _ _ 39 rfl w.heap.size 25 i0 (.pointer none) 1 Yba.underlying39 hi hz0 hz1 _ _ _ _ 256 rfl rfl rfl rfl ?b2 ?b3 k2.bel.size ?_)
  case b2 => rw [hz2]; decide
  case b3 => decide
  intro w3 hown hgrow
  have S0 := k2.made hown hgrow hh
  clear hown hgrow k2
  generalize w2.heap.size = R at S0 ⊢
  generalize w.heap.size = qb at S0 ⊢
  go_wp2
  go_loopw [5] (fun i wr => ∃ ts : List Nat, ts.length ≤ 256 ∧ i = .int .i64 ts.length ∧ St w wr qb R h h ((h + ts.length) % 4294967296) ts) (fun i _ => 256 - (intOf i).toNat)
  case atStart => exact ⟨[], by simp, rfl, S0⟩
  case round =>
    clear S0
    obtain ⟨ts, hl, rfl, S⟩ := hrel
    by_cases hlt : ts.length < 256
    · obtain ⟨u, hu⟩ := S.rslot ts.length hlt
      have hf := S.rfree ts.length
      obtain ⟨W, hW, SW, hn, hr⟩ : ∃ W : World, W = (wr.setCell ⟨R, ts.length, none⟩ (.pointer (some ⟨wr.heap.size, 0, none⟩))).alloc (.cells #[.nilFunc, .pointer none, .pointer none, .pointer none, .bool false, .bool false] 105) ∧ St w W qb R h h ((h + ts.length) % 4294967296) ts ∧ W.heap[wr.heap.size]? = some (.cells taskZ 105 (0, 0)) ∧ W.cell? ⟨R, ts.length, none⟩ = some (.pointer (some ⟨wr.heap.size, 0, none⟩)) := ⟨_, rfl, S.put hlt⟩
      have HW := hide hW
      have hlt2 := S.lt.2
      clear hW
      go_wp2_with fail
      rw [← unhide HW]
      clear HW S hu hf
      generalize wr.heap.size = nb at hn hr hlt2 ⊢
      obtain ⟨u, hu⟩ := SW.slot ((h + ts.length) % 4294967296 % 256) (by omega)
      have S2 := SW.push hlt rfl hn hr
      refine (push_room qb nb h ((h + ts.length) % 4294967296) u W (by omega) SW.head SW.tail SW.free hn hu (by simp; omega)).mono ?_
      rintro e w5 ⟨rfl, rfl⟩
      clear hn hr hu SW
      generalize (W.setCell ⟨qb, 2 + (h + ts.length) % 4294967296 % 256, none⟩ (.pointer (some ⟨nb, 0, none⟩))).setCell ⟨qb, 1, none⟩ (.int .u32 (((((h + ts.length) % 4294967296 : Nat) : Int) + 1) % 4294967296)) = w5 at S2 ⊢
      go_wp2
      go_roundw
      case rel => exact ⟨ts ++ [nb], by simp; omega, by simp, by rw [List.length_append, List.length_singleton, ← Nat.add_assoc]; exact S2⟩
      case measure => simp [intOf]; omega
    · have hl2 : ts.length = 256 := by omega
      have S1 : St w wr qb R h h ((h + 256) % 4294967296) ts := by rw [← hl2]; exact S
      have HL := hide hl2
      clear hl2 S
      have hd : (((((h + 256) % 4294967296 : Nat) : Int) - (h : Int)) % 4294967296 == 256) = true := by simp; omega
      have hd2 : (((((h + 256) % 4294967296 : Nat) : Int) - (h : Int)) % 4294967296 != 256) = false := by simp; omega
      have hdec : decide ((ts.length : Int) < 256) = false := by simp; omega
      go_wp2_with fail
      have S2 := S1.alloc (.cells #[.nilFunc, .pointer none, .pointer none, .pointer none, .bool false, .bool false] 105)
      clear S1
      refine (push_full qb h ((h + 256) % 4294967296 : Nat) _ _ S2.head S2.tail hd).mono ?_
      rintro e w5 ⟨rfl, rfl⟩
      generalize wr.alloc (.cells #[.nilFunc, .pointer none, .pointer none, .pointer none, .bool false, .bool false] 105) = w5 at S2 ⊢
      go_wp2_with fail
      refine (spill_n qb h _ _ S2.head S2.tail (S2.free 0) hd2).mono ?_
      rintro e w6 ⟨rfl, rfl⟩
      have S3 := S2.setHead ((h + 128) % 4294967296)
      clear S2 hd hd2
      generalize w5.setCell ⟨qb, 0, none⟩ (.int .u32 (((h + 128) % 4294967296 : Nat) : Int)) = w6 at S3 ⊢
      go_wp2_with fail
      refine (len_any qb _ _ _ S3.head S3.tail).mono ?_
      rintro e w7 ⟨rfl, rfl⟩
      have hd3 : ((((h + 256) % 4294967296 : Nat) : Int) - (((h + 128) % 4294967296 : Nat) : Int)) % 4294967296 = 128 := by omega
      rw [hd3]
      clear hd3
      go_wp2
      obtain ⟨wo, rfl⟩ : ∃ wo : World, wo = wr := ⟨_, rfl⟩
      go_loopw [8] (fun i wr => ∃ i' : Nat, i' ≤ 128 ∧ i = .int .u32 i' ∧ St w wr qb R h ((h + 128) % 4294967296) ((h + 256) % 4294967296) ts) (fun i _ => 128 - (intOf i).toNat)
      case atStart => exact ⟨0, by omega, rfl, S3⟩
      case round =>
        clear S3
        obtain ⟨i, hi128, rfl, S⟩ := hrel
        by_cases hi2 : i < 128
        · obtain ⟨tb, htb⟩ : ∃ tb, ts[i]? = some tb := ⟨ts[i]'(by have := unhide HL; omega), List.getElem?_eq_getElem _⟩
          have hrow := S.row htb
          have hn := neq25_same ⟨tb, 0, none⟩
          have htk := hide (S.task htb)
          have hrg : Hid (wr.cell? ⟨qb, 2 + (h + i) % 4294967296 % 256, none⟩ = some (.pointer (some ⟨tb, 0, none⟩))) := by
            have := S.ring htb
            rw [show (h + i) % 256 = (h + i) % 4294967296 % 256 by omega] at this
            exact this
          clear htb
          go_wp2
          go_quiet ((go_at_call 19; exact Calls.quiet_of_same (spilled_int qb ((h + i) % 4294967296) tb _ _ (by omega) (by exact unhide htk) (by exact unhide hrg))))
          go_wp2
          go_roundw
          case rel => exact ⟨i + 1, by omega, by go_num, S.drewN _⟩
          case measure => simp [intOf]; omega
        · clear hi128
          have hdec2 : decide ((i : Int) < 128) = false := by simp; omega
          go_wp2
          obtain ⟨wp, rfl⟩ : ∃ wp : World, wp = wr := ⟨_, rfl⟩
          go_loopw [9] (fun i wr => ∃ j : Nat, 128 ≤ j ∧ j ≤ 256 ∧ i = .int .i64 j ∧ St w wr qb R h ((h + j) % 4294967296) ((h + 256) % 4294967296) ts) (fun i _ => 256 - (intOf i).toNat)
          case atStart => exact ⟨128, by omega, by omega, rfl, S⟩
          case round =>
            clear S
            obtain ⟨j, hj1, hj2, rfl, S⟩ := hrel
            by_cases hjl : j < 256
            · obtain ⟨tb, htb⟩ : ∃ tb, ts[j]? = some tb := ⟨ts[j]'(by have := unhide HL; omega), List.getElem?_eq_getElem _⟩
              have hrow := S.row htb
              have hn := neq25_same ⟨tb, 0, none⟩
              have htk := hide (S.task htb)
              have hrg : Hid (wr.cell? ⟨qb, 2 + (h + j) % 4294967296 % 256, none⟩ = some (.pointer (some ⟨tb, 0, none⟩))) := by
                have := S.ring htb
                rw [show (h + j) % 256 = (h + j) % 4294967296 % 256 by omega] at this
                exact this
              have hd4 : Hid (((((h + j) % 4294967296 : Nat) : Int) == (((h + 256) % 4294967296 : Nat) : Int)) = false) := by
                show _ = false
                rw [beq_eq_false_iff_ne]; omega
              have hne := S.ne
              have hne' := S.ne.symm
              have S2 : St w (wr.setCell ⟨qb, 0, none⟩ (.int .u32 (((h : Int) + (j : Int) + 1) % 4294967296))) qb R h ((h + (j + 1)) % 4294967296) ((h + 256) % 4294967296) ts := by
                have := S.setHead ((h + (j + 1)) % 4294967296)
                rw [show (((h + (j + 1)) % 4294967296 : Nat) : Int) = ((h : Int) + (j : Int) + 1) % 4294967296 by omega] at this
                exact this
              clear htb
              go_wp2
              go_region_with (go_at_call 20; refine (pop_n qb ((h + j) % 4294967296) tb (((h + 256) % 4294967296 : Nat) : Int) _ (by exact S.head) (by exact S.tail) (by exact S.free 0) (by exact unhide hd4) (by exact unhide htk) (by exact unhide hrg)).mono ?_; rintro e w8 ⟨rfl, rfl⟩)
              all_goals
                go_wp2
                go_roundw
                case rel => exact ⟨j + 1, by omega, by omega, by go_num, S2.drew⟩
                case measure => simp [intOf]; omega
            · have e : j = 256 := by omega
              subst e
              go_wp2_with fail
              refine (pop_none qb _ _ S.head S.tail).mono ?_
              rintro e w8 ⟨rfl, rfl⟩
              go_wp2
              go_ret
              exact ⟨rfl, S.bel⟩

#print axioms walk
end Go.Proofs.Ybulkaiqu.Ring
