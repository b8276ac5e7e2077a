/-
  The walk of LawS1723ARest, whole: the rows laid and copied, the marker sent, restLocked called, and each of its three ways looked at.
-/
import Derived.Test.YbulkaiquMem2
namespace Go.Proofs.Ybulkaiqu.Main
open Go.RowKit Go.Conc
open Go.Proofs.Ybulkaiqu.Sch Go.Proofs.Ybulkaiqu.Comm Go.Proofs.Ybulkaiqu.Row Go.Proofs.Ybulkaiqu.Mem

theorem bytes23 : ∃ i, Yba.prog.info? 23 = some i ∧ i.bytes = 8 := by
  have h : (Yba.prog.info? 23).map (·.bytes) = some 8 := by kernel_rfl
  obtain ⟨i, hi, hb⟩ := Option.map_eq_some_iff.1 h
  exact ⟨i, hi, hb⟩
theorem mk1 (w : World) : (Instr.makeChan 51 (.int .i64 1)).run Yba.prog w = .ok (.chan (some w.heap.size)) (w.alloc (.chan 1 #[] false 0 0 false)) := by
  obtain ⟨i, hi, hb⟩ := bytes23
  simpa using run_makeChan (P := Yba.prog) (w := w) Yba.underlying51 hi .i64 1 (by omega) (by rw [hb]; omega)

theorem Yba.info23 : (Yba.prog.info? 23).map (fun i => (i.zero, i.size, i.bytes)) = some (some (.pointer none), 1, 8) := by kernel_rfl

set_option maxHeartbeats 4000000 in
set_option maxRecDepth 1000000 in
theorem walk (a0 : Bool) (a1 a2 a3 a4 a5 : Int) (h3 : 0 ≤ a3 ∧ a3 ≤ 255) (h4 : 0 ≤ a4 ∧ a4 ≤ 255) (h5 : 0 ≤ a5 ∧ a5 ≤ 255) (w : World) :
    Calls Yba.prog 3 #[.bool a0, .int .i64 a1, .int .i64 a2, .int .u8 a3, .int .u8 a4, .int .u8 a5] w fun e w' => e = .returned (.bool true) ∧ Below w.heap.size w w' := by
  obtain ⟨Z48, hZ48, z48⟩ := zero_of zero_closed48
  obtain ⟨i23, hi23, hz23, hs23, hb23⟩ := info_parts Yba.info23
  obtain ⟨i50, hi50, hz50, hs50, hb50⟩ := info_parts Clone.Yba.info50
  obtain ⟨i58, hi58, hz58, hs58, hb58⟩ := info_parts Delete.Yba.info58
  obtain ⟨np, hnp⟩ : ∃ n : Nat, a3 % 9 = (n : Int) := ⟨(a3 % 9).toNat, by omega⟩
  obtain ⟨ni, hni⟩ : ∃ n : Nat, a4 % 17 = (n : Int) := ⟨(a4 % 17).toNat, by omega⟩
  obtain ⟨nh, hnh⟩ : ∃ n : Nat, a5 % 5 = (n : Int) := ⟨(a5 % 5).toNat, by omega⟩
  have bnp : np ≤ 8 := by omega
  have bni : ni ≤ 16 := by omega
  have bnh : nh ≤ 4 := by omega
  obtain ⟨h30, h31⟩ := h3
  obtain ⟨h40, h41⟩ := h4
  obtain ⟨h50, h51⟩ := h5
  go_enter Yba.func3, Yba.ntmps3
  have HNP := hide hnp
  have HNI := hide hni
  have HNH := hide hnh
  clear hnp hni hnh
  go_upto_region 4 with fail
  rw [unhide HNP, unhide HNI, unhide HNH]
  clear HNP HNI HNH
  go_wp2_with (at_make; refine wpList_make_full _ rfl _ _ 22 rfl w.heap.size 23 i23 (.pointer none) 1 Yba.underlying22 hi23 hz23 hs23 _ _ _ _ np rfl rfl rfl rfl ?b2 ?b3 (Nat.le_refl _) ?_)
  case b2 => rw [hb23]; omega
  case b3 => unfold maxLen; omega
  intro w1 hown hgrow
  have hb1 : Below w.heap.size w w1 := (Below.refl _ _).grown hgrow (Nat.le_refl _) (fun k e => by cases e)
  have r1 := PRow.made hown
  clear hown hgrow h30 h31 h40 h41 h50 h51
  generalize hPB : w.heap.size = PB at r1 hb1 ⊢
  have HPB := hide hPB
  clear hPB
  go_wp2
  go_loopw [17] (fun i wr => ∃ ps : List Nat, ps.length ≤ np ∧ i = .int .i64 ps.length ∧ PRow wr PB 23 np ps ∧ Below PB w wr) (fun i _ => np - (intOf i).toNat)
  case atStart => exact ⟨[], Nat.zero_le _, rfl, r1, hb1⟩
  case round =>
    clear r1 hb1
    obtain ⟨ps, hpl, rfl, r1, hb1⟩ := hrel
    by_cases hlt : ps.length < np
    · obtain ⟨u, hu⟩ := r1.slot ps.length hlt
      have hfz := r1.free ps.length
      have hl2 := r1.lt
      go_wp2
      go_roundw
      case rel => exact ⟨ps ++ [wr.heap.size], by simp; omega, by simp, (r1.put hlt _).alloc _, (hb1.setCell (Nat.le_refl _) _).alloc (by simp; omega) _⟩
      case measure => simp [intOf]; omega
    · have hdec : decide ((ps.length : Int) < (np : Int)) = false := by simp; omega
      have hPl := r1.lt
      clear r1
      obtain ⟨wa, rfl⟩ : ∃ wa : World, wa = wr := ⟨_, rfl⟩
      go_wp2_with (at_make; refine wpList_make_full _ rfl _ _ 49 rfl 0 50 i50 (.pointer none) 1 Yba.underlying49 hi50 hz50 hs50 _ _ _ _ ni rfl rfl rfl rfl ?b2 ?b3 (Nat.zero_le _) ?_)
      case b2 => rw [hb50]; omega
      case b3 => unfold maxLen; omega
      intro w2 hown hgrow
      have hb2 : Below PB w w2 := hb1.grown hgrow (by omega) (fun k e => by cases e)
      have r2 := PRow.made hown
      have hIB : PB < wa.heap.size := hPl
      clear hown hgrow hb1 hPl
      generalize wa.heap.size = IB at r2 hIB ⊢
      go_wp2
      go_loopw [19] (fun i wr => ∃ is : List Nat, is.length ≤ ni ∧ i = .int .i64 is.length ∧ PRow wr IB 50 ni is ∧ Below PB w wr) (fun i _ => ni - (intOf i).toNat)
      case atStart => exact ⟨[], Nat.zero_le _, rfl, r2, hb2⟩
      case round =>
        clear r2 hb2
        obtain ⟨is, hil, rfl, r2, hb2⟩ := hrel
        by_cases hlt2 : is.length < ni
        · obtain ⟨u, hu⟩ := r2.slot is.length hlt2
          have hfz := r2.free is.length
          have hl2 := r2.lt
          go_wp2
          go_roundw
          case rel => exact ⟨is ++ [wr.heap.size], by simp; omega, by simp, (r2.put hlt2 _).alloc _, (hb2.setCell (by show PB ≤ IB; omega) _).alloc (by simp; omega) _⟩
          case measure => simp [intOf]; omega
        · have hdec2 : decide ((is.length : Int) < (ni : Int)) = false := by simp; omega
          have hilen : is.length = ni := by omega
          have HIL := hide hilen
          clear hilen
          obtain ⟨wb, rfl⟩ : ∃ wb : World, wb = wr := ⟨_, rfl⟩
          go_wp2_with (at_make; refine wpList_make_full _ rfl _ _ 57 rfl 0 58 i58 (.pointer none) 1 Yba.underlying57 hi58 hz58 hs58 _ _ _ _ nh rfl rfl rfl rfl ?b4 ?b5 (Nat.zero_le _) ?_)
          case b4 => rw [hb58]; omega
          case b5 => unfold maxLen; omega
          intro w3 hown hgrow
          have hb3 : Below PB w w3 := hb2.grown hgrow (by have := r2.lt; omega) (fun k e => by cases e)
          have r3 := PRow.made hown
          have r2' : PRow w3 IB 50 ni is := r2.of_block (hgrow.block IB r2.lt (by simp))
          have hHB : PB < wb.heap.size := by have := r2.lt; omega
          clear hown hgrow hb2 r2
          generalize wb.heap.size = HB at r3 hHB ⊢
          go_wp2
          go_loopw [21] (fun i wr => ∃ bs : List Nat, bs.length ≤ nh ∧ i = .int .i64 bs.length ∧ PRow wr HB 58 nh bs ∧ PRow wr IB 50 ni is ∧ Blk wr PB bs ∧ bs.Pairwise (· < ·) ∧ Below PB w wr) (fun i _ => nh - (intOf i).toNat)
          case atStart => exact ⟨[], Nat.zero_le _, rfl, r3, r2', (fun x hx => by cases hx), by simp, hb3⟩
          case round =>
            clear r3 r2' hb3
            obtain ⟨bs, hbl, rfl, r3, r2, k3, hup, hb3⟩ := hrel
            have UP := hide hup
            clear hup
            have hne : IB ≠ HB := r2.ne r3 (by decide)
            by_cases hlt3 : bs.length < nh
            · obtain ⟨u, hu⟩ := r3.slot bs.length hlt3
              have hfz := r3.free bs.length
              have hl2 := r3.lt
              go_wp2
              go_roundw
              case rel => exact ⟨bs ++ [wr.heap.size + 1], by simp; omega, by simp, ((r3.put hlt3 _).alloc _).alloc _, ((r2.of_block (heap_setCell_other _ _ _ _ hne)).alloc _).alloc _, k3.step r3 (by omega), up_step k3 (unhide UP), ((hb3.setCell (by show PB ≤ HB; omega) _).alloc (by simp; omega) _).alloc (by simp; omega) _⟩
              case measure => simp [intOf]; omega
            · have hdec3 : decide ((bs.length : Int) < (nh : Int)) = false := by simp; omega
              have hblen : bs.length = nh := by omega
              have HBL := hide hblen
              have CH := hide (Clone.clone58 HB nh (ptrs bs) wr (by omega) (by simp [ptrs]; omega) (ptrs_one bs) r3.lt r3.vals)
              clear hblen
              obtain ⟨wc, rfl⟩ : ∃ wc : World, wc = wr := ⟨_, rfl⟩
              go_wp2_with fail
              refine (unhide CH).mono ?_
              rintro e w4 ⟨vH, rfl, hoH, hbH, hnH⟩
              obtain ⟨gH, capH, curH, hvH, hgl, hcapH, _, hgH, hcurH⟩ := Clone.row_of hoH hnH
              rw [hvH]
              have cH : PRow w4 gH 58 curH.size bs := PRow.of_cur hgH hcurH
              have neH : gH ≠ HB := by have := r3.lt; omega
              have r3' := r3.below hbH r3.lt
              have r2' := r2.below hbH r2.lt
              have k3' := k3.below hbH
              have hb4 := hb3.trans (hbH.mono (by have := r3.lt; omega))
              clear hoH hnH hvH hgH hcurH r3 r2 k3 hb3 CH hgl hbH
              have CI := hide (Clone.clone50 IB ni (ptrs is) w4 (by omega) (by have := unhide HIL; simp [ptrs]; omega) (ptrs_one is) r2'.lt r2'.vals)
              go_wp2_with fail
              refine (unhide CI).mono ?_
              rintro e w5 ⟨vI, rfl, hoI, hbI, hnI⟩
              obtain ⟨gI, capI, curI, hvI, hgl, hcapI, _, hgI, hcurI⟩ := Clone.row_of hoI hnI
              rw [hvI]
              have cI : PRow w5 gI 50 curI.size is := PRow.of_cur hgI hcurI
              have neI : gI ≠ IB := by have := r2'.lt; omega
              have cH' := cH.below hbI cH.lt
              have r3 := r3'.below hbI r3'.lt
              have r2 := r2'.below hbI r2'.lt
              have k3 := k3'.below hbI
              have hb5 := hb4.trans (hbI.mono (by have := r3'.lt; omega))
              clear hoI hnI hvI hgI hcurI r3' r2' k3' hb4 CI hgl hbI cH
              have hmc := mk1
              go_upto_region 23 with fail
              clear hmc
              obtain ⟨wq, hq, hqc, hqw, hqb⟩ := chan_world w5 (Z48.setIfInBounds 1 (Value.int IntKind.i64 (-1)))
              rw [← hq]
              have hPB5 : PB ≤ w5.heap.size := by have := r3.lt; omega
              have M1 := Mem.sent (MB := w5.heap.size) r2 r3 cI cH' k3 (unhide UP) neI neH hb5 ⟨by omega, by omega⟩ hPB5 hqb (by omega) hqc hqw
              obtain ⟨ws, hws, hws0⟩ := hqw
              have cW : wq.cell? ⟨w5.heap.size + 1 + 1, 0, none⟩ = some (.chan (some (w5.heap.size + 1))) := (cell_of_row _ _ _ _ _ _ hws).trans hws0
              have HQC := hide hqc
              clear hq r2 r3 cI cH' k3 UP neI neH hb5 hqb hqc hws hws0
              generalize w5.heap.size = MB at M1 cW HQC hPB5 ⊢
              generalize MB + 1 + 1 = WB at M1 cW ⊢
              generalize MB + 1 = cb at M1 cW HQC ⊢
              refine InReg.region ?_
              change InReg _ _ _ [0, 1, 2, 3, 4, 5] _ _
              refine InReg.value (v := .pointer (some ⟨WB, 0, none⟩)) (w' := wq) rfl rfl (by go_simp) ?_
              refine InReg.value (v := .pointer (some ⟨WB, 0, none⟩)) (w' := wq) rfl rfl (by go_simp) ?_
              refine InReg.value (v := .pointer (some ⟨WB, 0, none⟩)) (w' := wq) rfl rfl (by go_simp) ?_
              refine InReg.value (v := .chan (some cb)) (w' := wq) rfl rfl (by go_simp) ?_
              refine InReg.value (v := .pointer (some ⟨MB, 0, none⟩)) (w' := wq) rfl rfl (by go_simp) ?_
              refine InReg.send (c := cb) (cap := 1) (buf := #[]) (v := .pointer (some ⟨MB, 0, none⟩)) (z := .tuple #[]) (s := 0) (r := 0) (tm := false) (w' := wq) rfl rfl (by go_simp; rfl) (by exact unhide HQC) (by simp) ?_
              refine InReg.done ?_
              clear HQC cW
              have e6 : wq.setChan cb 1 ((#[] : Array Value).push (.pointer (some ⟨MB, 0, none⟩))) false (0 + 1) 0 false = wq.setChan cb 1 #[.pointer (some ⟨MB, 0, none⟩)] false 1 0 false := by simp
              rw [e6]
              clear e6
              generalize wq.setChan cb 1 #[.pointer (some ⟨MB, 0, none⟩)] false 1 0 false = w6 at M1 ⊢
              walk_nrm
              obtain ⟨Z93, hZ93, h88, z93⟩ := Mem.zero93
              have hZe : ¬ Z93 = #[] := fun e => by rw [e] at hZ93; simp at hZ93
              go_wp2_with fail
              have S1 := Mem.made hZ93 h88 (.slice (some ⟨PB, 0, none⟩) np np) (.slice (some ⟨IB, 0, none⟩) ni ni) (.slice (some ⟨HB, 0, none⟩) nh nh) a2 a1 a0 w6
              have M2 := M1.alloc (.cells ((((((Z93.setIfInBounds 94 (.bool a0)).setIfInBounds 92 (.int .i64 a1)).setIfInBounds 1 (.int .i64 a2)).setIfInBounds 0 (.slice (some ⟨PB, 0, none⟩) np np)).setIfInBounds 91 (.slice (some ⟨IB, 0, none⟩) ni ni)).setIfInBounds 93 (.slice (some ⟨HB, 0, none⟩) nh nh)) 93)
              have hSB := M1.sz
              clear M1 z93 h88 hZ93 hZe
              generalize w6.alloc (.cells ((((((Z93.setIfInBounds 94 (.bool a0)).setIfInBounds 92 (.int .i64 a1)).setIfInBounds 1 (.int .i64 a2)).setIfInBounds 0 (.slice (some ⟨PB, 0, none⟩) np np)).setIfInBounds 91 (.slice (some ⟨IB, 0, none⟩) ni ni)).setIfInBounds 93 (.slice (some ⟨HB, 0, none⟩) nh nh)) 93) = w7 at S1 M2 ⊢
              generalize w6.heap.size = SB at S1 hSB ⊢
              refine (Lock.lock_free _ _ _ S1.cells.2.2.1 (S1.free 88)).mono ?_
              rintro e w8 ⟨rfl, rfl⟩
              have S2 := S1.setMu 1
              have M3 := M2.kept S1 hSB ((Kept.refl (fun k => k = SB) w7).setCell (p := ⟨SB, 88, none⟩) rfl (.int .i32 1))
              clear S1 M2
              generalize w7.setCell ⟨SB, 88, none⟩ (.int .i32 1) = w8 at S2 M3 ⊢
              go_wp2_with fail
              by_cases hA : a0 = true ∨ a2 < a1 ∨ np ≤ ni
              · refine (Rest.stop_any SB _ _ np np ni ni _ _ a2 a1 a0 w8 S2 hA).mono ?_
                rintro e w9 ⟨rfl, S3, kp⟩
                have M4 := M3.kept S2 hSB kp
                clear kp S2 M3
                go_wp2_with fail
                refine (Lock.tryLock_free _ _ _ S3.cells.2.2.1 (S3.free 88)).mono ?_
                rintro e w10 ⟨rfl, rfl⟩
                have S4 := S3.setMu 1
                have M5 := M4.kept S3 hSB ((Kept.refl (fun k => k = SB) w9).setCell (p := ⟨SB, 88, none⟩) rfl (.int .i32 1))
                clear S3 M4
                generalize w9.setCell ⟨SB, 88, none⟩ (.int .i32 1) = w10 at S4 M5 ⊢
                go_wp2_with fail
                refine (Lock.unlock_held _ _ _ S4.cells.2.2.1 (S4.free 88)).mono ?_
                rintro e w11 ⟨rfl, rfl⟩
                have S5 := S4.setMu 0
                have M6 := M5.kept S4 hSB ((Kept.refl (fun k => k = SB) w10).setCell (p := ⟨SB, 88, none⟩) rfl (.int .i32 0))
                clear S4 M5
                generalize w10.setCell ⟨SB, 88, none⟩ (.int .i32 0) = w11 at S5 M6 ⊢
                obtain ⟨_, _, _, c91, c92, c93, _⟩ := S5.cells
                have cW := M6.wake
                have hlen := M6.len0
                have hA' : a0 = true ∨ (a0 = false ∧ a2 < a1) ∨ (a0 = false ∧ a1 ≤ a2 ∧ (np : Int) ≤ (ni : Int)) := by
                  cases a0 with
                  | true => exact .inl rfl
                  | false =>
                    by_cases hlt : a2 < a1
                    · exact .inr (.inl ⟨rfl, hlt⟩)
                    · refine .inr (.inr ⟨rfl, by omega, ?_⟩)
                      rcases hA with h | h | h
                      · cases h
                      · exact absurd h hlt
                      · omega
                clear hA
                rcases hA' with rfl | ⟨rfl, hd1⟩ | ⟨rfl, hd1, hd2⟩
                all_goals
                  go_wp2
                  clear c91 c92 cW hlen S5
                  go_loopw [28] (fun i wr => ∃ j : Nat, j ≤ nh ∧ i = .int .i64 j ∧ wr.cell? ⟨SB, 93, none⟩ = some (.slice (some ⟨HB, 0, none⟩) nh nh) ∧ Mem w wr PB IB HB WB cb gI gH MB ni nh curI.size curH.size is bs) (fun i _ => nh - (intOf i).toNat)
                  case atStart => exact ⟨0, Nat.zero_le _, rfl, c93, M6⟩
                  case round =>
                    clear c93 M6
                    obtain ⟨j, hj, rfl, c93, M6⟩ := hrel
                    by_cases hjl : j < nh
                    · obtain ⟨x, hx⟩ : ∃ x, bs[j]? = some x := ⟨bs[j]'(by have := unhide HBL; omega), List.getElem?_eq_getElem _⟩
                      have q1 := M6.rH.cell hx
                      have q2 := M6.cH.cell hx
                      have q3 := M6.stage hx
                      have q4 := neq58_same ⟨x, 0, none⟩
                      clear hx
                      go_wp2
                      go_quiet (fail)
                      go_wp2
                      go_roundw
                      case rel => exact ⟨j + 1, by omega, by go_num, c93, M6.drewN _⟩
                      case measure => simp [intOf]; omega
                    · go_wp2
                      go_ret
                      exact ⟨rfl, by rw [unhide HPB]; exact M6.bel⟩
              · have ha0 : a0 = false := by cases a0 with | true => exact absurd (.inl rfl) hA | false => rfl
                subst ha0
                have hlt : ¬ a2 < a1 := fun h => hA (.inr (.inl h))
                have hge : ¬ np ≤ ni := fun h => hA (.inr (.inr h))
                clear hA
                have hle : a1 ≤ a2 := by omega
                have hgi : (ni : Int) < (np : Int) := by omega
                obtain ⟨s1, s2, s3, s4, s5, s6, s7⟩ := M3.apart S2
                have AP := hide (show IB ≠ SB ∧ HB ≠ SB ∧ WB ≠ SB ∧ cb ≠ SB ∧ ∀ x ∈ bs, x ≠ SB from ⟨s1, s2, s5, s6, s7⟩)
                clear s1 s2 s3 s4 s5 s6 s7
                by_cases hB : 1 ≤ nh
                · obtain ⟨b0, hx0⟩ : ∃ x, bs[0]? = some x := ⟨bs[0]'(by have := unhide HBL; omega), List.getElem?_eq_getElem _⟩
                  have hbm : b0 ∈ bs := List.mem_of_getElem? hx0
                  obtain ⟨_, p0, hb0⟩ := M3.blk b0 hbm
                  have hbH : b0 ≠ HB := by
                    obtain ⟨cs, h0, _⟩ := M3.rH.it
                    exact blk_ne M3.blk hbm h0 (by decide)
                  refine (Take.handoff_any SB HB b0 nh _ _ np np ni ni _ (.pointer (some ⟨p0, 0, none⟩)) a2 a1 1 (ptrs bs) w8 hB (by omega) (by have := unhide HBL; simp [ptrs]; omega) (ptrs_one bs) S2 hlt hge M3.rH.vals M3.rH.free (ptrs_get hx0) hb0 (Ne.symm (unhide AP).2.1) ((unhide AP).2.2.2.2 b0 hbm) hbH).mono ?_
                  rintro e w9 ⟨rfl, S3, R3, B3, kp⟩
                  have M4 := M3.taken S2 hSB hx0 R3 B3 kp
                  clear kp S2 M3 R3 B3 hb0 hbm hbH hx0 AP hlt hge
                  go_wp2_with fail
                  refine (Lock.tryLock_free _ _ _ S3.cells.2.2.1 (S3.free 88)).mono ?_
                  rintro e w10 ⟨rfl, rfl⟩
                  have S4 := S3.setMu 1
                  have M5 := M4.set 88 (.int .i32 1)
                  clear S3 M4
                  generalize w9.setCell ⟨SB, 88, none⟩ (.int .i32 1) = w10 at S4 M5 ⊢
                  go_wp2_with fail
                  refine (Lock.unlock_held _ _ _ S4.cells.2.2.1 (S4.free 88)).mono ?_
                  rintro e w11 ⟨rfl, rfl⟩
                  have S5 := S4.setMu 0
                  have M6 := M5.set 88 (.int .i32 0)
                  clear S4 M5
                  generalize w10.setCell ⟨SB, 88, none⟩ (.int .i32 0) = w11 at S5 M6 ⊢
                  obtain ⟨_, _, _, c91, c92, c93, _⟩ := S5.cells
                  have cW := wake_of M6.wk
                  have hlen := M6.len0
                  have q0 := M6.cH.cell M6.hb0
                  have q1 := cell_of_row _ _ 0 _ _ _ M6.it
                  have q2 := cell_of_row _ _ 1 _ _ _ M6.it
                  simp at q1 q2
                  have q3 := neq23_same ⟨p0, 0, none⟩
                  have hnI : (0 : Int) < (nh : Int) := by omega
                  have hn1 : ((nh - 1 : Nat) : Int) = (nh : Int) - 1 := by omega
                  go_wp2
                  clear c91 c92 cW hlen q0 q1 q2 q3 S5
                  go_loopw [29] (fun i wr => ∃ j : Nat, j + 1 ≤ nh ∧ i = .int .i64 (j + 1 : Nat) ∧ wr.cell? ⟨SB, 93, none⟩ = some (.slice (some ⟨HB, 0, none⟩) (nh - 1 : Nat) nh) ∧ MemB w wr PB SB HB WB cb gH MB b0 p0 curH.size bs) (fun i _ => nh - (intOf i).toNat)
                  case atStart => exact ⟨0, hB, rfl, c93, M6⟩
                  case round =>
                    clear c93 M6
                    obtain ⟨j, hj, rfl, c93, M6⟩ := hrel
                    by_cases hjl : j + 1 < nh
                    · obtain ⟨x, hx⟩ : ∃ x, bs[j + 1]? = some x := ⟨bs[j + 1]'(by have := unhide HBL; omega), List.getElem?_eq_getElem _⟩
                      have q1 := M6.shifted hx
                      have q2 := M6.cH.cell hx
                      have q3 := M6.stage hx
                      have q4 := neq58_same ⟨x, 0, none⟩
                      clear hx
                      have hc1 : ((j + 1 : Nat) : Int) = (j : Int) + 1 := by omega
                      have hj0 : (j : Int) < (nh : Int) - 1 := by omega
                      go_wp2
                      go_quiet (fail)
                      go_wp2
                      go_roundw
                      case rel => exact ⟨j + 1, by omega, by go_num, c93, M6.drewN _⟩
                      case measure => simp [intOf]; omega
                    · go_wp2
                      go_ret
                      exact ⟨rfl, by rw [unhide HPB]; exact M6.bel⟩
                · have hn0 : nh = 0 := by omega
                  subst hn0
                  obtain ⟨ws, hW, hws⟩ := M3.wk
                  have hWI : WB ≠ IB := fun e => by
                    obtain ⟨cs, h0, _⟩ := M3.rI.it
                    rw [e, h0] at hW; simp at hW
                  have hcI : cb ≠ IB := fun e => by
                    obtain ⟨cs, h0, _⟩ := M3.rI.it
                    have := M3.ch; rw [e, h0] at this; simp at this
                  refine (Sleep.sleep_any SB IB WB cb (some ⟨PB, 0, none⟩) (some ⟨HB, 0, none⟩) np np ni 0 (some ⟨MB, 0, none⟩) ws a2 a1 (ptrs is) w8 (by omega) S2 hlt hge (M3.rI.own (unhide HIL) (by unfold maxLen; omega)) hW hws M3.ch M3.rI.lt (Ne.symm (unhide AP).1) (unhide AP).2.2.1 hWI (unhide AP).2.2.2.1 hcI).mono ?_
                  rintro e w9 ⟨rfl, g, cap, cur, S3, hg, hcur, hch, kp⟩
                  have M4 := M3.rested S2 S3 hSB hg hcur hch kp
                  clear kp S2 M3 hg hcur hch hW hws hWI hcI AP hlt hge
                  go_wp2_with fail
                  refine (Lock.tryLock_free _ _ _ S3.cells.2.2.1 (S3.free 88)).mono ?_
                  rintro e w10 ⟨rfl, rfl⟩
                  have S4 := S3.setMu 1
                  have M5 := M4.set 88 (.int .i32 1)
                  clear S3 M4
                  generalize w9.setCell ⟨SB, 88, none⟩ (.int .i32 1) = w10 at S4 M5 ⊢
                  go_wp2_with fail
                  refine (Lock.unlock_held _ _ _ S4.cells.2.2.1 (S4.free 88)).mono ?_
                  rintro e w11 ⟨rfl, rfl⟩
                  have S5 := S4.setMu 0
                  have M6 := M5.set 88 (.int .i32 0)
                  clear S4 M5
                  generalize w10.setCell ⟨SB, 88, none⟩ (.int .i32 0) = w11 at S5 M6 ⊢
                  obtain ⟨_, _, _, c91, c92, c93, _⟩ := S5.cells
                  have cW := wake_of M6.wk
                  have hlen := M6.len0
                  have q0 := M6.rg.cell (j := ni) (x := WB) (by have := unhide HIL; rw [← this]; simp)
                  have q1 := neq50_same ⟨WB, 0, none⟩
                  have q3 := neq23_same ⟨MB, 0, none⟩
                  go_wp2
                  clear c92 cW hlen q0 q1 q3 S5
                  go_loopw [30] (fun i wr => ∃ j : Nat, j ≤ ni ∧ i = .int .i64 j ∧ wr.cell? ⟨SB, 91, none⟩ = some (.slice (some ⟨g, 0, none⟩) (ni + 1) cap) ∧ wr.cell? ⟨SB, 93, none⟩ = some (.slice (some ⟨HB, 0, none⟩) 0 0) ∧ MemC w wr PB SB WB cb g gI cur.size curI.size is) (fun i _ => ni - (intOf i).toNat)
                  case atStart => exact ⟨0, Nat.zero_le _, rfl, c91, c93, M6⟩
                  case round =>
                    clear c91 c93 M6
                    obtain ⟨j, hj, rfl, c91, c93, M6⟩ := hrel
                    by_cases hjl : j < ni
                    · obtain ⟨x, hx⟩ : ∃ x, is[j]? = some x := ⟨is[j]'(by have := unhide HIL; omega), List.getElem?_eq_getElem _⟩
                      have q1 := M6.rg.cell (j := j) (x := x) (by rw [List.getElem?_append_left (by have := unhide HIL; omega)]; exact hx)
                      have q2 := M6.cI.cell hx
                      have q4 := neq50_same ⟨x, 0, none⟩
                      have hj1 : (j : Int) < (ni : Int) + 1 := by omega
                      clear hx
                      go_wp2
                      go_quiet (fail)
                      go_wp2
                      go_roundw
                      case rel => exact ⟨j + 1, by omega, by go_num, c91, c93, M6.drewN _⟩
                      case measure => simp [intOf]; omega
                    · go_wp2
                      go_ret
                      exact ⟨rfl, by rw [unhide HPB]; exact M6.bel⟩
end Go.Proofs.Ybulkaiqu.Main
