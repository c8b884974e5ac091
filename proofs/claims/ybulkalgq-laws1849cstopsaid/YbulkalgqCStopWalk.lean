import Derived.Test.YbulkalgqCStopLay
namespace Go.Proofs.Ybulkalgq
open Go.ChangeShapes Go.WideShapes Go.ChangeAt Go.RowKit Go.MuLone

set_option maxRecDepth 20000 in
set_option maxHeartbeats 4000000 in
theorem cstop_some (sp : Bool) (spn slp shl un : Int) (ao : Option Addr) (len cap : Nat) (sel : Int) (xs : Nat → Wk) (w : World) (hlen : len ≤ 1024) (hsel : 0 ≤ sel ∧ sel ≤ 255) (hx : Hid (0 < len → ∃ b off, ao = some ⟨b, off, none⟩ ∧ b < w.heap.size ∧ IsWs w b off len xs)) :
    Calls Yba.prog 6 #[.bool sp, .int .i32 spn, .int .i32 slp, .int .i64 shl, .int .u64 un, .slice ao len cap, .int .u8 sel] w fun e w' => e = .returned (.bool true) ∧ Below w.heap.size w w' := by
  have hmk := run_make_row' (P := Yba.prog) 28 72 (.pointer none) 8 Yba.underlying28 (by kernel_rfl) rfl .i64 .i64 len (by omega) (by omega)
  have hz := Sched.zero w
  have S0 := Hid.mk' hz
  have z0 := lt_of (heap_alloc_new w (.cells Yba.zeroCells67 67))
  have q0 : (w.alloc (.cells Yba.zeroCells67 67)).cell? ⟨w.heap.size, 0, none⟩ = some (.slice none 0 0) := cell_by (heap_alloc_new w _) (by kernel_rfl)
  have b0 : Below w.heap.size w (w.alloc (.cells Yba.zeroCells67 67)) := (Below.refl _ _).alloc (Nat.le_refl _) _
  have Q0 := Hid.mk' (And.intro q0 b0)
  have k125 := hz.c125
  have z125 := hz.fz 125
  have zf0 := hz.fz 0
  clear hz b0
  go_enter Yba.func6, Yba.ntmps6
  go_wp2_with fail
  generalize w.alloc (.cells Yba.zeroCells67 67) = w1 at S0 z0 Q0 k125 q0 z125 zf0 ⊢
  generalize hs : w.heap.size = s at S0 z0 Q0 k125 q0 z125 zf0 ⊢
  have HS := Hid.mk' hs
  clear hs
  refine (store32 s 11 spn _ _ S0.out.c11 (S0.out.fz 11)).mono ?_
  rintro e w' ⟨rfl, rfl⟩
  go_wp2_with fail
  refine (store32 s 10 slp _ _ (S0.out.spin _).c10 ((S0.out.spin _).fz 10)).mono ?_
  rintro e w' ⟨rfl, rfl⟩
  go_wp2_with fail
  refine (store64 s 12 shl _ _ ((S0.out.spin _).sleep _).c12 (((S0.out.spin _).sleep _).fz 12)).mono ?_
  rintro e w' ⟨rfl, rfl⟩
  go_wp2_with fail
  have HI : Hid (Inv w ((((((w1.setCell ⟨s, 11, none⟩ (.int .i32 spn)).setCell ⟨s, 10, none⟩ (.int .i32 slp)).setCell ⟨s, 12, none⟩ (.int .i64 shl)).setCell ⟨s, 125, none⟩ (.int .u64 un)).setCell ⟨s, 0, none⟩ (.slice (some ⟨w1.heap.size, 0, none⟩) len len)).alloc (.cells (madeCells #[.pointer none] len) 72)) s w1.heap.size len 0 slp spn shl un xs) := by
    have zz : ((((((w1.setCell ⟨s, 11, none⟩ (.int .i32 spn)).setCell ⟨s, 10, none⟩ (.int .i32 slp)).setCell ⟨s, 12, none⟩ (.int .i64 shl)).setCell ⟨s, 125, none⟩ (.int .u64 un)).setCell ⟨s, 0, none⟩ (.slice (some ⟨w1.heap.size, 0, none⟩) len len))).heap.size = w1.heap.size := by simp [World.setCell]
    have hsch := ((((S0.out.spin spn).sleep slp).shared shl).unpark un).set0 (.slice (some ⟨w1.heap.size, 0, none⟩) len len)
    have hbel := ((((Q0.out.2.setCell (p := ⟨s, 11, none⟩) (Nat.le_refl _) (.int .i32 spn)).setCell (p := ⟨s, 10, none⟩) (Nat.le_refl _) (.int .i32 slp)).setCell (p := ⟨s, 12, none⟩) (Nat.le_refl _) (.int .i64 shl)).setCell (p := ⟨s, 125, none⟩) (Nat.le_refl _) (.int .u64 un)).setCell (p := ⟨s, 0, none⟩) (Nat.le_refl _) (.slice (some ⟨w1.heap.size, 0, none⟩) len len)
    have hc0 := cell_hit (cell_skip (cell_skip (cell_skip (cell_skip Q0.out.1 (show 11 ≠ 0 by decide) (.int .i32 spn)) (show 10 ≠ 0 by decide) (.int .i32 slp)) (show 12 ≠ 0 by decide) (.int .i64 shl)) (show 125 ≠ 0 by decide) (.int .u64 un)) (.slice (some ⟨w1.heap.size, 0, none⟩) len len)
    generalize ((((((w1.setCell ⟨s, 11, none⟩ (.int .i32 spn)).setCell ⟨s, 10, none⟩ (.int .i32 slp)).setCell ⟨s, 12, none⟩ (.int .i64 shl)).setCell ⟨s, 125, none⟩ (.int .u64 un)).setCell ⟨s, 0, none⟩ (.slice (some ⟨w1.heap.size, 0, none⟩) len len))) = w2 at zz hsch hbel hc0 ⊢
    have hn := heap_alloc_at (w := w2) (o := .cells (madeCells #[.pointer none] len) 72) zz.symm
    have hk : Kept w1.heap.size w2 (w2.alloc (.cells (madeCells #[.pointer none] len) 72)) := (Kept.refl _ _).alloc _
    exact ⟨hbel.alloc (by omega) _, hsch.kept hk (by omega) (by omega), (hk.cell (by omega) (by omega) _).trans hc0, fun i hi => ⟨_, cell_by hn (made_get _ _ _ hi)⟩, fun o => frozen_of hn o, fun n => by simp [World.shape?, hn], fun i hi => by omega, by omega, by simp; omega⟩
  generalize (((((w1.setCell ⟨s, 11, none⟩ (.int .i32 spn)).setCell ⟨s, 10, none⟩ (.int .i32 slp)).setCell ⟨s, 12, none⟩ (.int .i64 shl)).setCell ⟨s, 125, none⟩ (.int .u64 un)).setCell ⟨s, 0, none⟩ (.slice (some ⟨w1.heap.size, 0, none⟩) len len)).alloc (.cells (madeCells #[.pointer none] len) 72) = w2 at HI ⊢
  generalize w1.heap.size = m at HI z0 ⊢
  clear hmk S0 Q0 k125 z125 zf0 q0
  go_loopw [16, 59] (fun q i wr => ∃ k : Nat, k ≤ len ∧ i = .int .i64 k ∧ q = .bool (decide (0 < shl) || anyQ xs k) ∧ Hid (Inv w wr s m len k slp spn shl un xs)) (fun _ i _ => len - (intOf i).toNat)
  case atStart => exact ⟨0, Nat.zero_le _, rfl, by simp [anyQ], HI⟩
  case round =>
    clear HI
    obtain ⟨k, hk, rfl, rfl, HI⟩ := hrel
    have hsm := HI.out.sm
    have hzm := HI.out.zm
    by_cases hlt : k < len
    · obtain ⟨b, off, rfl, hbw, hx'⟩ := hx.out (by omega)
      have hb : b < s := by rw [← HS.out]; exact hbw
      obtain ⟨g0, g1, g2, g3, g4, ht0, ht1, hb0, hb1⟩ := hx' k hlt
      clear hx' hbw hx
      have r0 : wr.cell? ⟨b, off + k * 5, none⟩ = some (.int .u32 (xs k).top) := by rw [HI.out.below.cell hb]; exact g0
      have r1 : wr.cell? ⟨b, off + k * 5 + 1, none⟩ = some (.int .u32 (xs k).bot) := by rw [HI.out.below.cell hb]; exact g1
      have r2 : wr.cell? ⟨b, off + k * 5 + 2, none⟩ = some (.bool (xs k).hand) := by rw [HI.out.below.cell hb]; exact g2
      have r3 : wr.cell? ⟨b, off + k * 5 + 3, none⟩ = some (.int .u64 (xs k).fill) := by rw [HI.out.below.cell hb]; exact g3
      have r4 : wr.cell? ⟨b, off + k * 5 + 4, none⟩ = some (.int .u64 (xs k).over) := by rw [HI.out.below.cell hb]; exact g4
      clear g0 g1 g2 g3 g4
      go_wp2_with fail
      have HL := Hid.mk' (Lay.begin wr s k (xs k))
      generalize (wr.alloc (.cells #[.int .u32 (xs k).top, .int .u32 (xs k).bot, .bool (xs k).hand, .int .u64 (xs k).fill, .int .u64 (xs k).over] 71)).alloc (.cells ((Yba.zeroCells91.setIfInBounds 0 (.pointer (some ⟨s, 0, none⟩))).setIfInBounds 1 (.int .i64 k)) 91) = w3 at HL ⊢
      have HAB := Hid.mk' (show wr.heap.size ≤ wr.heap.size ∧ wr.heap.size ≤ wr.heap.size + 1 ∧ wr.heap.size + 1 ≠ wr.heap.size from by omega)
      generalize wr.heap.size + 1 = B at HL HAB ⊢
      generalize hA : wr.heap.size = A at HL HAB ⊢
      have HA := Hid.mk' hA
      clear hA r0 r1 r2 r3 r4
      have u1 : IntKind.u64.wrap (xs k).top = (xs k).top := by rw [IntKind.wrap_u64]; omega
      have u2 : IntKind.u64.wrap (xs k).bot = (xs k).bot := by rw [IntKind.wrap_u64]; omega
      have u3 : IntKind.u64.wrap ((xs k).top * 4294967296) = (xs k).top * 4294967296 := by rw [IntKind.wrap_u64]; omega
      have u4 := join_ends (xs k).top (xs k).bot ht0 ht1 hb0 hb1
      have a0 := HL.out.a0
      have a1 := HL.out.a1
      go_region_with (go_at_call 12; refine (storeU64 B 10 _ (.int .u64 0) _ ?_ ?_).mono ?_; exact HL.out.b10; exact HL.out.fz 10; rintro e w' ⟨rfl, rfl⟩)
      all_goals
        have HL2 := Hid.mk' ((HL.out.set10 (by have := HAB.out; have := HA.out; omega) HAB.out.2.2 (.int .u64 ((xs k).top * 4294967296 + (xs k).bot))).drew)
        generalize (w3.setCell ⟨B, 10, none⟩ (.int .u64 ((xs k).top * 4294967296 + (xs k).bot))).drew = w4 at HL2 ⊢
        clear a0 a1 HL u1 u2 u3 u4
        have a2 := HL2.out.a2
        cases hh : (xs k).hand
        · rw [hh] at a2
          have HH := Hid.mk' hh
          have HL5 := HL2
          have HH5 : Hid (Handed w4 (xs k) (.pointer none)) := Hid.mk' (.inl ⟨hh, rfl⟩)
          generalize Value.pointer none = v2 at HL5 HH5
          clear hh HL2
          generalize w4 = w5 at HL5 HH5 a2 ⊢
          have a3 := HL5.out.a3
          go_wp2_with fail
          go_region_with (go_at_call 12; refine (storeU64 B 3 _ (.int .u64 0) _ ?_ ?_).mono ?_; exact HL5.out.b3; exact HL5.out.fz 3; rintro e w' ⟨rfl, rfl⟩)
          have HL6 := Hid.mk' ((HL5.out.set3 (by have := HAB.out; have := HA.out; omega) HAB.out.2.2 (.int .u64 (xs k).fill)).drew)
          have HH6 : Hid (Handed ((w5.setCell ⟨B, 3, none⟩ (.int .u64 (xs k).fill)).drew) (xs k) v2) := Hid.mk' ((HH5.out.setCell _ _).drew)
          generalize (w5.setCell ⟨B, 3, none⟩ (.int .u64 (xs k).fill)).drew = w6 at HL6 HH6 ⊢
          clear a3 HL5 HH5
          have a4 := HL6.out.a4
          go_wp2_with fail
          go_region_with (go_at_call 12; refine (storeU64 B 5 _ (.int .u64 0) _ ?_ ?_).mono ?_; exact HL6.out.b5; exact HL6.out.fz 5; rintro e w' ⟨rfl, rfl⟩)
          have HL7 := Hid.mk' ((HL6.out.set5 (by have := HAB.out; have := HA.out; omega) HAB.out.2.2 (.int .u64 (xs k).over)).drew)
          have HH7 : Hid (Handed ((w6.setCell ⟨B, 5, none⟩ (.int .u64 (xs k).over)).drew) (xs k) v2) := Hid.mk' ((HH6.out.setCell _ _).drew)
          generalize (w6.setCell ⟨B, 5, none⟩ (.int .u64 (xs k).over)).drew = w7 at HL7 HH7 ⊢
          clear a4 HL6 HH6
          have a0 := HL7.out.a0
          have a1 := HL7.out.a1
          have a2 := HL7.out.a2
          have a3 := HL7.out.a3
          have a4 := HL7.out.a4
          have zA := HL7.out.zA
          have mA : ¬ m = A := by have := HA.out; omega
          have kc0 : w7.cell? ⟨s, 0, none⟩ = some (.slice (some ⟨m, 0, none⟩) len len) := (HL7.out.kept.cell (by omega) (by have := HA.out; omega) 0).trans HI.out.c0
          obtain ⟨mv, hmv⟩ := HI.out.row k hlt
          have km : w7.cell? ⟨m, k, none⟩ = some mv := (HL7.out.kept.cell hzm (by have := HA.out; omega) k).trans hmv
          have kf : w7.frozen? ⟨m, k, none⟩ = false := (HL7.out.kept.frozen hzm (by have := HA.out; omega) k).trans (HI.out.mfz k)
          clear hmv
          rw [HH.out] at a2
          cases hq1 : ((xs k).top != (xs k).bot)
          all_goals
            have HQ := Hid.mk' hq1
            go_wp2
            go_roundw
            case rel => exact ⟨k + 1, by omega, by go_num, by rw [anyQ_succ]; unfold Wk.q; rw [HQ.out, HH.out]; simp, Hid.mk' (HI.out.step HL7.out HH7.out HA.out HAB.out.2.1 hlt ht0 ht1 hb0 hb1)⟩
            case measure => simp [intOf]; omega
        · rw [hh] at a2
          have HH := Hid.mk' hh
          clear hh
          go_wp2_with fail
          refine (storeP B 2 w4.heap.size (.pointer none) _ ?_ ?_ ?_).mono ?_
          · exact (HL2.out.alloc _).b2
          · exact (HL2.out.alloc _).fz 2
          · unfold World.shape?; rw [heap_alloc_new]; rfl
          rintro e w' ⟨rfl, rfl⟩
          have HL5 := Hid.mk' ((HL2.out.alloc (.cells #[.int .u64 0, .nilIface, .bool false, .string ⟨#[]⟩, .slice none 0 0, .pointer none, .int .u32 0, .int .u32 0] 100)).set2 (by have := HAB.out; have := HA.out; omega) HAB.out.2.2 (.pointer (some ⟨w4.heap.size, 0, none⟩)))
          have HH5 : Hid (Handed ((w4.alloc (.cells #[.int .u64 0, .nilIface, .bool false, .string ⟨#[]⟩, .slice none 0 0, .pointer none, .int .u32 0, .int .u32 0] 100)).setCell ⟨B, 2, none⟩ (.pointer (some ⟨w4.heap.size, 0, none⟩))) (xs k) (.pointer (some ⟨w4.heap.size, 0, none⟩))) := Hid.mk' (Handed.setCell (.inr ⟨HH.out, _, rfl, by unfold World.shape?; rw [heap_alloc_new]; rfl⟩) _ _)
          generalize (w4.alloc (.cells #[.int .u64 0, .nilIface, .bool false, .string ⟨#[]⟩, .slice none 0 0, .pointer none, .int .u32 0, .int .u32 0] 100)).setCell ⟨B, 2, none⟩ (.pointer (some ⟨w4.heap.size, 0, none⟩)) = w5 at HL5 HH5 ⊢
          generalize Value.pointer (some ⟨w4.heap.size, 0, none⟩) = v2 at HL5 HH5 ⊢
          clear HL2 a2
          have a3 := HL5.out.a3
          go_wp2_with fail
          go_region_with (go_at_call 12; refine (storeU64 B 3 _ (.int .u64 0) _ ?_ ?_).mono ?_; exact HL5.out.b3; exact HL5.out.fz 3; rintro e w' ⟨rfl, rfl⟩)
          have HL6 := Hid.mk' ((HL5.out.set3 (by have := HAB.out; have := HA.out; omega) HAB.out.2.2 (.int .u64 (xs k).fill)).drew)
          have HH6 : Hid (Handed ((w5.setCell ⟨B, 3, none⟩ (.int .u64 (xs k).fill)).drew) (xs k) v2) := Hid.mk' ((HH5.out.setCell _ _).drew)
          generalize (w5.setCell ⟨B, 3, none⟩ (.int .u64 (xs k).fill)).drew = w6 at HL6 HH6 ⊢
          clear a3 HL5 HH5
          have a4 := HL6.out.a4
          go_wp2_with fail
          go_region_with (go_at_call 12; refine (storeU64 B 5 _ (.int .u64 0) _ ?_ ?_).mono ?_; exact HL6.out.b5; exact HL6.out.fz 5; rintro e w' ⟨rfl, rfl⟩)
          have HL7 := Hid.mk' ((HL6.out.set5 (by have := HAB.out; have := HA.out; omega) HAB.out.2.2 (.int .u64 (xs k).over)).drew)
          have HH7 : Hid (Handed ((w6.setCell ⟨B, 5, none⟩ (.int .u64 (xs k).over)).drew) (xs k) v2) := Hid.mk' ((HH6.out.setCell _ _).drew)
          generalize (w6.setCell ⟨B, 5, none⟩ (.int .u64 (xs k).over)).drew = w7 at HL7 HH7 ⊢
          clear a4 HL6 HH6
          have a0 := HL7.out.a0
          have a1 := HL7.out.a1
          have a2 := HL7.out.a2
          have a3 := HL7.out.a3
          have a4 := HL7.out.a4
          have zA := HL7.out.zA
          have mA : ¬ m = A := by have := HA.out; omega
          have kc0 : w7.cell? ⟨s, 0, none⟩ = some (.slice (some ⟨m, 0, none⟩) len len) := (HL7.out.kept.cell (by omega) (by have := HA.out; omega) 0).trans HI.out.c0
          obtain ⟨mv, hmv⟩ := HI.out.row k hlt
          have km : w7.cell? ⟨m, k, none⟩ = some mv := (HL7.out.kept.cell hzm (by have := HA.out; omega) k).trans hmv
          have kf : w7.frozen? ⟨m, k, none⟩ = false := (HL7.out.kept.frozen hzm (by have := HA.out; omega) k).trans (HI.out.mfz k)
          clear hmv
          rw [HH.out] at a2
          cases hq1 : ((xs k).top != (xs k).bot)
          · cases hq2 : ((xs k).fill == (xs k).over)
            all_goals
              have HQ := Hid.mk' hq1
              have HQ2 := Hid.mk' hq2
              go_wp2
              go_roundw
              case rel => exact ⟨k + 1, by omega, by go_num, by rw [anyQ_succ]; unfold Wk.q; rw [HQ.out, HH.out, HQ2.out]; simp, Hid.mk' (HI.out.step HL7.out HH7.out HA.out HAB.out.2.1 hlt ht0 ht1 hb0 hb1)⟩
              case measure => simp [intOf]; omega
          · have HQ := Hid.mk' hq1
            go_wp2
            go_roundw
            case rel => exact ⟨k + 1, by omega, by go_num, by rw [anyQ_succ]; unfold Wk.q; rw [HQ.out, HH.out]; simp, Hid.mk' (HI.out.step HL7.out HH7.out HA.out HAB.out.2.1 hlt ht0 ht1 hb0 hb1)⟩
            case measure => simp [intOf]; omega
    · have hkl : k = len := by omega
      subst hkl
      clear hk hlt
      by_cases hl0 : k = 0
      · subst hl0
        clear hx hsel
        go_wp2_with fail
        have hfold : (wr.alloc (.cells (Yba.zeroCells91.setIfInBounds 0 (.pointer (some ⟨s, 0, none⟩))) 91)).setCell ⟨wr.heap.size, 8, none⟩ (.bool sp) = wr.alloc (.cells ((Yba.zeroCells91.setIfInBounds 0 (.pointer (some ⟨s, 0, none⟩))).setIfInBounds 8 (.bool sp)) 91) := World.setCell_alloc_at _ _ _ _ _ rfl
        rw [← hfold]
        clear hfold
        have HI2 : Hid (Inv w (wr.alloc (.cells (Yba.zeroCells91.setIfInBounds 0 (.pointer (some ⟨s, 0, none⟩))) 91)) s m 0 0 slp spn shl un xs) := Hid.mk' (HI.out.alloc0 _)
        have HM2 : Hid (Man (wr.alloc (.cells (Yba.zeroCells91.setIfInBounds 0 (.pointer (some ⟨s, 0, none⟩))) 91)) s m wr.heap.size ⟨0, 0, false, 0, 0⟩) := Hid.mk' (Man.lone wr s m (by omega) (by omega))
        have hzb2 : wr.heap.size < (wr.alloc (.cells (Yba.zeroCells91.setIfInBounds 0 (.pointer (some ⟨s, 0, none⟩))) 91)).heap.size := by simp
        have hsb : s ≤ wr.heap.size := by omega
        generalize wr.alloc (.cells (Yba.zeroCells91.setIfInBounds 0 (.pointer (some ⟨s, 0, none⟩))) 91) = w3 at HI2 HM2 hzb2 ⊢
        generalize wr.heap.size = bw at HM2 hzb2 hsb hzm ⊢
        clear HI
        obtain ⟨v8, hv8⟩ := HM2.out.c8
        have f8 := HM2.out.fz 8
        have HB3 : Hid (Below s w (w3.setCell ⟨bw, 8, none⟩ (.bool sp))) := Hid.mk' (HI2.out.below.setCell hsb _)
        have HC3 : Hid (Crew w3 s m 0 xs) := Hid.mk' HI2.out.crew
        have hq8 := Hid.mk' (cell_hit hv8 (.bool sp))
        cases sp
        · refine (stop_idle bw _ hq8.out).mono ?_
          rintro e w' ⟨rfl, rfl⟩
          have HE : Hid (End (w3.setCell ⟨bw, 8, none⟩ (.bool false)) s bw slp spn shl un) := Hid.mk' ⟨(HI2.out.sched.set8 HM2.out.ns _ _).c10, (HI2.out.sched.set8 HM2.out.ns _ _).c11, (HI2.out.sched.set8 HM2.out.ns _ _).c12, (HI2.out.sched.set8 HM2.out.ns _ _).c125, hq8.out⟩
          have HB := HB3
          clear hq8 hv8 f8
          generalize w3.setCell ⟨bw, 8, none⟩ (.bool false) = w4 at HE HB ⊢
          have k125 := HE.out.c125
          have k8 := HE.out.c8
          go_wp2_with fail
          refine (load32 s 11 spn _ HE.out.c11).mono ?_
          rintro e w' ⟨rfl, hw⟩
          obtain rfl := hw.symm
          go_wp2_with fail
          refine (load32 s 10 slp _ HE.out.c10).mono ?_
          rintro e w' ⟨rfl, hw⟩
          obtain rfl := hw.symm
          go_wp2_with fail
          refine (load64 s 12 shl _ HE.out.c12).mono ?_
          rintro e w' ⟨rfl, hw⟩
          obtain rfl := hw.symm
          go_wp2
          go_ret
          exact ⟨rfl, by rw [HS.out]; exact HB.out⟩
        · refine (stop_spins s s m 0 bw slp spn shl un xs _ hlen (HI2.out.sched.set8 HM2.out.ns _ _) (HC3.out.set8 HM2.out.ns HM2.out.nm true) HM2.out.ns HM2.out.nm (cell_skip HM2.out.c0 (by decide) _) hq8.out (by rw [frozen_setCell]; exact HM2.out.fz 8) (Nat.le_refl _) hsb (by have := HI2.out.sm; have := HI2.out.zm; simp [World.setCell]; omega) (by simpa [World.setCell] using hzb2)).mono ?_
          rintro e w4 ⟨rfl, hor, hbel⟩
          have HB := Hid.mk' (HB3.out.trans hbel)
          clear hbel hq8 hv8 f8
          rw [show spn + -1 = spn - 1 from rfl, show slp + -1 = slp - 1 from rfl] at hor
          rcases hor with ⟨hwk, hE⟩ | ⟨hwk, hE⟩
          · obtain ⟨hq, hle, hsl⟩ := woke_true hwk
            have HE := Hid.mk' hE
            clear hE hwk
            have k125 := HE.out.c125
            have k8 := HE.out.c8
            go_wp2_with fail
            refine (load32 s 11 (wrap32 (wrap32 (spn - 1) + 1)) _ HE.out.c11).mono ?_
            rintro e w' ⟨rfl, hw⟩
            obtain rfl := hw.symm
            go_wp2_with fail
            refine (load32 s 10 (wrap32 (slp - 1)) _ HE.out.c10).mono ?_
            rintro e w' ⟨rfl, hw⟩
            obtain rfl := hw.symm
            go_wp2_with fail
            refine (load64 s 12 shl _ HE.out.c12).mono ?_
            rintro e w' ⟨rfl, hw⟩
            obtain rfl := hw.symm
            go_wp2
            go_ret
            exact ⟨rfl, by rw [HS.out]; exact HB.out⟩
          · have HE := Hid.mk' hE
            have HW := Hid.mk' hwk
            clear hE hwk
            cases hq : (decide (0 < shl) || anyQ xs 0)
            · clear HW
              have k125 := HE.out.c125
              have k8 := HE.out.c8
              go_wp2_with fail
              refine (load32 s 11 (wrap32 (spn - 1)) _ HE.out.c11).mono ?_
              rintro e w' ⟨rfl, hw⟩
              obtain rfl := hw.symm
              go_wp2_with fail
              refine (load32 s 10 slp _ HE.out.c10).mono ?_
              rintro e w' ⟨rfl, hw⟩
              obtain rfl := hw.symm
              go_wp2_with fail
              refine (load64 s 12 shl _ HE.out.c12).mono ?_
              rintro e w' ⟨rfl, hw⟩
              obtain rfl := hw.symm
              go_wp2
              go_ret
              exact ⟨rfl, by rw [HS.out]; exact HB.out⟩
            · by_cases hle : wrap32 (spn - 1) ≤ 0
              · have hsl : (slp != 0) = false := woke_false HW.out hq hle
                clear HW
                have k125 := HE.out.c125
                have k8 := HE.out.c8
                go_wp2_with fail
                refine (load32 s 11 (wrap32 (spn - 1)) _ HE.out.c11).mono ?_
                rintro e w' ⟨rfl, hw⟩
                obtain rfl := hw.symm
                go_wp2_with fail
                refine (load32 s 10 slp _ HE.out.c10).mono ?_
                rintro e w' ⟨rfl, hw⟩
                obtain rfl := hw.symm
                go_wp2_with fail
                refine (load64 s 12 shl _ HE.out.c12).mono ?_
                rintro e w' ⟨rfl, hw⟩
                obtain rfl := hw.symm
                go_wp2
                go_ret
                exact ⟨rfl, by rw [HS.out]; exact HB.out⟩
              · have hle' : decide (wrap32 (spn - 1) ≤ 0) = false := by simpa using hle
                clear HW
                have k125 := HE.out.c125
                have k8 := HE.out.c8
                go_wp2_with fail
                refine (load32 s 11 (wrap32 (spn - 1)) _ HE.out.c11).mono ?_
                rintro e w' ⟨rfl, hw⟩
                obtain rfl := hw.symm
                go_wp2_with fail
                refine (load32 s 10 slp _ HE.out.c10).mono ?_
                rintro e w' ⟨rfl, hw⟩
                obtain rfl := hw.symm
                go_wp2_with fail
                refine (load64 s 12 shl _ HE.out.c12).mono ?_
                rintro e w' ⟨rfl, hw⟩
                obtain rfl := hw.symm
                go_wp2
                go_ret
                exact ⟨rfl, by rw [HS.out]; exact HB.out⟩
      · obtain ⟨hs0, hs1⟩ := hsel
        have hl1 : 0 < k := by omega
        have hrem : 0 ≤ sel % (k : Int) ∧ sel % (k : Int) < k := ⟨Int.emod_nonneg _ (by omega), Int.emod_lt_of_pos _ (by omega)⟩
        obtain ⟨j, hj⟩ : ∃ j : Nat, sel % (k : Int) = j := ⟨(sel % (k : Int)).toNat, by omega⟩
        have hjk : j < k := by omega
        have kc0 := HI.out.c0
        obtain ⟨bw, hbw, hman, hsb, hzb⟩ := HI.out.each j hjk
        have HM := Hid.mk' hman
        clear hman hrem
        have hk0 : ((k : Int) == 0) = false := by simp; omega
        go_wp2_with fail
        go_quiet (fail)
        have HI2 : Hid (Inv w (wr.drewN nq) s m k k slp spn shl un xs) := Hid.mk' HI.out.drewN
        have HM2 : Hid (Man (wr.drewN nq) s m bw (xs j)) := Hid.mk' HM.out.drewN
        have hzb2 : bw < (wr.drewN nq).heap.size := hzb
        generalize wr.drewN nq = w3 at HI2 HM2 hzb2 ⊢
        clear HI HM hbw kc0
        obtain ⟨v8, hv8⟩ := HM2.out.c8
        have f8 := HM2.out.fz 8
        go_wp2_with fail
        have HB3 : Hid (Below s w (w3.setCell ⟨bw, 8, none⟩ (.bool sp))) := Hid.mk' (HI2.out.below.setCell hsb _)
        have HC3 : Hid (Crew w3 s m k xs) := Hid.mk' HI2.out.crew
        have hq8 := Hid.mk' (cell_hit hv8 (.bool sp))
        cases sp
        · refine (stop_idle bw _ hq8.out).mono ?_
          rintro e w' ⟨rfl, rfl⟩
          have HE : Hid (End (w3.setCell ⟨bw, 8, none⟩ (.bool false)) s bw slp spn shl un) := Hid.mk' ⟨(HI2.out.sched.set8 HM2.out.ns _ _).c10, (HI2.out.sched.set8 HM2.out.ns _ _).c11, (HI2.out.sched.set8 HM2.out.ns _ _).c12, (HI2.out.sched.set8 HM2.out.ns _ _).c125, hq8.out⟩
          have HB := HB3
          clear hq8 hv8 f8
          generalize w3.setCell ⟨bw, 8, none⟩ (.bool false) = w4 at HE HB ⊢
          have k125 := HE.out.c125
          have k8 := HE.out.c8
          go_wp2_with fail
          refine (load32 s 11 spn _ HE.out.c11).mono ?_
          rintro e w' ⟨rfl, hw⟩
          obtain rfl := hw.symm
          go_wp2_with fail
          refine (load32 s 10 slp _ HE.out.c10).mono ?_
          rintro e w' ⟨rfl, hw⟩
          obtain rfl := hw.symm
          go_wp2_with fail
          refine (load64 s 12 shl _ HE.out.c12).mono ?_
          rintro e w' ⟨rfl, hw⟩
          obtain rfl := hw.symm
          go_wp2
          go_ret
          exact ⟨rfl, by rw [HS.out]; exact HB.out⟩
        · refine (stop_spins s s m k bw slp spn shl un xs _ hlen (HI2.out.sched.set8 HM2.out.ns _ _) (HC3.out.set8 HM2.out.ns HM2.out.nm true) HM2.out.ns HM2.out.nm (cell_skip HM2.out.c0 (by decide) _) hq8.out (by rw [frozen_setCell]; exact HM2.out.fz 8) (Nat.le_refl _) hsb (by have := HI2.out.sm; have := HI2.out.zm; simp [World.setCell]; omega) (by simpa [World.setCell] using hzb2)).mono ?_
          rintro e w4 ⟨rfl, hor, hbel⟩
          have HB := Hid.mk' (HB3.out.trans hbel)
          clear hbel hq8 hv8 f8
          rw [show spn + -1 = spn - 1 from rfl, show slp + -1 = slp - 1 from rfl] at hor
          rcases hor with ⟨hwk, hE⟩ | ⟨hwk, hE⟩
          · obtain ⟨hq, hle, hsl⟩ := woke_true hwk
            have HE := Hid.mk' hE
            clear hE hwk
            have k125 := HE.out.c125
            have k8 := HE.out.c8
            go_wp2_with fail
            refine (load32 s 11 (wrap32 (wrap32 (spn - 1) + 1)) _ HE.out.c11).mono ?_
            rintro e w' ⟨rfl, hw⟩
            obtain rfl := hw.symm
            go_wp2_with fail
            refine (load32 s 10 (wrap32 (slp - 1)) _ HE.out.c10).mono ?_
            rintro e w' ⟨rfl, hw⟩
            obtain rfl := hw.symm
            go_wp2_with fail
            refine (load64 s 12 shl _ HE.out.c12).mono ?_
            rintro e w' ⟨rfl, hw⟩
            obtain rfl := hw.symm
            go_wp2
            go_ret
            exact ⟨rfl, by rw [HS.out]; exact HB.out⟩
          · have HE := Hid.mk' hE
            have HW := Hid.mk' hwk
            clear hE hwk
            cases hq : (decide (0 < shl) || anyQ xs k)
            · clear HW
              have k125 := HE.out.c125
              have k8 := HE.out.c8
              go_wp2_with fail
              refine (load32 s 11 (wrap32 (spn - 1)) _ HE.out.c11).mono ?_
              rintro e w' ⟨rfl, hw⟩
              obtain rfl := hw.symm
              go_wp2_with fail
              refine (load32 s 10 slp _ HE.out.c10).mono ?_
              rintro e w' ⟨rfl, hw⟩
              obtain rfl := hw.symm
              go_wp2_with fail
              refine (load64 s 12 shl _ HE.out.c12).mono ?_
              rintro e w' ⟨rfl, hw⟩
              obtain rfl := hw.symm
              go_wp2
              go_ret
              exact ⟨rfl, by rw [HS.out]; exact HB.out⟩
            · by_cases hle : wrap32 (spn - 1) ≤ 0
              · have hsl : (slp != 0) = false := woke_false HW.out hq hle
                clear HW
                have k125 := HE.out.c125
                have k8 := HE.out.c8
                go_wp2_with fail
                refine (load32 s 11 (wrap32 (spn - 1)) _ HE.out.c11).mono ?_
                rintro e w' ⟨rfl, hw⟩
                obtain rfl := hw.symm
                go_wp2_with fail
                refine (load32 s 10 slp _ HE.out.c10).mono ?_
                rintro e w' ⟨rfl, hw⟩
                obtain rfl := hw.symm
                go_wp2_with fail
                refine (load64 s 12 shl _ HE.out.c12).mono ?_
                rintro e w' ⟨rfl, hw⟩
                obtain rfl := hw.symm
                go_wp2
                go_ret
                exact ⟨rfl, by rw [HS.out]; exact HB.out⟩
              · have hle' : decide (wrap32 (spn - 1) ≤ 0) = false := by simpa using hle
                clear HW
                have k125 := HE.out.c125
                have k8 := HE.out.c8
                go_wp2_with fail
                refine (load32 s 11 (wrap32 (spn - 1)) _ HE.out.c11).mono ?_
                rintro e w' ⟨rfl, hw⟩
                obtain rfl := hw.symm
                go_wp2_with fail
                refine (load32 s 10 slp _ HE.out.c10).mono ?_
                rintro e w' ⟨rfl, hw⟩
                obtain rfl := hw.symm
                go_wp2_with fail
                refine (load64 s 12 shl _ HE.out.c12).mono ?_
                rintro e w' ⟨rfl, hw⟩
                obtain rfl := hw.symm
                go_wp2
                go_ret
                exact ⟨rfl, by rw [HS.out]; exact HB.out⟩
end Go.Proofs.Ybulkalgq
