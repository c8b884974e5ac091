import Derived.Test.YbulkalyyRecv
import Derived.WalkSpells
import Derived.Deep.Cut
namespace Go.Proofs.Ybulkalyy
open Go.ChangeShapes Go.WideShapes Go.ChangeAt Go.RowKit Go.Conc

theorem info3' : (Yba.prog.info? 3).map (fun i => (i.zero, i.size, i.bytes)) = some (some (.int .i64 0), 1, 8) := by kernel_rfl

/-- The law's memory behind newCrew and make. -/
theorem LInv.start {w w1 : World} {cb ib wb n len : Nat} {ch js : Nat → Nat} (h : NInv w w1 cb ib wb n n ch) (hn : n ≤ 16) :
    LInv w (w1.alloc (.cells (madeCells #[.int .i64 0] len) 3)) cb wb w1.heap.size ib n len 0 0 n ch js (fun _ => #[]) := by
  have zc := h.zc
  have zw := h.zw
  have zi := lt_of h.idle
  have hs := h.below.size
  have hrow := heap_alloc_new w1 (.cells (madeCells #[.int .i64 0] len) 3)
  refine ⟨h.below.alloc hs _, cell_keep h.c14 zc, cell_keep h.c15 zc, fun o => (frozen_keep zc).trans (h.fz o), ?_, fun i hi => cell_keep (h.chan i hi).1 zw, fun i hi => ⟨0, 0, heap_alloc_old (h.chan i hi).2.1⟩, fun i j hi hj => h.inj i j hi hj, fun i hi => by omega, fun i hi => ⟨_, cell_by hrow (made_get _ _ _ hi)⟩, fun o => frozen_of hrow o, h.oc, h.ow, by omega, fun i hi => (h.chan i hi).2.2, by simp; omega, by simp; omega, by simp, h.nci, Ne.symm h.niw, by omega, h.ncw, by omega, by omega⟩
  refine ⟨rfl, .inr ⟨ib, n, _, rfl, h.oi, heap_alloc_old h.idle, Nat.zero_le _, by unfold maxLen; omega, by simp [size_madeCells], rfl⟩⟩

set_option maxHeartbeats 800000 in
theorem law_some (a0 a2 : Int) (ao : Option Addr) (len cap0 : Nat) (zs : List Int) (w : World) (h00 : 0 ≤ a0) (h01 : a0 ≤ 255) (hlen : len ≤ 256)
    (hz : Hid (0 < len → ∃ b off : Nat, ao = some ⟨b, off, none⟩ ∧ b < w.heap.size ∧ ∀ i, i < len → w.cell? ⟨b, off + i, none⟩ = some (.int .u8 (zs.getD i 0)) ∧ 0 ≤ zs.getD i 0 ∧ zs.getD i 0 ≤ 255)) :
    Calls Yba.prog 3 #[.int .u8 a0, .slice ao len cap0, .int .i64 a2] w fun e w' => e = .returned (.bool true) ∧ Below w.heap.size w w' := by
  have hmk := run_make_row' (P := Yba.prog) 25 3 (.int .i64 0) 8 Yba.underlying25 (by kernel_rfl) rfl .i64 .i64 len (by omega) (by omega)
  obtain ⟨n, hn, hn1, hn2⟩ : ∃ n : Nat, a0 % 16 + 1 = n ∧ 1 ≤ n ∧ n ≤ 16 := ⟨(a0 % 16 + 1).toNat, by omega, by omega, by omega⟩
  go_enter Yba.func3, Yba.ntmps3
  go_wp2_with fail
  refine (new_any n _ hn1 hn2).mono ?_
  rintro e w1 ⟨cb, ib, wb, ch, rfl, hN⟩
  have HN := Hid.mk' hN
  clear hN
  obtain ⟨js, hjs⟩ : ∃ js : Nat → Nat, ∀ i, js i = (zs.getD i 0 % (n : Int)).toNat := ⟨_, fun _ => rfl⟩
  have HJ := Hid.mk' hjs
  clear hjs
  go_wp2
  have HL : Hid (LInv w (w1.alloc (.cells (madeCells #[.int .i64 0] len) 3)) cb wb w1.heap.size ib n len 0 0 n ch js (fun _ => #[])) := Hid.mk' (LInv.start HN.out hn2)
  generalize w1.alloc (.cells (madeCells #[.int .i64 0] len) 3) = w2 at HL ⊢
  generalize w1.heap.size = m at HL ⊢
  clear HN hmk
  go_loopw [35] (fun i wr => ∃ k g cap : Nat, k ≤ len ∧ i = .int .i64 k ∧ Hid (LInv w wr cb wb m g n len k k cap ch js (fun _ => #[]))) (fun i _ => len - (intOf i).toNat)
  case atStart => exact ⟨0, ib, n, Nat.zero_le _, rfl, HL⟩
  case round =>
    clear HL
    obtain ⟨k, g, cap, hk, rfl, HL⟩ := hrel
    by_cases hlt : k < len
    · obtain ⟨b, off, rfl, hb, hzz⟩ := hz.out (by omega)
      obtain ⟨hz1, hz2, hz3⟩ := hzz k hlt
      clear hzz
      have hjk := HJ.out k
      obtain ⟨z, hzz⟩ : ∃ z, zs.getD k 0 = z := ⟨_, rfl⟩
      rw [hzz] at hz1 hz2 hz3 hjk
      have HZ := Hid.mk' hzz
      clear hzz
      have HJK : Hid (z % (n : Int) = (js k : Int)) := Hid.mk' (by rw [hjk]; have := Int.emod_nonneg z (show (n : Int) ≠ 0 by omega); omega)
      clear hjk
      have rz : wr.cell? ⟨b, off + k, none⟩ = some (.int .u8 z) := by rw [HL.out.below.cell hb]; exact hz1
      clear hz1
      have zb : b < wr.heap.size := by have := HL.out.below.size; omega
      have zm := HL.out.zm
      have zc := HL.out.zc
      obtain ⟨mv, hmv⟩ := HL.out.row k hlt
      have mf := HL.out.mfz k
      have c14 := HL.out.c14
      have f14 := HL.out.fz 14
      have ncm := HL.out.ncm
      have hnz : ¬ (n : Int) = 0 := by omega
      have hnp : (0 : Int) < (n : Int) := by omega
      obtain ⟨i0, hi, hz0, hz1', hz2'⟩ := info_parts info3'
      have H1 : Hid (LInv w (wr.setCell ⟨m, k, none⟩ (.int .i64 (z % (n : Int)))) cb wb m g n len (k + 1) k cap ch js (fun _ => #[])) := Hid.mk' (by rw [HJK.out]; exact HL.out.setWant hlt)
      have H2 : Hid (LInv w ((wr.setCell ⟨m, k, none⟩ (.int .i64 (z % (n : Int)))).alloc (.cells #[.int .i64 (z % (n : Int))] 3)) cb wb m g n len (k + 1) k cap ch js (fun _ => #[])) := Hid.mk' (H1.out.alloc _)
      go_wp2_with (at_builtin; refine append_one _ rfl (.tmp 52) (.tmp 54) 25 rfl w.heap.size 3 i0 (.int .i64 0) 8 Yba.underlying25 hi hz0 hz1' hz2' rfl g k cap (jsCells js k) rfl H2.out.own ⟨wr.heap.size, 0, none⟩ (.int .i64 (z % (n : Int))) rfl ?hu rfl ?b1 ?b2 ?b3 ?_)
      case hu => exact cell_by (heap_alloc_at (by simp [World.setCell])) rfl
      case b1 => unfold maxLen; omega
      case b2 => omega
      case b3 => exact H2.out.below.size
      intro g' cap' w3 hg' hown' hgr
      have hown2 : w3.ownsRow w.heap.size 3 1 (.slice (some ⟨g', 0, none⟩) (k + 1) cap') (k + 1) (jsCells js (k + 1)) := by rw [jsCells_succ, ← HJK.out]; exact hown'
      clear hown'
      have c14' : w3.cell? ⟨cb, 14, none⟩ = some (.slice (some ⟨g, 0, none⟩) k cap) := (World.cell?_of_block (a := ⟨cb, 14, none⟩) (hgr.block cb H2.out.zc (by simpa using H2.out.ncg))).trans H2.out.c14
      have f14' : w3.frozen? ⟨cb, 14, none⟩ = false := (World.frozen?_of_block (a := ⟨cb, 14, none⟩) (hgr.block cb H2.out.zc (by simpa using H2.out.ncg))).trans (H2.out.fz 14)
      have H3 : Hid (LInv w (w3.setCell ⟨cb, 14, none⟩ (.slice (some ⟨g', 0, none⟩) (k + 1) cap')) cb wb m g' n len (k + 1) (k + 1) cap' ch js (fun _ => #[])) := Hid.mk' (H2.out.append (by simpa [World.setCell, World.alloc] using hg') hown2 hgr)
      clear hown2 hgr hg' H2 H1 HL
      go_wp2
      go_roundw
      case rel => exact ⟨k + 1, g', cap', by omega, by simp, H3⟩
      case measure => simp [intOf]; omega
    · have hkl : k = len := by omega
      subst hkl
      clear hlt hk
      have HJN : Hid (∀ i, js i < n) := Hid.mk' (fun i => by
        have h1 := Int.emod_lt_of_pos (zs.getD i 0) (show (0 : Int) < n by omega)
        have h2 := Int.emod_nonneg (zs.getD i 0) (show (n : Int) ≠ 0 by omega)
        have h3 := HJ.out i
        omega)
      clear HJ hz
      go_wp2_with fail
      generalize k = len at *
      go_loopw [14] (fun i wr => ∃ k : Nat, k ≤ len ∧ i = .int .i64 k ∧ Hid (LInv w wr cb wb m g n len len k cap ch js (fun _ => #[]))) (fun i _ => (intOf i).toNat)
      case atStart => exact ⟨len, Nat.le_refl _, rfl, HL⟩
      case round =>
        clear HL
        obtain ⟨k, hk, rfl, HL⟩ := hrel
        match k, hk, HL with
        | 0, hk, HL =>
          go_wp2_with fail
          refine (wake_none cb a2 _ cap _ HL.out.c14).mono ?_
          rintro e w4 ⟨rfl, hw4⟩
          obtain rfl := hw4.symm
          have c14 := HL.out.c14
          have c15 := HL.out.c15
          go_wp2_with fail
          clear c14 c15
          go_loopw [147] (fun i wr => ∃ q : Nat, q ≤ n ∧ i = .int .i64 q ∧ Hid (LInv w wr cb wb m g n len len 0 cap ch js (fun _ => #[]))) (fun i _ => n - (intOf i).toNat)
          case atStart => exact ⟨0, Nat.zero_le _, rfl, HL⟩
          case round =>
            clear HL
            obtain ⟨q, hq, rfl, HL⟩ := hrel
            by_cases hlt : q < n
            · have c15 := HL.out.c15
              have cw := HL.out.wake q hlt
              obtain ⟨cs, cr, hc⟩ := HL.out.chan q hlt
              have hlc := len_chan wr hc
              go_wp2
              go_roundw
              case rel => exact ⟨q + 1, by omega, by simp, HL⟩
              case measure => simp [intOf]; omega
            · go_wp2
              go_ret
              exact ⟨rfl, HL.out.below⟩
        | k + 1, hk, HL =>
          go_wp2_with fail
          have hjn := HJN.out k
          obtain ⟨cs, cr, hc⟩ := HL.out.chan (js k) hjn
          refine (wake_some cb g wb (k + 1) n cap (js k) (ch (js k)) cs cr a2 _ (by omega) HL.out.capk (by omega) hn2 hjn HL.out.c14 HL.out.c15 (HL.out.fz 14) (HL.out.idle (by omega)) (HL.out.wake _ hjn) hc).mono ?_
          rintro e w4 ⟨rfl, x, hw4⟩
          obtain ⟨buf, hbuf⟩ : ∃ buf : Nat → Array Value, buf = fun i => if i = js k then #[.int .i64 a2] else #[] := ⟨_, rfl⟩
          have H4 : Hid (LInv w w4 cb wb m g n len len k cap ch js buf) := Hid.mk' (by rw [hw4, hbuf]; exact ((HL.out.drewN x).setChan hjn _ _ _).pop)
          have HB := Hid.mk' hbuf
          clear hbuf hc cs cr hw4 HL
          have c14 := H4.out.c14
          go_wp2_with fail
          clear c14
          go_loopw [15] (fun i wr => ∃ j : Nat, j ≤ k ∧ i = .int .i64 j ∧ Hid (LInv w wr cb wb m g n len len k cap ch js buf)) (fun i _ => k - (intOf i).toNat)
          case atStart => exact ⟨0, Nat.zero_le _, rfl, H4⟩
          case round =>
            clear H4
            obtain ⟨j, hj, rfl, HL⟩ := hrel
            by_cases hlt : j < k
            · have c14 := HL.out.c14
              have ci := HL.out.idle hlt
              have cw := HL.out.want j (by omega)
              go_wp2_with fail
              go_quiet (fail)
              go_wp2
              go_roundw
              case rel => exact ⟨j + 1, by omega, by simp, Hid.mk' (HL.out.drewN _)⟩
              case measure => simp [intOf]; omega
            · have hjk : j = k := by omega
              subst hjk
              have cw := HL.out.want j (by omega)
              have c15 := HL.out.c15
              go_wp2_with fail
              clear cw c15 hlt hj
              go_loopw [105] (fun i wr => ∃ q : Nat, q ≤ n ∧ i = .int .i64 q ∧ Hid (LInv w wr cb wb m g n len len j cap ch js buf)) (fun i _ => n - (intOf i).toNat)
              case atStart => exact ⟨0, Nat.zero_le _, rfl, HL⟩
              case round =>
                clear HL
                obtain ⟨q, hq, rfl, HL⟩ := hrel
                by_cases hlt : q < n
                · have c15 := HL.out.c15
                  have cw := HL.out.wake q hlt
                  obtain ⟨cs, cr, hc⟩ := HL.out.chan q hlt
                  by_cases he : q = js j
                  · subst he
                    have hb2 : buf (js j) = #[.int .i64 a2] := by rw [HB.out]; simp
                    rw [hb2] at hc
                    have hlc := len_chan wr hc
                    go_wp2
                    go_roundw
                    case rel => exact ⟨js j + 1, by omega, by simp, HL⟩
                    case measure => simp [intOf]; omega
                  · have hb2 : buf q = #[] := by rw [HB.out]; simp [he]
                    rw [hb2] at hc
                    have hlc := len_chan wr hc
                    have he' : ¬ (q : Int) = (js j : Int) := by omega
                    go_wp2
                    go_roundw
                    case rel => exact ⟨q + 1, by omega, by simp, HL⟩
                    case measure => simp [intOf]; omega
                · have hqn : q = n := by omega
                  clear hlt hq
                  have c15 := HL.out.c15
                  have cw := HL.out.wake (js j) hjn
                  obtain ⟨cs, cr, hc⟩ := HL.out.chan (js j) hjn
                  have hb2 : buf (js j) = #[.int .i64 a2] := by rw [HB.out]; simp
                  rw [hb2] at hc
                  clear hb2
                  go_upto_region 35 with fail
                  refine region_of_rest ?_
                  change Rest _ _ _ [0, 1, 2, 3, 4, 5, 6, 7, 8] _ _
                  generalize hA : (⟨_, _⟩ : Act) = A
                  have h8 : A.eval (.tmp 8) = .pointer (some ⟨cb, 0, none⟩) := by rw [← hA]; rfl
                  have h16 : A.eval (.tmp 16) = .int .i64 (js j) := by rw [← hA]; rfl
                  have hsz : 129 < A.tmps.size := by rw [← hA]; exact Nat.le_of_ble_eq_true rfl
                  have l8 : 128 < A.tmps.size := by omega
                  have l7 : 127 < A.tmps.size := by omega
                  have l6 : 126 < A.tmps.size := by omega
                  have l5 : 125 < A.tmps.size := by omega
                  have l4 : 124 < A.tmps.size := by omega
                  have l3 : 123 < A.tmps.size := by omega
                  have l2 : 122 < A.tmps.size := by omega
                  refine rest_value rfl rfl (run_move' rfl h8) ?_
                  refine rest_value rfl rfl (run_nil' rfl (put_same rfl l2)) ?_
                  refine rest_value rfl rfl (run_field' rfl (put_same rfl (put_lt l3))) ?_
                  refine rest_value rfl rfl (run_load48 rfl (put_same rfl (put_lt (put_lt l4))) c15) ?_
                  refine rest_value rfl rfl (run_move' rfl (put_ne (i := 125) rfl (by decide) (put_ne (i := 124) rfl (by decide) (put_ne (i := 123) rfl (by decide) (put_ne (i := 122) rfl (by decide) h16))))) ?_
                  refine rest_value rfl rfl (run_index' rfl (put_ne (i := 126) rfl (by decide) (put_same rfl (put_lt (put_lt (put_lt l5))))) (put_same rfl (put_lt (put_lt (put_lt (put_lt l6))))) hjn) ?_
                  refine rest_value rfl rfl (run_load54 rfl (put_same rfl (put_lt (put_lt (put_lt (put_lt (put_lt l7)))))) cw) ?_
                  refine rest_recv rfl rfl rfl (fun w => Yba.runUnderlying54 w) (fun w => Yba.zeroValue52 w) (put_same rfl (put_lt (put_lt (put_lt (put_lt (put_lt (put_lt l8))))))) hc (by simp) ?_
                  refine rest_value rfl rfl (v := .int .i64 a2) (run_assign' rfl (put_same rfl (put_lt (put_lt (put_lt (put_lt (put_lt (put_lt (put_lt hsz))))))))) ?_
                  refine rest_nil ?_
                  clear h8 h16 hsz l8 l7 l6 l5 l4 l3 l2
                  subst hA
                  set_option maxRecDepth 10000 in go_wp2
                  go_roundw
                  case rel =>
                    refine ⟨j, by omega, rfl, Hid.mk' ?_⟩
                    have h5 := HL.out.setChan hjn #[] cs (cr + 1)
                    have e5 : (fun i => if i = js j then #[] else buf i) = fun _ => (#[] : Array Value) := by
                      funext i
                      rw [HB.out]
                      by_cases ei : i = js j <;> simp [ei]
                    rw [e5] at h5
                    exact h5
                  case measure => simp [intOf]

theorem byte_bounds {a : Int} (h : (Lit.int .u8 a).wf = true) : 0 ≤ a ∧ a ≤ 255 := by
  simp [Lit.wf, IntKind.min, IntKind.max, IntKind.signed, IntKind.bits] at h; omega
theorem spot_none {w : World} {a : Addr} {v : Value} (h : w.cell? a = some v) : a.spot = none := by
  unfold World.cell? at h
  split at h
  · split at h
    · cases h
    · rename_i hs; simpa using hs
  · cases h
theorem block_lt {w : World} {a : Addr} {v : Value} (h : w.cell? a = some v) : a.block < w.heap.size := by
  apply Decidable.byContradiction
  intro hn
  unfold World.cell? at h
  rw [Array.getElem?_eq_none (by simpa using hn)] at h
  cases h
theorem addr_add (b off i : Nat) : (⟨b, off, none⟩ : Addr).add i = ⟨b, off + i, none⟩ := by
  unfold Addr.add
  split
  · rename_i h; subst h; simp
  · rfl

set_option maxHeartbeats 400000 in
/-- The law, whatever row of bytes came in. -/
theorem law_walk (a0 a2 : Int) (ao : Option Addr) (len cap : Nat) (zs : List Int) (w : World) (w0 : (Lit.int .u8 a0).wf = true)
    (h : (ao = none ∧ len = 0 ∧ cap = 0 ∧ zs = []) ∨
      ∃ x, ao = some x ∧ len ≤ cap ∧ cap ≤ maxLen ∧ zs.length = cap ∧ (∀ i, i < zs.length → w.cell? (x.add i) = some (.int .u8 (zs.getD i 0))) ∧ ∀ n ∈ zs, (Lit.int .u8 n).wf = true) :
    Calls Yba.prog 3 #[.int .u8 a0, .slice ao len cap, .int .i64 a2] w fun e w' => e = .returned (.bool true) ∧ Below w.heap.size w w' := by
  by_cases hl : len ≤ 256
  · refine law_some a0 a2 ao len cap zs w (byte_bounds w0).1 (byte_bounds w0).2 hl (Hid.mk' fun hpos => ?_)
    rcases h with ⟨_, h0, _⟩ | ⟨x, rfl, hlc, _, hzl, hcell, hwf⟩
    · omega
    · have hc0 := hcell 0 (by omega)
      rw [show x.add 0 = x by simp [Addr.add]] at hc0
      have hsp := spot_none hc0
      have hlt := block_lt hc0
      obtain ⟨b, off, sp⟩ := x
      simp only at hsp
      subst hsp
      refine ⟨b, off, rfl, hlt, fun i hi => ?_⟩
      have hci := hcell i (by omega)
      rw [addr_add] at hci
      refine ⟨hci, byte_bounds (hwf _ ?_)⟩
      have hil : i < zs.length := by omega
      rw [List.getD_eq_getElem?_getD, List.getElem?_eq_getElem hil]
      exact List.getElem_mem hil
  · have hl' : (256 : Int) < (len : Int) := by omega
    clear h w0 hl
    go_enter Yba.func3, Yba.ntmps3
    go_wp2
    go_ret
    exact ⟨rfl, Below.refl _ _⟩
end Go.Proofs.Ybulkalyy
