import Derived.Test.YbulkalfoScriptA
import Derived.LoopTactic
import Derived.Deep.RegionWith
namespace Go.Proofs.Ybulkalfo
open Go.ChangeShapes Go.WideShapes Go.ChangeAt Go.RowKit Go.MuLone

/-- What the walk is told of the steps that came in: none, or a row of pairs. -/
def IsSteps (w : World) (a : Option Addr) (len : Nat) : Prop :=
  len = 0 ∨
  ∃ b off, a = some ⟨b, off, none⟩ ∧ b < w.heap.size ∧
    ∀ i, i < len → ∃ o A : Int, w.cell? ⟨b, off + i * 2, none⟩ = some (.int .u8 o) ∧ w.cell? ⟨b, off + i * 2 + 1, none⟩ = some (.int .i64 A) ∧ (0 ≤ o ∧ o ≤ 255) ∧ (-9223372036854775808 ≤ A ∧ A ≤ 9223372036854775807)

/-- What stands at every round's head: nothing old has turned; the start, the clock and the expected time in their blocks. -/
structure Inv (w wr : World) (bs bc be : Nat) (n N : Int) : Prop where
  below : Below w.heap.size w wr
  start : wr.heap[bs]? = some (timeObj n)
  clock : wr.heap[bc]? = some (clockObj N (.slice none 0 0))
  exp : wr.heap[be]? = some (timeObj N)

theorem Inv.alloc {w wr : World} {bs bc be : Nat} {n N : Int} (h : Inv w wr bs bc be n N) (hz : w.heap.size ≤ bs) (o : Obj) : Inv w (wr.alloc o) bs bc be n N :=
  ⟨h.below.alloc (by have := lt_of h.start; omega) o, heap_alloc_old h.start, heap_alloc_old h.clock, heap_alloc_old h.exp⟩
theorem Inv.drew {w wr : World} {bs bc be : Nat} {n N : Int} (h : Inv w wr bs bc be n N) : Inv w wr.drew bs bc be n N :=
  ⟨h.below.drew, h.start, h.clock, h.exp⟩

theorem Hid.mk {p : Prop} (h : p) : Hid p := h

set_option maxRecDepth 20000 in
set_option maxHeartbeats 800000 in
theorem script_some (n : Int) (b off len cap : Nat) (w : World) (hn : Hid (-9223372036854775808 ≤ n ∧ n ≤ 9223372036854775807)) (hlen : len ≤ 1024) (hb : b < w.heap.size)
    (hs : Hid (∀ i, i < len → ∃ o A : Int, w.cell? ⟨b, off + i * 2, none⟩ = some (.int .u8 o) ∧ w.cell? ⟨b, off + i * 2 + 1, none⟩ = some (.int .i64 A) ∧ (0 ≤ o ∧ o ≤ 255) ∧ (-9223372036854775808 ≤ A ∧ A ≤ 9223372036854775807))) :
    Calls Yba.prog 6 #[.int .i64 n, .slice (some ⟨b, off, none⟩) len cap] w fun e w' => e = .returned (.bool true) ∧ Below w.heap.size w w' := by
  have hle := loc_eq
  go_enter Yba.func6, Yba.ntmps6
  go_wp2_with fail
  refine (add_zero n _ hn.out.1 hn.out.2).mono ?_
  rintro e w' ⟨rfl, o1, o2, rfl⟩
  go_wp2_with fail
  refine (newClock_any n _).mono ?_
  rintro e w' ⟨rfl, rfl⟩
  go_wp2_with fail
  have HI : Hid (Inv w (((((((w.alloc (Obj.cells o1 32)).alloc (Obj.cells o2 32)).alloc (timeObj n)).alloc (timeObj n)).alloc (clockObj n (.slice none 0 0)))).alloc (timeObj n)) (w.heap.size + 1 + 1) (w.heap.size + 1 + 1 + 1 + 1) (w.heap.size + 1 + 1 + 1 + 1 + 1) n n) := by
    refine ⟨?_, ?_, ?_, ?_⟩
    · exact (((((((Below.refl _ _).alloc (Nat.le_refl _) _).alloc (by simp) _).alloc (by simp; omega) _).alloc (by simp; omega) _).alloc (by simp; omega) _).alloc (by simp; omega) _)
    · exact heap_alloc_old (heap_alloc_old (heap_alloc_old (heap_alloc_at (by simp))))
    · exact heap_alloc_old (heap_alloc_at (by simp))
    · exact heap_alloc_at (by simp)
  have HB : Hid (w.heap.size ≤ w.heap.size + 1 + 1 ∧ w.heap.size + 1 + 1 < w.heap.size + 1 + 1 + 1 + 1 ∧ w.heap.size + 1 + 1 + 1 + 1 < w.heap.size + 1 + 1 + 1 + 1 + 1) := Hid.mk (by omega)
  generalize w.heap.size + 1 + 1 + 1 + 1 + 1 = be at HI HB ⊢
  generalize w.heap.size + 1 + 1 + 1 + 1 = bc at HI HB ⊢
  generalize w.heap.size + 1 + 1 = bs at HI HB ⊢
  go_loopw [22] (fun i wr => ∃ (k : Nat) (N : Int), k ≤ len ∧ i = .int .i64 k ∧ Hid (Inv w wr bs bc be n N) ∧ Hid (-9223372036854775808 * ((k : Int) + 1) ≤ N ∧ N ≤ 9223372036854775808 * ((k : Int) + 1))) (fun i _ => len - (intOf i).toNat)
  case atStart => exact ⟨0, n, Nat.zero_le _, rfl, HI, Hid.mk (by have := hn.out; omega)⟩
  case round =>
    obtain ⟨k, N, hk, rfl, HI, HN⟩ := hrel
    obtain ⟨hB1, hB2, hB3⟩ := HB.out
    have zs := lt_of HI.out.start
    have zc := lt_of HI.out.clock
    have ze := lt_of HI.out.exp
    by_cases hlt : k < len
    · obtain ⟨o, A, g0, g1, ⟨ho0, ho1⟩, hA⟩ := hs.out k hlt
      have HA := Hid.mk hA
      clear hA
      have zb : b < wr.heap.size := by omega
      have g0' : wr.cell? ⟨b, off + k * 2, none⟩ = some (.int .u8 o) := by rw [HI.out.below.cell hb]; exact g0
      have g1' : wr.cell? ⟨b, off + k * 2 + 1, none⟩ = some (.int .i64 A) := by rw [HI.out.below.cell hb]; exact g1
      clear g0 g1
      have s0 : wr.cell? ⟨bs, 0, none⟩ = some (.int .u64 (n % 1000000000)) := cell_by HI.out.start (by simp)
      have s1 : wr.cell? ⟨bs, 1, none⟩ = some (.int .i64 (n / 1000000000)) := cell_by HI.out.start (by simp)
      have s2 : wr.cell? ⟨bs, 2, none⟩ = some (.pointer none) := cell_by HI.out.start (by simp)
      have x0 : wr.cell? ⟨be, 0, none⟩ = some (.int .u64 (N % 1000000000)) := cell_by HI.out.exp (by simp)
      have x1 : wr.cell? ⟨be, 1, none⟩ = some (.int .i64 (N / 1000000000)) := cell_by HI.out.exp (by simp)
      have x2 : wr.cell? ⟨be, 2, none⟩ = some (.pointer none) := cell_by HI.out.exp (by simp)
      by_cases hop : o % 2 = 0
      · have hop' : (o % 2 == 0) = true := by simp [hop]
        clear hop
        go_wp2_with fail
        refine (add_N n A _ (by have := hn.out; omega) (by have := hn.out; omega) HA.out.1 HA.out.2).mono ?_
        rintro e w' ⟨rfl, o3, o4, rfl⟩
        go_wp2_with fail
        refine (set_none bc N (n + A) _ ?_).mono ?_
        · exact heap_alloc_old (heap_alloc_old (heap_alloc_old (heap_alloc_old HI.out.clock)))
        rintro e w1 ⟨rfl, hh, hkp⟩
        have HH := Hid.mk hh
        clear hh
        have HK := Hid.mk hkp
        have zt : wr.heap.size + 1 + 1 + 1 < w1.heap.size := by have := hkp.size; simp at this; omega
        have ht : w1.heap[wr.heap.size + 1 + 1 + 1]? = some (timeObj (n + A)) := by
          rw [hkp.block _ (by simp) (by omega)]; exact heap_alloc_at (by simp)
        have he : w1.heap[be]? = some (timeObj N) := by
          rw [hkp.block _ (by simp; omega) (by omega)]; exact heap_alloc_old (heap_alloc_old (heap_alloc_old (heap_alloc_old HI.out.exp)))
        have hst : w1.heap[bs]? = some (timeObj n) := by
          rw [hkp.block _ (by simp; omega) (by omega)]; exact heap_alloc_old (heap_alloc_old (heap_alloc_old (heap_alloc_old HI.out.start)))
        have hbel : Below w.heap.size w w1 := Kept.below ((((HI.out.below.alloc (by omega) _).alloc (by simp; omega) _).alloc (by simp; omega) _).alloc (by simp; omega) _) hkp (by simp; omega) (by omega)
        clear hkp
        have t0 : w1.cell? ⟨wr.heap.size + 1 + 1 + 1, 0, none⟩ = some (.int .u64 ((n + A) % 1000000000)) := cell_by ht (by simp)
        have t1 : w1.cell? ⟨wr.heap.size + 1 + 1 + 1, 1, none⟩ = some (.int .i64 ((n + A) / 1000000000)) := cell_by ht (by simp)
        have t2 : w1.cell? ⟨wr.heap.size + 1 + 1 + 1, 2, none⟩ = some (.pointer none) := cell_by ht (by simp)
        have y0 : w1.cell? ⟨be, 0, none⟩ = some (.int .u64 (N % 1000000000)) := cell_by he (by simp)
        have y1 : w1.cell? ⟨be, 1, none⟩ = some (.int .i64 (N / 1000000000)) := cell_by he (by simp)
        have y2 : w1.cell? ⟨be, 2, none⟩ = some (.pointer none) := cell_by he (by simp)
        have f0 := frozen_of he 0
        have f1 := frozen_of he 1
        have f2 := frozen_of he 2
        have HE := Hid.mk he
        have HS := Hid.mk hst
        have HL := Hid.mk hbel
        clear ht he hst hbel x0 x1 x2 s0 s1 s2
        go_wp2_with fail
        have HI2 : Hid (Inv w (((w1.setCell ⟨be, 0, none⟩ (.int .u64 ((n + A) % 1000000000))).setCell ⟨be, 1, none⟩ (.int .i64 ((n + A) / 1000000000))).setCell ⟨be, 2, none⟩ (.pointer none)) bs bc be n (n + A)) := by
          refine ⟨((HL.out.setCell (by simp; omega) _).setCell (by simp; omega) _).setCell (by simp; omega) _, ?_, ?_, ?_⟩
          · exact setCell_else (setCell_else (setCell_else HS.out (by omega) _ _) (by omega) _ _) (by omega) _ _
          · exact setCell_else (setCell_else (setCell_else HH.out (by omega) _ _) (by omega) _ _) (by omega) _ _
          · exact (setCell_at (setCell_at (setCell_at HE.out _ _) _ _) _ _).trans (by simp)
        generalize ((w1.setCell ⟨be, 0, none⟩ (.int .u64 ((n + A) % 1000000000))).setCell ⟨be, 1, none⟩ (.int .i64 ((n + A) / 1000000000))).setCell ⟨be, 2, none⟩ (.pointer none) = w2 at HI2 ⊢
        clear t0 t1 t2 y0 y1 y2 f0 f1 f2 HE HS HL HK HH zt g0' g1'
        have HN2 : Hid (-9223372036854775808 * (((k + 1 : Nat) : Int) + 1) ≤ n + A ∧ n + A ≤ 9223372036854775808 * (((k + 1 : Nat) : Int) + 1)) := Hid.mk (by have := hn.out; have := HA.out; omega)
        have zc2 := lt_of HI2.out.clock
        have ze2 := lt_of HI2.out.exp
        have x0 : w2.cell? ⟨be, 0, none⟩ = some (.int .u64 ((n + A) % 1000000000)) := cell_by HI2.out.exp (by simp)
        have x1 : w2.cell? ⟨be, 1, none⟩ = some (.int .i64 ((n + A) / 1000000000)) := cell_by HI2.out.exp (by simp)
        have x2 : w2.cell? ⟨be, 2, none⟩ = some (.pointer none) := cell_by HI2.out.exp (by simp)
        generalize n + A = N2 at HI2 HN2 x0 x1 x2 ⊢
        go_region_with (go_at_call 12; refine (now_any bc N2 (.slice none 0 0) _ ?_).mono ?_; exact HI2.out.clock; rintro e w' ⟨rfl, rfl⟩)
        all_goals
          go_wp2
          go_roundw
          case rel => exact ⟨k + 1, N2, by omega, by go_num, Hid.mk (HI2.out.alloc hB1 _).drew, HN2⟩
          case measure => simp [intOf]; omega
      · have hop' : (o % 2 == 0) = false := by simpa using hop
        clear hop
        go_wp2_with fail
        refine (advance_none bc N A _ (by have := HN.out; omega) (by have := HN.out; omega) HA ?_).mono ?_
        · exact heap_alloc_old HI.out.clock
        rintro e w1 ⟨rfl, hh, hkp⟩
        have HH := Hid.mk hh
        clear hh
        have zt : wr.heap.size < w1.heap.size := by have := hkp.size; simp at this; omega
        have ht : w1.heap[wr.heap.size]? = some (.cells #[.int .u8 o, .int .i64 A] 42) := by
          rw [hkp.block _ (by simp) (by omega)]; exact heap_alloc_at (by simp)
        have he : w1.heap[be]? = some (timeObj N) := by
          rw [hkp.block _ (by simp; omega) (by omega)]; exact heap_alloc_old HI.out.exp
        have hst : w1.heap[bs]? = some (timeObj n) := by
          rw [hkp.block _ (by simp; omega) (by omega)]; exact heap_alloc_old HI.out.start
        have hbel : Below w.heap.size w w1 := Kept.below (HI.out.below.alloc (by omega) _) hkp (by simp; omega) (by omega)
        clear hkp
        have ze1 := lt_of he
        have t1 : w1.cell? ⟨wr.heap.size, 1, none⟩ = some (.int .i64 A) := cell_by ht (by simp)
        have y0 : w1.cell? ⟨be, 0, none⟩ = some (.int .u64 (N % 1000000000)) := cell_by he (by simp)
        have y1 : w1.cell? ⟨be, 1, none⟩ = some (.int .i64 (N / 1000000000)) := cell_by he (by simp)
        have y2 : w1.cell? ⟨be, 2, none⟩ = some (.pointer none) := cell_by he (by simp)
        have f0 := frozen_of he 0
        have f1 := frozen_of he 1
        have f2 := frozen_of he 2
        have HE := Hid.mk he
        have HS := Hid.mk hst
        have HL := Hid.mk hbel
        clear ht he hst hbel x0 x1 x2 s0 s1 s2
        go_wp2_with fail
        refine (add_N N A _ (by have := HN.out; omega) (by have := HN.out; omega) HA.out.1 HA.out.2).mono ?_
        rintro e w' ⟨rfl, o3, o4, rfl⟩
        go_wp2_with fail
        have HI2 : Hid (Inv w (((((w1.setCell ⟨be, 0, none⟩ (.int .u64 ((N + A) % 1000000000))).setCell ⟨be, 1, none⟩ (.int .i64 ((N + A) / 1000000000))).setCell ⟨be, 2, none⟩ (.pointer none)).alloc (Obj.cells o3 32)).alloc (Obj.cells o4 32)) bs bc be n (N + A)) := by
          refine Inv.alloc (Inv.alloc ⟨((HL.out.setCell (by simp; omega) _).setCell (by simp; omega) _).setCell (by simp; omega) _, ?_, ?_, ?_⟩ hB1 _) hB1 _
          · exact setCell_else (setCell_else (setCell_else HS.out (by omega) _ _) (by omega) _ _) (by omega) _ _
          · exact setCell_else (setCell_else (setCell_else HH.out (by omega) _ _) (by omega) _ _) (by omega) _ _
          · exact (setCell_at (setCell_at (setCell_at HE.out _ _) _ _) _ _).trans (by simp)
        generalize ((((w1.setCell ⟨be, 0, none⟩ (.int .u64 ((N + A) % 1000000000))).setCell ⟨be, 1, none⟩ (.int .i64 ((N + A) / 1000000000))).setCell ⟨be, 2, none⟩ (.pointer none)).alloc (Obj.cells o3 32)).alloc (Obj.cells o4 32) = w2 at HI2 ⊢
        clear t1 y0 y1 y2 f0 f1 f2 HE HS HL HH zt ze1 g0' g1'
        have HN2 : Hid (-9223372036854775808 * (((k + 1 : Nat) : Int) + 1) ≤ N + A ∧ N + A ≤ 9223372036854775808 * (((k + 1 : Nat) : Int) + 1)) := Hid.mk (by have := HN.out; have := HA.out; omega)
        have zc2 := lt_of HI2.out.clock
        have ze2 := lt_of HI2.out.exp
        have x0 : w2.cell? ⟨be, 0, none⟩ = some (.int .u64 ((N + A) % 1000000000)) := cell_by HI2.out.exp (by simp)
        have x1 : w2.cell? ⟨be, 1, none⟩ = some (.int .i64 ((N + A) / 1000000000)) := cell_by HI2.out.exp (by simp)
        have x2 : w2.cell? ⟨be, 2, none⟩ = some (.pointer none) := cell_by HI2.out.exp (by simp)
        generalize N + A = N2 at HI2 HN2 x0 x1 x2 ⊢
        go_region_with (go_at_call 12; refine (now_any bc N2 (.slice none 0 0) _ ?_).mono ?_; exact HI2.out.clock; rintro e w' ⟨rfl, rfl⟩)
        all_goals
          go_wp2
          go_roundw
          case rel => exact ⟨k + 1, N2, by omega, by go_num, Hid.mk (HI2.out.alloc hB1 _).drew, HN2⟩
          case measure => simp [intOf]; omega
    · go_wp2
      go_ret
      exact ⟨rfl, HI.out.below⟩

set_option maxRecDepth 20000 in
set_option maxHeartbeats 800000 in
theorem script_walk (n : Int) (a : Option Addr) (len cap : Nat) (w : World) (w0 : (Lit.int .i64 n).wf = true) (hs : IsSteps w a len) :
    Calls Yba.prog 6 #[.int .i64 n, .slice a len cap] w fun e w' => e = .returned (.bool true) ∧ Below w.heap.size w w' := by
  by_cases hl : len ≤ 1024
  · rcases hs with rfl | ⟨b, off, rfl, hb, hs⟩
    · have hn := Hid.mk (i64_bounds w0)
      clear w0
      go_enter Yba.func6, Yba.ntmps6
      go_wp2_with fail
      refine (add_zero n _ hn.out.1 hn.out.2).mono ?_
      rintro e w' ⟨rfl, o1, o2, rfl⟩
      go_wp2_with fail
      refine (newClock_any n _).mono ?_
      rintro e w' ⟨rfl, rfl⟩
      go_wp2
      refine wp_loop_rounds 1 ?_
      rw [rounds_succ]
      go_wp2
      go_ret
      exact ⟨rfl, (((((((Below.refl _ _).alloc (Nat.le_refl _) _).alloc (by simp) _).alloc (by simp; omega) _).alloc (by simp; omega) _).alloc (by simp; omega) _).alloc (by simp; omega) _)⟩
    · exact script_some n b off len cap w (Hid.mk (i64_bounds w0)) hl hb (Hid.mk hs)
  · have hl' : (1024 : Int) < (len : Int) := by omega
    clear hs w0 hl
    go_enter Yba.func6, Yba.ntmps6
    go_wp2
    go_ret
    exact ⟨rfl, Below.refl _ _⟩
end Go.Proofs.Ybulkalfo
