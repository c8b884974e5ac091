import Derived.Test.YbulkalfoExt
namespace Go.Proofs.Ybulkalfo
open Go.ChangeShapes Go.WideShapes Go.ChangeAt Go.RowKit Go.MuLone

/-- Where the search among the first k of the instants v stands. -/
def Best (T : Int) (v : Nat → Int) (k : Nat) (f : Int) : Prop :=
  (f = -1 ∧ ∀ j, j < k → T < v j) ∨ ∃ g : Nat, f = g ∧ g < k ∧ v g ≤ T ∧ ∀ j, j < k → v j ≤ T → v g ≤ v j

theorem Best.zero (T : Int) (v : Nat → Int) : Best T v 0 (-1) := .inl ⟨rfl, fun j h => by omega⟩
theorem Best.skip {T : Int} {v : Nat → Int} {k : Nat} {f : Int} (h : Best T v k f) (hk : T < v k) : Best T v (k + 1) f := by
  rcases h with ⟨rfl, h⟩ | ⟨g, rfl, hg, hT, h⟩
  · refine .inl ⟨rfl, fun j hj => ?_⟩
    by_cases e : j = k
    · rw [e]; exact hk
    · exact h j (by omega)
  · refine .inr ⟨g, rfl, by omega, hT, fun j hj hjT => ?_⟩
    by_cases e : j = k
    · subst e; omega
    · exact h j (by omega) hjT
theorem Best.first {T : Int} {v : Nat → Int} {k : Nat} (h : Best T v k (-1)) (hk : v k ≤ T) : Best T v (k + 1) k := by
  rcases h with ⟨_, h⟩ | ⟨g, e, _⟩
  · refine .inr ⟨k, rfl, by omega, hk, fun j hj hjT => ?_⟩
    by_cases e : j = k
    · subst e; omega
    · have := h j (by omega); omega
  · omega
theorem Best.better {T : Int} {v : Nat → Int} {k g : Nat} (h : Best T v k g) (hk : v k ≤ T) (hl : v k < v g) : Best T v (k + 1) k := by
  rcases h with ⟨e, _⟩ | ⟨g', e, hg, hT, h⟩
  · omega
  · obtain rfl : g = g' := by omega
    refine .inr ⟨k, rfl, by omega, hk, fun j hj hjT => ?_⟩
    by_cases e : j = k
    · subst e; omega
    · have := h j (by omega) hjT; omega
theorem Best.stay {T : Int} {v : Nat → Int} {k g : Nat} (h : Best T v k g) (hl : v g ≤ v k) : Best T v (k + 1) g := by
  rcases h with ⟨e, _⟩ | ⟨g', e, hg, hT, h⟩
  · omega
  · obtain rfl : g = g' := by omega
    refine .inr ⟨g, rfl, by omega, hT, fun j hj hjT => ?_⟩
    by_cases e : j = k
    · subst e; exact hl
    · exact h j (by omega) hjT

/-- After and Before, among worlds that only gain blocks. -/
theorem after_ext (M N : Int) (c : Bool) (w : World) (x : Ext) (hc : decide (N < M) = c) : Calls Yba.prog 31 #[tN M, tN N] (ext w x) fun e w' => e = .returned (.bool c) ∧ ∃ y, w' = ext w y :=
  (after_N M N _).mono fun e w' ⟨he, o1, o2, hw⟩ => ⟨by rw [he, hc], (fun _ => (((x ()).1.push (.cells o1 32)).push (.cells o2 32), (x ()).2)), by rw [hw, ext_alloc, ext_alloc]⟩
theorem before_ext (M N : Int) (c : Bool) (w : World) (x : Ext) (hc : decide (M < N) = c) : Calls Yba.prog 40 #[tN M, tN N] (ext w x) fun e w' => e = .returned (.bool c) ∧ ∃ y, w' = ext w y :=
  (before_N M N _).mono fun e w' ⟨he, o1, o2, hw⟩ => ⟨by rw [he, hc], (fun _ => (((x ()).1.push (.cells o1 32)).push (.cells o2 32), (x ()).2)), by rw [hw, ext_alloc, ext_alloc]⟩

/-- What due leaves: nothing is due; or the one at f, the least, is taken off. -/
def DuePost (base bc g n cap : Nat) (T : Int) (w : World) (ps : List Value) (p : Nat → Nat) (v : Nat → Int) (e : Ending) (w' : World) : Prop :=
  (e = .returned (.pointer none) ∧ (∀ j, j < n → T < v j) ∧ ∃ x, w' = ext w x) ∨
    ∃ f w2, f < n ∧ v f ≤ T ∧ (∀ j, j < n → v j ≤ T → v f ≤ v j) ∧ e = .returned (ptr (p f)) ∧ w2.ownsRow base 68 1 (.slice (some ⟨g, 0, none⟩) (n - 1) cap) (n - 1) (ps.eraseIdx f) ∧ KeptS (fun b => b = g) w w2 ∧ w' = w2.setCell ⟨bc, 5, none⟩ (.slice (some ⟨g, 0, none⟩) (n - 1) cap)

theorem info68 : (Yba.prog.info? 68).map (fun i => (i.zero, i.size, i.bytes)) = some (some (.pointer none), 1, 8) := by kernel_rfl

set_option maxRecDepth 20000 in
set_option maxHeartbeats 1600000 in
theorem due_row (base bc g n cap : Nat) (T : Int) (w : World) (ps : List Value) (p : Nat → Nat) (v : Nat → Int) (hn : n ≤ 1024) (hcap : n ≤ cap) (hbg : bc ≠ g) (hps : ps.length = n)
    (HO : Hid (∀ f, f < n → ∀ x, (ext (w.alloc (timeObj T)) x).drew.ownsRow base 68 1 (.slice (some ⟨g, 0, none⟩) f cap) f (ps.take f)))
    (HD : Hid (∀ f, f < n → ∀ x, ∀ j u, (ps.drop (f + 1))[j]? = some u → (ext (w.alloc (timeObj T)) x).drew.cell? ((⟨g, f + 1, none⟩ : Addr).add j) = some u))
    (HP : Hid (∀ u, u ∈ ps → u.oneCell' = true)) (HF : Hid (∀ x, (ext (w.alloc (timeObj T)) x).drew.frozen? ⟨bc, 5, none⟩ = false))
    (c5 : w.cell? ⟨bc, 5, none⟩ = some (.slice (some ⟨g, 0, none⟩) n cap))
    (hp : Hid (∀ i, i < n → w.cell? ⟨g, i, none⟩ = some (ptr (p i)) ∧ w.cell? ⟨p i, 0, none⟩ = some (.int .u64 (v i % 1000000000)) ∧ w.cell? ⟨p i, 1, none⟩ = some (.int .i64 (v i / 1000000000)) ∧ w.cell? ⟨p i, 2, none⟩ = some (.pointer none))) :
    Calls Yba.prog 30 #[ptr bc, tN T] w fun e w' => DuePost base bc g n cap T w ps p v e w' := by
  have hw1 : Hid (∀ x, (ext (w.alloc (timeObj T)) x).cell? ⟨w.heap.size, 0, none⟩ = some (.int .u64 (T % 1000000000)) ∧ (ext (w.alloc (timeObj T)) x).cell? ⟨w.heap.size, 1, none⟩ = some (.int .i64 (T / 1000000000)) ∧ (ext (w.alloc (timeObj T)) x).cell? ⟨w.heap.size, 2, none⟩ = some (.pointer none)) :=
    hid (fun x => ⟨ext_cell (cell_by (heap_alloc_new w _) rfl) x, ext_cell (cell_by (heap_alloc_new w _) rfl) x, ext_cell (cell_by (heap_alloc_new w _) rfl) x⟩)
  have keep : Hid (∀ b o u, w.cell? ⟨b, o, none⟩ = some u → ∀ x, (ext (w.alloc (timeObj T)) x).cell? ⟨b, o, none⟩ = some u) := hid (fun b o u h x => ext_cell (by
    rw [World.cell?_alloc_past _ _ _ (cell_lt h)]; exact h) x)
  have d5 := keep.out _ _ _ c5
  have hb := cell_lt c5
  have hbn : ¬ bc = w.heap.size := by omega
  go_enter Yba.func30, Yba.ntmps30
  go_wp2_with fail
  go_loopw [14, 5] (fun i f wr => ∃ k : Nat, ∃ fi : Int, k ≤ n ∧ i = .int .i64 k ∧ f = .int .i64 fi ∧ Hid (Best T v k fi) ∧ ∃ x, wr = ext (w.alloc (timeObj T)) x) (fun i _ _ => n - (intOf i).toNat)
  case atStart => exact ⟨0, -1, Nat.zero_le _, rfl, rfl, hid (Best.zero _ _), (fun _ => (#[], 0)), ext_none _⟩
  case round =>
    obtain ⟨k, fi, hk, rfl, rfl, HB, x, rfl⟩ := hrel
    by_cases hlt : k < n
    · obtain ⟨q0, q1, q2, q3⟩ := hp.out k hlt
      have e0 := keep.out _ _ _ q0
      have e1 := keep.out _ _ _ q1
      have e2 := keep.out _ _ _ q2
      have e3 := keep.out _ _ _ q3
      have t0 := fun x => (hw1.out x).1
      have t1 := fun x => (hw1.out x).2.1
      have t2 := fun x => (hw1.out x).2.2
      by_cases hA : T < v k
      · go_wp2_with fail
        refine wp_region_ext (by kernel_rfl) (by kernel_rfl) ?_
        repeat (go_big_quiet_step ((go_at_call 31; exact after_ext (v k) T true _ _ (decide_eq_true hA))))
        refine wpQuiet_nil ?_
        rintro _ ⟨y, rfl⟩
        go_wp2
        go_roundw
        case rel => exact ⟨k + 1, fi, by omega, by go_num, rfl, hid (HB.out.skip hA), y, rfl⟩
        case measure => simp [intOf]; omega
      · have hB := HB.out
        have hA' : v k ≤ T := by omega
        have dA : Hid (decide (T < v k) = false) := hid (decide_eq_false hA)
        rcases hB with ⟨rfl, _⟩ | ⟨gi, rfl, hg1, hg2, _⟩
        · go_wp2_with fail
          refine wp_region_ext (by kernel_rfl) (by kernel_rfl) ?_
          repeat (go_big_quiet_step ((go_at_call 31; exact after_ext (v k) T false _ _ dA.out)))
          refine wpQuiet_nil ?_
          rintro _ ⟨y, rfl⟩
          go_wp2
          go_roundw
          case rel => exact ⟨k + 1, k, by omega, by go_num, rfl, hid (HB.out.first hA'), y, rfl⟩
          case measure => simp [intOf]; omega
        · obtain ⟨r0, r1, r2, r3⟩ := hp.out gi (by omega)
          have s0 := keep.out _ _ _ r0
          have s1 := keep.out _ _ _ r1
          have s2 := keep.out _ _ _ r2
          have s3 := keep.out _ _ _ r3
          have hgn : decide ((gi : Int) < 0) = false := by simp
          have hgi : gi < n := by omega
          have hgi' : (gi : Int) < (n : Int) := by omega
          by_cases hl : v k < v gi
          · have dB : Hid (decide (v k < v gi) = true) := hid (decide_eq_true hl)
            go_wp2_with fail
            refine wp_region_ext (by kernel_rfl) (by kernel_rfl) ?_
            repeat (go_big_quiet_step ((first | (go_at_call 31; exact after_ext (v k) T false _ _ dA.out) | (go_at_call 40; exact before_ext (v k) (v gi) true _ _ dB.out))))
            refine wpQuiet_nil ?_
            rintro _ ⟨y, rfl⟩
            go_wp2
            go_roundw
            case rel => exact ⟨k + 1, k, by omega, by go_num, rfl, hid (HB.out.better hA' hl), y, rfl⟩
            case measure => simp [intOf]; omega
          · have dB : Hid (decide (v k < v gi) = false) := hid (decide_eq_false hl)
            go_wp2_with fail
            refine wp_region_ext (by kernel_rfl) (by kernel_rfl) ?_
            repeat (go_big_quiet_step ((first | (go_at_call 31; exact after_ext (v k) T false _ _ dA.out) | (go_at_call 40; exact before_ext (v k) (v gi) false _ _ dB.out))))
            refine wpQuiet_nil ?_
            rintro _ ⟨y, rfl⟩
            go_wp2
            go_roundw
            case rel => exact ⟨k + 1, gi, by omega, by go_num, rfl, hid (HB.out.stay (by omega)), y, rfl⟩
            case measure => simp [intOf]; omega
    · obtain rfl : k = n := by omega
      have hB := HB.out
      rcases hB with ⟨rfl, hall⟩ | ⟨gi, rfl, hg1, hg2, hmin⟩
      · have HA := hid hall
        go_wp2
        go_ret
        exact .inl ⟨rfl, HA.out, _, ext_alloc_in w (timeObj T) x⟩
      · obtain ⟨r0, r1, r2, r3⟩ := hp.out gi (by omega)
        have s0 := keep.out _ _ _ r0
        have HM := hid hmin
        clear hmin
        have hgn : ¬ ((gi : Int) < 0) := by omega
        have hgi' : (gi : Int) < (k : Int) := by omega
        have hgi2 : (gi : Int) ≤ (cap : Int) := by omega
        have hgi3 : (gi : Int) + 1 ≤ (k : Int) := by omega
        have hgi4 : (k : Int) ≤ (cap : Int) := by omega
        obtain ⟨i0, hi, hz0, hz1, hz2⟩ := info_parts info68
        have happ : ∃ w2, (Builtin.append_ #[63, 63] 63 #[.slice (some ⟨g, 0, none⟩) gi cap, .slice (if cap = gi + 1 then some ⟨g, 0, none⟩ else some ⟨g, gi + 1, none⟩) (k - (gi + 1)) (cap - (gi + 1))]).run Yba.prog (ext (w.alloc (timeObj T)) x).drew = .ok (.slice (some ⟨g, 0, none⟩) (gi + (k - (gi + 1))) cap) w2 ∧
            w2.ownsRow base 68 1 (.slice (some ⟨g, 0, none⟩) (gi + (k - (gi + 1))) cap) (gi + (k - (gi + 1))) (ps.take gi ++ ps.drop (gi + 1)) ∧ (ext (w.alloc (timeObj T)) x).drew.grownBy w2 (some g) := by
          by_cases hce : cap = gi + 1
          · rw [if_pos hce]
            exact run_append_fits (P := Yba.prog) (ext (w.alloc (timeObj T)) x).drew base 63 63 68 i0 1 Yba.underlying63 hi hz1 g gi cap (ps.take gi) (HO.out gi (by omega) x) ⟨g, 0, none⟩ (k - (gi + 1)) (cap - (gi + 1)) (ps.drop (gi + 1)) (by simp; omega) (by intro j u hu; rw [List.drop_of_length_le (by omega)] at hu; cases hu) (by intro u hu; exact HP.out u (List.mem_of_mem_drop hu)) (by omega)
          · rw [if_neg hce]
            exact run_append_fits (P := Yba.prog) (ext (w.alloc (timeObj T)) x).drew base 63 63 68 i0 1 Yba.underlying63 hi hz1 g gi cap (ps.take gi) (HO.out gi (by omega) x) ⟨g, gi + 1, none⟩ (k - (gi + 1)) (cap - (gi + 1)) (ps.drop (gi + 1)) (by simp; omega) (HD.out gi (by omega) x) (by intro u hu; exact HP.out u (List.mem_of_mem_drop hu)) (by omega)
        obtain ⟨w2, hrun, hown2, hgr⟩ := happ
        have HR : Hid (w2.ownsRow base 68 1 (.slice (some ⟨g, 0, none⟩) (gi + (k - (gi + 1))) cap) (gi + (k - (gi + 1))) (ps.take gi ++ ps.drop (gi + 1)) ∧ (ext (w.alloc (timeObj T)) x).drew.grownBy w2 (some g)) := hid ⟨hown2, hgr⟩
        have HU := hid hrun
        clear hown2 hgr hrun
        have c5' : w2.cell? ⟨bc, 5, none⟩ = some (.slice (some ⟨g, 0, none⟩) k cap) := HR.out.2.cell (d5 x) (by simpa using hbg)
        have f5' : w2.frozen? ⟨bc, 5, none⟩ = false := (World.frozen?_of_block (a := ⟨bc, 5, none⟩) (HR.out.2.block bc (cell_lt (d5 x)) (by simpa using hbg))).trans (HF.out x)
        have hwr : IntKind.i64.wrap ((gi : Int) + 1) = (gi : Int) + 1 := by rw [IntKind.wrap_i64]; omega
        have hp0 : (0 : Int) ≤ (gi : Int) + 1 := by omega
        have hp1 : (gi : Int) + 1 ≤ (k : Int) := by omega
        have hp2 : ((gi : Int) + 1).toNat = gi + 1 := by omega
        go_wp2_with fail
        go_region_law (refine step_append_run rfl (.tmp 64) (.tmp 71) 63 rfl _ _ _ (by simp [Act.eval, Act.put]) (by simp [Act.eval, Act.put]) HU.out ?_)
        all_goals
          go_wp2
          all_goals
            go_ret
            refine .inr ⟨gi, w2, by omega, hg2, HM.out, rfl, ?_, ?_, ?_⟩
            · have h := HR.out.1
              rw [show gi + (k - (gi + 1)) = k - 1 by omega, ← List.eraseIdx_eq_take_drop_succ] at h
              first | exact h | (simp only [*] at h ⊢; exact h)
            · exact ((KeptS.refl.alloc _).ext x).trans ⟨HR.out.2.os, HR.out.2.tape, HR.out.2.output, HR.out.2.size, fun b hb hs => HR.out.2.block b hb (by simpa using hs)⟩
            · rw [show gi + (k - (gi + 1)) = k - 1 by omega]
end Go.Proofs.Ybulkalfo
