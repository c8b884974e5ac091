import Derived.Test.YbulkalyyInit
import Derived.Deep.DeepCutAuto
import Derived.Deep.RegionWith
namespace Go.Proofs.Ybulkalyy
open Go.ChangeShapes Go.WideShapes Go.ChangeAt Go.RowKit Go.Conc

theorem info3 : ∃ i, Yba.prog.info? 3 = some i ∧ i.zero = some (.int .i64 0) ∧ i.size = 1 ∧ i.bytes = 8 := by
  have h : (Yba.prog.info? 3).map (fun i => (i.zero, i.size, i.bytes)) = some (some (.int .i64 0), 1, 8) := by kernel_rfl
  obtain ⟨i, hi, hz⟩ := Option.map_eq_some_iff.1 h
  simp only [Prod.mk.injEq] at hz
  exact ⟨i, hi, hz.1, hz.2.1, hz.2.2⟩
/-- make([]int, 0, n) -/
theorem make0 (n : Nat) (hn : n ≤ 1000) (w : World) : (Instr.makeSlice 25 (.int .i64 0) (.int .i64 (n : Int))).run Yba.prog w = .ok (.slice (some ⟨w.heap.size, 0, none⟩) 0 n) (w.alloc (.cells (madeCells #[.int .i64 0] n) 3)) := by
  obtain ⟨i, hi, hz, hs, hb⟩ := info3
  have := run_make (P := Yba.prog) w 25 3 i _ Yba.underlying25 hi hz .i64 .i64 0 (n : Int) (by omega) (by omega) (by rw [hb]; omega) (by omega)
  simpa [hs, Value.cells] using this

/-- A crew's block as newCrew lays it. -/
abbrev crewObj (bb ib wb rb n : Nat) : Obj := .cells #[.pointer none, .int .u32 0, .int .u32 0, .slice none 0 0, .slice none 0 0, .int .u32 0, .int .u64 0, .int .u32 0, .int .i32 0, .int .u32 0, .bool false, .slice (some ⟨bb, 0, none⟩) n n, .int .i64 0, .int .i64 0, .slice (some ⟨ib, 0, none⟩) 0 n, .slice (some ⟨wb, 0, none⟩) n n, .bool false, .chan (some rb)] 51

/-- The crew's memory, the channels not yet made. -/
structure CrewNew (w wc : World) (cb ib wb n : Nat) : Prop where
  below : Below w.heap.size w wc
  e0 : ∃ v, wc.cell? ⟨cb, 0, none⟩ = some v
  e3 : ∃ v, wc.cell? ⟨cb, 3, none⟩ = some v
  e4 : ∃ v, wc.cell? ⟨cb, 4, none⟩ = some v
  e5 : ∃ v, wc.cell? ⟨cb, 5, none⟩ = some v
  c14 : wc.cell? ⟨cb, 14, none⟩ = some (.slice (some ⟨ib, 0, none⟩) 0 n)
  c15 : wc.cell? ⟨cb, 15, none⟩ = some (.slice (some ⟨wb, 0, none⟩) n n)
  fz : ∀ o, wc.frozen? ⟨cb, o, none⟩ = false
  idle : wc.heap[ib]? = some (.cells (madeCells #[.int .i64 0] n) 3)
  wake : wc.heap[wb]? = some (.cells (madeCells #[.chan none] n) 54)
  oc : w.heap.size ≤ cb
  oi : w.heap.size ≤ ib
  ow : w.heap.size ≤ wb
  zc : cb < wc.heap.size
  nci : cb ≠ ib
  ncw : cb ≠ wb
  niw : ib ≠ wb

theorem crewNew_of {w W4 : World} {cb bb ib wb rb n : Nat} (hbel : Below w.heap.size w W4) (hi : W4.heap[ib]? = some (.cells (madeCells #[.int .i64 0] n) 3)) (hw : W4.heap[wb]? = some (.cells (madeCells #[.chan none] n) 54))
    (oi : w.heap.size ≤ ib) (ow : w.heap.size ≤ wb) (hne : ib ≠ wb) (hcb : cb = W4.heap.size) : CrewNew w (W4.alloc (crewObj bb ib wb rb n)).drew cb ib wb n := by
  subst hcb
  have h := heap_alloc_new W4 (crewObj bb ib wb rb n)
  have zi := lt_of hi
  have zw := lt_of hw
  have hz := hbel.size
  exact ⟨(hbel.alloc hz _).drew, ⟨_, cell_by h rfl⟩, ⟨_, cell_by h rfl⟩, ⟨_, cell_by h rfl⟩, ⟨_, cell_by h rfl⟩, cell_by h rfl, cell_by h rfl, fun o => frozen_of h o, heap_alloc_old hi, heap_alloc_old hw, hz, oi, ow, lt_of h, by omega, by omega, hne⟩

/-- What stands at the head of a round of newCrew's loop: k channels are made. -/
structure NInv (w wr : World) (cb ib wb n k : Nat) (ch : Nat → Nat) : Prop where
  below : Below w.heap.size w wr
  c14 : wr.cell? ⟨cb, 14, none⟩ = some (.slice (some ⟨ib, 0, none⟩) 0 n)
  c15 : wr.cell? ⟨cb, 15, none⟩ = some (.slice (some ⟨wb, 0, none⟩) n n)
  fz : ∀ o, wr.frozen? ⟨cb, o, none⟩ = false
  idle : wr.heap[ib]? = some (.cells (madeCells #[.int .i64 0] n) 3)
  row : ∀ i, i < n → ∃ v, wr.cell? ⟨wb, i, none⟩ = some v
  wfz : ∀ o, wr.frozen? ⟨wb, o, none⟩ = false
  chan : ∀ i, i < k → wr.cell? ⟨wb, i, none⟩ = some (.chan (some (ch i))) ∧ wr.heap[ch i]? = some (.chan 1 #[] false 0 0 false) ∧ w.heap.size ≤ ch i
  inj : ∀ i j, i < k → j < k → ch i = ch j → i = j
  oc : w.heap.size ≤ cb
  oi : w.heap.size ≤ ib
  ow : w.heap.size ≤ wb
  zc : cb < wr.heap.size
  zw : wb < wr.heap.size
  nci : cb ≠ ib
  ncw : cb ≠ wb
  niw : ib ≠ wb

theorem NInv.start {w wc w1 : World} {cb ib wb n : Nat} (h : CrewNew w wc cb ib wb n) (hk : Kept cb wc w1) (hc : ∀ o, 6 ≤ o → w1.cell? ⟨cb, o, none⟩ = wc.cell? ⟨cb, o, none⟩) (hf : ∀ o, w1.frozen? ⟨cb, o, none⟩ = false) : NInv w w1 cb ib wb n 0 (fun _ => 0) := by
  have zi := lt_of h.idle
  have zw := lt_of h.wake
  have hi := (hk.block ib zi (Ne.symm h.nci)).trans h.idle
  have hw := (hk.block wb zw (Ne.symm h.ncw)).trans h.wake
  have hs := h.below.size
  exact ⟨Kept.below h.below hk hs h.oc, (hc 14 (by omega)).trans h.c14, (hc 15 (by omega)).trans h.c15, hf, hi, fun i hi' => ⟨_, cell_by hw (made_get _ _ _ hi')⟩, fun o => frozen_of hw o, fun i hi' => by omega, fun i j hi' => by omega, h.oc, h.oi, h.ow, by have := h.zc; have := hk.size; omega, lt_of hw, h.nci, h.ncw, h.niw⟩

theorem NInv.drew {w wr : World} {cb ib wb n k : Nat} {ch : Nat → Nat} (h : NInv w wr cb ib wb n k ch) : NInv w wr.drew cb ib wb n k ch :=
  ⟨h.below.drew, h.c14, h.c15, h.fz, h.idle, h.row, h.wfz, h.chan, h.inj, h.oc, h.oi, h.ow, h.zc, h.zw, h.nci, h.ncw, h.niw⟩

theorem NInv.step {w wr : World} {cb ib wb n k : Nat} {ch : Nat → Nat} (h : NInv w wr cb ib wb n k ch) (hk : k < n) :
    NInv w ((wr.alloc (.chan 1 #[] false 0 0 false)).setCell ⟨wb, k, none⟩ (.chan (some wr.heap.size))) cb ib wb n (k + 1) (fun i => if i = k then wr.heap.size else ch i) := by
  have zc := h.zc
  have zw := h.zw
  have hs := h.below.size
  have zi := lt_of h.idle
  have kc : ∀ o, ((wr.alloc (.chan 1 #[] false 0 0 false)).setCell ⟨wb, k, none⟩ (.chan (some wr.heap.size))).cell? ⟨cb, o, none⟩ = wr.cell? ⟨cb, o, none⟩ := by
    intro o
    rw [World.cell?_setCell_other _ _ _ _ (fun e => h.ncw (congrArg Addr.block e).symm), World.cell?_alloc_past _ _ _ zc]
  have old : ∀ b, b ≠ wb → b < wr.heap.size → ((wr.alloc (.chan 1 #[] false 0 0 false)).setCell ⟨wb, k, none⟩ (.chan (some wr.heap.size))).heap[b]? = wr.heap[b]? := by
    intro b hb hz
    rw [Below.heap_setCell _ _ _ _ hb, Below.heap_alloc _ _ _ hz]
  have notwb : ∀ i, i < k → ch i ≠ wb := by
    intro i hi e
    obtain ⟨_, h2, _⟩ := h.chan i hi
    obtain ⟨v, hv⟩ := h.row k hk
    rw [e] at h2
    simp [World.cell?, h2] at hv
  refine ⟨(h.below.alloc hs _).setCell h.ow _, (kc 14).trans h.c14, (kc 15).trans h.c15, fun o => ?_, (old ib h.niw zi).trans h.idle, ?_, fun o => ?_, ?_, ?_, h.oc, h.oi, h.ow, by simp [World.setCell]; omega, by simp [World.setCell]; omega, h.nci, h.ncw, h.niw⟩
  · rw [frozen_set, frozen_keep zc]; exact h.fz o
  · intro i hi
    obtain ⟨u, hu⟩ := h.row i hi
    by_cases e : k = i
    · subst e; exact ⟨_, cell_hit (cell_keep hu zw) _⟩
    · exact ⟨u, cell_skip (cell_keep hu zw) e _⟩
  · rw [frozen_set, frozen_keep zw]; exact h.wfz o
  · intro i hi
    by_cases e : i = k
    · subst e
      obtain ⟨u, hu⟩ := h.row i hk
      refine ⟨by simp; exact cell_hit (cell_keep hu zw) _, ?_, by simp; omega⟩
      simp only [if_true]
      rw [Below.heap_setCell _ _ _ _ (by simp; omega)]
      exact heap_alloc_new wr _
    · obtain ⟨h1, h2, h3⟩ := h.chan i (by omega)
      simp only [if_neg e]
      exact ⟨cell_skip (cell_keep h1 zw) (fun e' => e e'.symm) _, (old _ (notwb i (by omega)) (lt_of h2)).trans h2, h3⟩
  · intro i j hi hj e
    by_cases ei : i = k
    · by_cases ej : j = k
      · omega
      · simp only [if_pos ei, if_neg ej] at e
        have := lt_of (h.chan j (by omega)).2.1
        omega
    · by_cases ej : j = k
      · simp only [if_neg ei, if_pos ej] at e
        have := lt_of (h.chan i (by omega)).2.1
        omega
      · simp only [if_neg ei, if_neg ej] at e
        exact h.inj i j (by omega) (by omega) e

set_option maxHeartbeats 1600000 in
theorem new_any (n : Nat) (w : World) (hn1 : 1 ≤ n) (hn : n ≤ 16) :
    Calls Yba.prog 4 #[.int .i64 n] w fun e w' => ∃ (cb ib wb : Nat) (ch : Nat → Nat), e = .returned (.pointer (some ⟨cb, 0, none⟩)) ∧ NInv w w' cb ib wb n n ch := by
  have hm1 := run_make_row' (P := Yba.prog) 25 3 (.int .i64 0) 8 Yba.underlying25 (by kernel_rfl) rfl .i64 .i64 n (by omega) (by omega)
  have hm2 := make0 n (by omega)
  have hm3 := run_make_row' (P := Yba.prog) 48 54 (.chan none) 8 Yba.underlying48 (by kernel_rfl) rfl .i64 .i64 n (by omega) (by omega)
  have hch := chan49
  go_enter Yba.func4, Yba.ntmps4
  go_wp2
  go_cut [3] (fun v wc => ∃ cb ib wb : Nat, v = .pointer (some ⟨cb, 0, none⟩) ∧ Hid (CrewNew w wc cb ib wb n))
  case first =>
    go_region
    all_goals
      go_wp2
      go_meet
      case rel =>
        refine ⟨_, _, _, rfl, Hid.mk' (crewNew_of ?_ ?_ ?_ ?_ ?_ ?_ ?_)⟩
        · exact ((((Below.refl _ _).alloc (Nat.le_refl _) _).alloc (by simp) _).alloc (by simp; omega) _).alloc (by simp; omega) _
        · first | (apply heap_alloc_at; simp; done) | (apply heap_alloc_old; apply heap_alloc_at; simp; done) | (apply heap_alloc_old; apply heap_alloc_old; apply heap_alloc_at; simp; done) | (apply heap_alloc_old; apply heap_alloc_old; apply heap_alloc_old; apply heap_alloc_at; simp; done)
        · first | (apply heap_alloc_at; simp; done) | (apply heap_alloc_old; apply heap_alloc_at; simp; done) | (apply heap_alloc_old; apply heap_alloc_old; apply heap_alloc_at; simp; done) | (apply heap_alloc_old; apply heap_alloc_old; apply heap_alloc_old; apply heap_alloc_at; simp; done)
        · omega
        · omega
        · omega
        · simp
  case rest =>
    obtain ⟨cb, ib, wb, rfl, HC⟩ := hcut
    clear hm1 hm2 hm3 hch
    obtain ⟨x0, e0⟩ := HC.out.e0
    obtain ⟨x3, e3⟩ := HC.out.e3
    obtain ⟨x4, e4⟩ := HC.out.e4
    obtain ⟨x5, e5⟩ := HC.out.e5
    have E4 := Hid.mk' (And.intro e0 (And.intro e3 (And.intro e4 e5)))
    clear e0 e3 e4 e5
    go_wp2
    go_region_with (go_at_call 6; refine (init_any cb n _ x0 x3 x4 x5 hn ?_ ?_ ?_ ?_ ?_ ?_).mono ?_; exact HC.out.zc; exact E4.out.1; exact E4.out.2.1; exact E4.out.2.2.1; exact E4.out.2.2.2; exact HC.out.fz; rintro e w1 ⟨rfl, hk1, hc1, hf1⟩)
    have HN : Hid (NInv w w1 cb ib wb n 0 (fun _ => 0)) := Hid.mk' (NInv.start HC.out ⟨hk1.os, hk1.tape, hk1.output, hk1.size, hk1.block⟩ hc1 hf1)
    clear hk1 hc1 hf1 E4 HC
    have c15 := HN.out.c15
    go_wp2
    go_loopw [28] (fun i wr => ∃ (k : Nat) (ch : Nat → Nat), k ≤ n ∧ i = .int .i64 k ∧ Hid (NInv w wr cb ib wb n k ch)) (fun i _ => n - (intOf i).toNat)
    case atStart => exact ⟨0, _, Nat.zero_le _, rfl, HN⟩
    case round =>
      clear HN c15
      obtain ⟨k, ch, hk, rfl, HN⟩ := hrel
      have hch := chan54
      have c15 := HN.out.c15
      have zb := HN.out.zc
      have zc := HN.out.zw
      by_cases hlt2 : k < n
      · obtain ⟨v, hv⟩ := HN.out.row k hlt2
        have fr := HN.out.wfz k
        have n1 : ¬ cb = wr.heap.size := by omega
        have n2 : ¬ wb = wr.heap.size := by omega
        go_wp2
        go_region
        go_wp2
        go_roundw
        case rel => exact ⟨k + 1, _, by omega, by go_num, Hid.mk' (by have hst := HN.out.step hlt2; rw [World.setCell_alloc_past _ _ _ _ zc] at hst; exact hst.drew)⟩
        case measure => simp [intOf]; omega
      · have hkn : k = n := by omega
        go_wp2
        go_ret
        exact ⟨cb, ib, wb, ch, rfl, by rw [← hkn] at HN ⊢; exact HN.out⟩
end Go.Proofs.Ybulkalyy
