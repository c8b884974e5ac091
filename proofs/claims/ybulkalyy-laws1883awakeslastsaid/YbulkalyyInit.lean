import Derived.Test.YbulkalyyWake
import Derived.Test.YbulkalyyWorlds
import Derived.Deep.OwnRows
import Derived.RegionTactic
import Derived.Conc.SmallLaws
namespace Go.Proofs.Ybulkalyy
open Go.ChangeShapes Go.WideShapes Go.ChangeAt Go.RowKit Go.Conc

theorem info39 : ∃ i z, Yba.prog.info? 39 = some i ∧ i.zero = some z ∧ i.size = 1 ∧ i.bytes = 8 := by
  have h : (Yba.prog.info? 39).map (fun i => (i.zero, i.size, i.bytes)) = some (some (.agg #[.int .u64 0]), 1, 8) := by kernel_rfl
  obtain ⟨i, hi, hz⟩ := Option.map_eq_some_iff.1 h
  simp only [Prod.mk.injEq] at hz
  exact ⟨i, _, hi, hz.1, hz.2.1, hz.2.2⟩
/-- make of the waiters' marks: a new row, whatever lies in it. -/
theorem make39 (n : Nat) (hn : n ≤ 1000) : ∃ X : Array Value, ∀ w, (Instr.makeSlice 32 (.int .i64 (n : Int)) (.int .i64 (n : Int))).run Yba.prog w = .ok (.slice (some ⟨w.heap.size, 0, none⟩) n n) (w.alloc (.cells X 39)) := by
  obtain ⟨i, z, hi, hz, hs, hb⟩ := info39
  refine ⟨madeCells z.cells (n * i.size), fun w => ?_⟩
  have := run_make (P := Yba.prog) w 32 39 i z Yba.underlying32 hi hz .i64 .i64 (n : Int) (n : Int) (by omega) (by omega) (by rw [hb]; omega) (by omega)
  simpa using this
theorem bytesOf (t : TypeId) (h : ((Yba.prog.info? t).map (fun i => decide (i.bytes ≤ 8))) = some true) : ∃ i, Yba.prog.info? t = some i ∧ i.bytes ≤ 8 := by
  obtain ⟨i, hi, hb⟩ := Option.map_eq_some_iff.1 h
  exact ⟨i, hi, of_decide_eq_true hb⟩
theorem chan49 (w : World) : (Instr.makeChan 49 (.int .i64 1)).run Yba.prog w = .ok (.chan (some w.heap.size)) (w.alloc (.chan 1 #[] false 0 0 false)) := by
  obtain ⟨i, hi, hb⟩ := bytesOf 27 (by kernel_rfl)
  simpa using run_makeChan (P := Yba.prog) (w := w) Yba.underlying49 hi .i64 1 (by omega) (by omega)
theorem chan54 (w : World) : (Instr.makeChan 54 (.int .i64 1)).run Yba.prog w = .ok (.chan (some w.heap.size)) (w.alloc (.chan 1 #[] false 0 0 false)) := by
  obtain ⟨i, hi, hb⟩ := bytesOf 52 (by kernel_rfl)
  simpa using run_makeChan (P := Yba.prog) (w := w) Yba.underlying54 hi .i64 1 (by omega) (by omega)

theorem made_get (z : Value) (n i : Nat) (h : i < n) : (madeCells #[z] n)[i]? = some z := by
  simp [madeCells, h, Nat.mod_one]
theorem Kept.cell {m : Nat} {w w' : World} (h : Kept m w w') {b : Nat} (hb : b < w.heap.size) (hm : b ≠ m) (o : Nat) : w'.cell? ⟨b, o, none⟩ = w.cell? ⟨b, o, none⟩ :=
  World.cell?_of_block (w := w) (a := ⟨b, o, none⟩) (h.block b hb hm)
theorem Kept.frozen {m : Nat} {w w' : World} (h : Kept m w w') {b : Nat} (hb : b < w.heap.size) (hm : b ≠ m) (o : Nat) : w'.frozen? ⟨b, o, none⟩ = w.frozen? ⟨b, o, none⟩ :=
  World.frozen?_of_block (w := w) (a := ⟨b, o, none⟩) (h.block b hb hm)

/-- What stands at the head of a round of the turns' second loop. -/
structure IInv (w wr : World) (cb chb m : Nat) : Prop where
  kept : Kept cb w wr
  hi : ∀ o, 6 ≤ o → wr.cell? ⟨cb, o, none⟩ = w.cell? ⟨cb, o, none⟩
  fz : ∀ o, wr.frozen? ⟨cb, o, none⟩ = false
  c4 : wr.cell? ⟨cb, 4, none⟩ = some (.slice (some ⟨chb, 0, none⟩) m m)
  c5 : ∃ v, wr.cell? ⟨cb, 5, none⟩ = some v
  row : ∀ i, i < m → ∃ v, wr.cell? ⟨chb, i, none⟩ = some v
  rfz : ∀ o, wr.frozen? ⟨chb, o, none⟩ = false
  old : w.heap.size ≤ chb
  zc : chb < wr.heap.size
  zb : cb < w.heap.size

theorem cell_keep {w : World} {b o : Nat} {v : Value} {x : Obj} (h : w.cell? ⟨b, o, none⟩ = some v) (hb : b < w.heap.size) : (w.alloc x).cell? ⟨b, o, none⟩ = some v := by
  rw [World.cell?_alloc_past _ _ _ hb]; exact h
theorem frozen_keep {w : World} {b o : Nat} {x : Obj} (hb : b < w.heap.size) : (w.alloc x).frozen? ⟨b, o, none⟩ = w.frozen? ⟨b, o, none⟩ :=
  World.frozen?_of_block (w := w) (a := ⟨b, o, none⟩) (Below.heap_alloc _ _ _ hb)
theorem frozen_set (w : World) (a p : Addr) (v : Value) : (w.setCell a v).frozen? p = w.frozen? p := by simp

/-- A round: a new channel, laid into the row. -/
theorem IInv.step {w wr : World} {cb chb m k : Nat} (h : IInv w wr cb chb m) (x : Obj) (v : Value) : IInv w ((wr.alloc x).setCell ⟨chb, k, none⟩ v) cb chb m := by
  have hz := h.zc
  have hb := h.zb
  have ho := h.old
  have hsz := h.kept.size
  have kc : ∀ o, ((wr.alloc x).setCell ⟨chb, k, none⟩ v).cell? ⟨cb, o, none⟩ = wr.cell? ⟨cb, o, none⟩ := by
    intro o
    rw [World.cell?_setCell_other _ _ _ _ (by intro e; have := congrArg Addr.block e; simp at this; omega), World.cell?_alloc_past _ _ _ (by omega)]
  refine ⟨(h.kept.alloc x).setNew ho _ _, fun o hO => (kc o).trans (h.hi o hO), fun o => ?_, (kc 4).trans h.c4, ?_, ?_, fun o => ?_, ho, by simp [World.setCell]; omega, hb⟩
  · rw [frozen_set, frozen_keep (by omega)]; exact h.fz o
  · obtain ⟨v5, h5⟩ := h.c5; exact ⟨v5, (kc 5).trans h5⟩
  · intro i hi
    obtain ⟨u, hu⟩ := h.row i hi
    by_cases e : k = i
    · subst e; exact ⟨v, cell_hit (cell_keep hu hz) _⟩
    · exact ⟨u, cell_skip (cell_keep hu hz) e _⟩
  · rw [frozen_set, frozen_keep hz]; exact h.rfz o
theorem IInv.drew {w wr : World} {cb chb m : Nat} (h : IInv w wr cb chb m) : IInv w wr.drew cb chb m :=
  ⟨h.kept.drew, h.hi, h.fz, h.c4, h.c5, h.row, h.rfz, h.old, h.zc, h.zb⟩

set_option maxHeartbeats 800000 in
theorem init_any (cb n : Nat) (w : World) (v0 v3 v4 v5 : Value) (hn : n ≤ 16) (hcb : cb < w.heap.size) (c0 : w.cell? ⟨cb, 0, none⟩ = some v0) (c3 : w.cell? ⟨cb, 3, none⟩ = some v3) (c4 : w.cell? ⟨cb, 4, none⟩ = some v4) (c5 : w.cell? ⟨cb, 5, none⟩ = some v5)
    (fz : ∀ o, w.frozen? ⟨cb, o, none⟩ = false) :
    Calls Yba.prog 6 #[.pointer (some ⟨cb, 0, none⟩), .int .i64 n, .pointer (some ⟨cb, 6, none⟩)] w fun e w' => e = .returned (.tuple #[]) ∧
      (Kept cb w w' ∧ (∀ o, 6 ≤ o → w'.cell? ⟨cb, o, none⟩ = w.cell? ⟨cb, o, none⟩) ∧ ∀ o, w'.frozen? ⟨cb, o, none⟩ = false) := by
  have f0 := fz 0
  have f3 := fz 3
  have f4 := fz 4
  have f5 := fz 5
  have FZ := Hid.mk' fz
  clear fz
  go_enter Yba.func6, Yba.ntmps6
  go_wp2
  go_loop [6] (fun x => ∃ m : Nat, 1 ≤ m ∧ m ≤ 31 ∧ x = .int .i64 m) (fun x => 32 - (intOf x).toNat)
  case atStart => exact ⟨1, by omega, by omega, rfl⟩
  case round =>
    obtain ⟨m, hm1, hm2, rfl⟩ := hrel
    by_cases hlt : m < n
    · go_wp2
      go_round
      case rel => exact ⟨m * 2, by omega, by omega, by go_num⟩
      case measure => simp [intOf]; omega
    · obtain ⟨X, hX⟩ := make39 m (by omega)
      have hmk := run_make_row' (P := Yba.prog) 33 49 (.chan none) 8 Yba.underlying33 (by kernel_rfl) rfl .i64 .i64 m (by omega) (by omega)
      have hcbn : ¬ cb = w.heap.size := by omega
      go_wp2
      have HI : Hid (IInv w (((((w.setCell ⟨cb, 0, none⟩ (.pointer (some ⟨cb, 6, none⟩))).setCell ⟨cb, 3, none⟩ (.slice (some ⟨w.heap.size, 0, none⟩) m m)).setCell ⟨cb, 4, none⟩ (.slice (some ⟨w.heap.size + 1, 0, none⟩) m m)).alloc (.cells X 39)).alloc (.cells (madeCells #[.chan none] m) 49)) cb (w.heap.size + 1) m) := by
        have hrow := heap_alloc_at (w := (((w.setCell ⟨cb, 0, none⟩ (.pointer (some ⟨cb, 6, none⟩))).setCell ⟨cb, 3, none⟩ (.slice (some ⟨w.heap.size, 0, none⟩) m m)).setCell ⟨cb, 4, none⟩ (.slice (some ⟨w.heap.size + 1, 0, none⟩) m m)).alloc (.cells X 39)) (k := w.heap.size + 1) (o := .cells (madeCells #[.chan none] m) 49) (by simp [World.setCell])
        have zz : cb < (((w.setCell ⟨cb, 0, none⟩ (.pointer (some ⟨cb, 6, none⟩))).setCell ⟨cb, 3, none⟩ (.slice (some ⟨w.heap.size, 0, none⟩) m m)).setCell ⟨cb, 4, none⟩ (.slice (some ⟨w.heap.size + 1, 0, none⟩) m m)).heap.size := by simpa [World.setCell] using hcb
        have zz2 : cb < ((((w.setCell ⟨cb, 0, none⟩ (.pointer (some ⟨cb, 6, none⟩))).setCell ⟨cb, 3, none⟩ (.slice (some ⟨w.heap.size, 0, none⟩) m m)).setCell ⟨cb, 4, none⟩ (.slice (some ⟨w.heap.size + 1, 0, none⟩) m m)).alloc (.cells X 39)).heap.size := by simp [World.setCell]; omega
        refine ⟨(((((Kept.refl _ _).setCell _ _).setCell _ _).setCell _ _).alloc _).alloc _, fun o ho => ?_, fun o => ?_, ?_, ?_, fun i hi => ⟨_, cell_by hrow (made_get _ _ _ hi)⟩, fun o => frozen_of hrow o, by omega, by simp [World.setCell], hcb⟩
        · rw [World.cell?_alloc_past _ _ _ zz2, World.cell?_alloc_past _ _ _ zz, World.cell?_setCell_other _ ⟨cb, 4, none⟩ ⟨cb, o, none⟩ _ (fun e => by have := congrArg Addr.off e; simp at this; omega), World.cell?_setCell_other _ ⟨cb, 3, none⟩ ⟨cb, o, none⟩ _ (fun e => by have := congrArg Addr.off e; simp at this; omega), World.cell?_setCell_other _ ⟨cb, 0, none⟩ ⟨cb, o, none⟩ _ (fun e => by have := congrArg Addr.off e; simp at this; omega)]
        · rw [frozen_keep zz2, frozen_keep zz, frozen_set, frozen_set, frozen_set]; exact FZ.out o
        · exact cell_keep (cell_keep (cell_hit (cell_skip (cell_skip c4 (by decide) _) (by decide) _) _) zz) zz2
        · exact ⟨v5, cell_keep (cell_keep (cell_skip (cell_skip (cell_skip c5 (by decide) _) (by decide) _) (by decide) _) zz) zz2⟩
      generalize (((((w.setCell ⟨cb, 0, none⟩ (.pointer (some ⟨cb, 6, none⟩))).setCell ⟨cb, 3, none⟩ (.slice (some ⟨w.heap.size, 0, none⟩) m m)).setCell ⟨cb, 4, none⟩ (.slice (some ⟨w.heap.size + 1, 0, none⟩) m m)).alloc (.cells X 39)).alloc (.cells (madeCells #[.chan none] m) 49)) = w2 at HI ⊢
      generalize w.heap.size + 1 = chb at HI ⊢
      clear hX hmk c0 c3 c4 c5 f0 f3 f4 f5
      go_loopw [32] (fun i wr => ∃ k : Nat, k ≤ m ∧ i = .int .i64 k ∧ Hid (IInv w wr cb chb m)) (fun i _ => m - (intOf i).toNat)
      case atStart => exact ⟨0, Nat.zero_le _, rfl, HI⟩
      case round =>
        clear HI
        obtain ⟨k, hk, rfl, HI⟩ := hrel
        have hch := chan49
        have c4 := HI.out.c4
        have zb : cb < wr.heap.size := by have := HI.out.zb; have := HI.out.kept.size; omega
        have zc := HI.out.zc
        by_cases hlt2 : k < m
        · obtain ⟨v, hv⟩ := HI.out.row k hlt2
          have fr := HI.out.rfz k
          have n1 : ¬ cb = wr.heap.size := by omega
          have n2 : ¬ chb = wr.heap.size := by omega
          go_wp2
          go_region
          go_wp2
          go_roundw
          case rel => exact ⟨k + 1, by omega, by go_num, Hid.mk' (by have hst := HI.out.step (k := k) (.chan 1 #[] false 0 0 false) (.chan (some wr.heap.size)); rw [World.setCell_alloc_past _ _ _ _ zc] at hst; exact hst.drew)⟩
          case measure => simp [intOf]; omega
        · have f5 := HI.out.fz 5
          obtain ⟨u5, h5⟩ := HI.out.c5
          go_wp2
          go_end0
          refine ⟨rfl, HI.out.kept.setCell _ _, fun o ho => ?_, fun o => by rw [frozen_set]; exact HI.out.fz o⟩
          rw [World.cell?_setCell_other _ ⟨cb, 5, none⟩ ⟨cb, o, none⟩ _ (fun e => by have := congrArg Addr.off e; simp at this; omega)]
          exact HI.out.hi o ho
end Go.Proofs.Ybulkalyy
