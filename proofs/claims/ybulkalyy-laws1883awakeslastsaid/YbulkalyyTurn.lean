import Derived.Test.YbulkalyyInv
namespace Go.Proofs.Ybulkalyy
open Go.ChangeShapes Go.WideShapes Go.ChangeAt Go.RowKit Go.Conc

section
variable {w wr : World} {cb wb m g n len q k cap : Nat} {ch js : Nat → Nat} {buf : Nat → Array Value}
theorem jsCells_take (js : Nat → Nat) (k : Nat) : (jsCells js (k + 1)).take k = jsCells js k := by
  rw [jsCells_succ, List.take_append_of_le_length (by rw [jsCells_len]; exact Nat.le_refl _), List.take_of_length_le (by rw [jsCells_len]; exact Nat.le_refl _)]

/-- The idle row's own cells. -/
theorem LInv.idle (h : LInv w wr cb wb m g n len q k cap ch js buf) {i : Nat} (hi : i < k) : wr.cell? ⟨g, i, none⟩ = some (.int .i64 (js i)) := by
  rcases h.own.2 with ⟨e, _⟩ | ⟨g', cap', cur, e, _, hh, _, _, _, htk⟩
  · cases e
  · cases e
    refine cell_by hh ?_
    have h1 := jsCells_get js k i hi
    rw [← htk, List.getElem?_take_of_lt (by omega)] at h1
    simpa using h1

/-- The last of the idle list is taken off. -/
theorem LInv.pop (h : LInv w wr cb wb m g n len q (k + 1) cap ch js buf) : LInv w (wr.setCell ⟨cb, 14, none⟩ (.slice (some ⟨g, 0, none⟩) k cap)) cb wb m g n len q k cap ch js buf := by
  have hsetk : wr.grownBy (wr.setCell ⟨cb, 14, none⟩ (.slice (some ⟨g, 0, none⟩) k cap)) (some cb) := ⟨rfl, rfl, rfl, by simp [World.setCell], fun j _ hj => Below.heap_setCell _ _ _ _ (by simpa using hj)⟩
  have hown : wr.ownsRow w.heap.size 3 1 (.slice (some ⟨g, 0, none⟩) k cap) k (jsCells js k) := by
    rcases h.own.2 with ⟨e, _⟩ | ⟨g', cap', cur, e, hb, hh, hn, hm, hs, htk⟩
    · cases e
    · cases e
      refine ⟨by rw [jsCells_len]; omega, .inr ⟨g, cap, cur, rfl, hb, hh, by omega, hm, hs, ?_⟩⟩
      rw [← jsCells_take, ← htk, List.take_take]
      congr 1
      omega
  refine ⟨h.below.setCell h.oc _, cell_hit h.c14 _, cell_skip h.c15 (by decide) _, fun o => by rw [frozen_set]; exact h.fz o, hown.kept hsetk (.inr (by simpa [Value.ownBlock] using Ne.symm h.ncg)), fun i hi => cell_skipb (h.wake i hi) h.ncw _, fun i hi => ?_, h.inj, fun i hi => cell_skipb (h.want i hi) h.ncm _, fun i hi => ?_, fun o => by rw [frozen_set]; exact h.mfz o,
    h.oc, h.ow, h.om, h.oh, by simpa [World.setCell] using h.zc, by simpa [World.setCell] using h.zw, by simpa [World.setCell] using h.zm, h.ncg, h.nwg, h.nmg, h.ncw, h.ncm, h.nwm⟩
  · obtain ⟨s, r, hc⟩ := h.chan i hi
    exact ⟨s, r, by rw [Below.heap_setCell _ _ _ _ (by simpa using Ne.symm (chan_not_cells hc h.c14))]; exact hc⟩
  · obtain ⟨v, hv⟩ := h.row i hi
    exact ⟨v, cell_skipb hv h.ncm _⟩

theorem heap_setChan (w : World) {b c cap s r : Nat} {bf : Array Value} {cl tm : Bool} (h : b ≠ c) : (w.setChan c cap bf cl s r tm).heap[b]? = w.heap[b]? := by
  unfold World.setChan
  simp only []
  rw [Array.getElem?_setIfInBounds_ne (Ne.symm h)]
theorem heap_setChan_at (w : World) {c cap s r : Nat} {bf : Array Value} {cl tm : Bool} (h : c < w.heap.size) : (w.setChan c cap bf cl s r tm).heap[c]? = some (.chan cap bf cl s r tm) := by
  unfold World.setChan
  simp [h]
theorem size_setChan (w : World) {c cap s r : Nat} {bf : Array Value} {cl tm : Bool} : (w.setChan c cap bf cl s r tm).heap.size = w.heap.size := by
  unfold World.setChan
  simp

/-- One worker's channel is turned. -/
theorem LInv.setChan (h : LInv w wr cb wb m g n len q k cap ch js buf) {j : Nat} (hj : j < n) (bf : Array Value) (s' r' : Nat) :
    LInv w (wr.setChan (ch j) 1 bf false s' r' false) cb wb m g n len q k cap ch js (fun i => if i = j then bf else buf i) := by
  obtain ⟨s, r, hc⟩ := h.chan j hj
  have nc : cb ≠ ch j := chan_not_cells hc h.c14
  have nw : wb ≠ ch j := chan_not_cells hc (h.wake j hj)
  have ncg := h.nch hj
  have hgr : wr.grownBy (wr.setChan (ch j) 1 bf false s' r' false) (some (ch j)) := ⟨rfl, rfl, rfl, by rw [size_setChan]; exact Nat.le_refl _, fun b _ hb => heap_setChan _ (by simpa using hb)⟩
  have hoh := h.oh j hj
  refine ⟨h.below.grown hgr h.below.size (fun b e => by cases e; exact hoh), (cell_setChan _ nc).trans h.c14, (cell_setChan _ nc).trans h.c15, fun o => (frozen_setChan _ nc).trans (h.fz o), h.own.kept hgr (.inr (by simpa [Value.ownBlock] using Ne.symm ncg.1)), fun i hi => (cell_setChan _ nw).trans (h.wake i hi), fun i hi => ?_, h.inj, fun i hi => ?_, fun i hi => ?_, fun o => ?_,
    h.oc, h.ow, h.om, h.oh, by rw [size_setChan]; exact h.zc, by rw [size_setChan]; exact h.zw, by rw [size_setChan]; exact h.zm, h.ncg, h.nwg, h.nmg, h.ncw, h.ncm, h.nwm⟩
  · by_cases e : i = j
    · subst e
      simp only [if_pos]
      exact ⟨_, _, heap_setChan_at _ ncg.2⟩
    · simp only [if_neg e]
      obtain ⟨s1, r1, hc1⟩ := h.chan i hi
      exact ⟨s1, r1, (heap_setChan _ (fun e' => e (h.inj i j hi hj e'))).trans hc1⟩
  · have hv := h.want i hi
    exact (cell_setChan _ (chan_not_cells hc hv)).trans hv
  · obtain ⟨v, hv⟩ := h.row i hi
    exact ⟨v, (cell_setChan _ (chan_not_cells hc hv)).trans hv⟩
  · by_cases e : m = ch j
    · subst e
      simp [World.frozen?, heap_setChan_at _ ncg.2]
    · exact (frozen_setChan _ e).trans (h.mfz o)
end

theorem len_chan (w : World) {c cap s r : Nat} {bf : Array Value} {cl : Bool} (h : w.heap[c]? = some (.chan cap bf cl s r false)) : (Builtin.len_ #[54] 3 #[.chan (some c)]).run Yba.prog w = .ok (goInt bf.size) w := by
  simp [Builtin.len_, Yba.runUnderlying54, run_getObj_chan Yba.prog w h]
end Go.Proofs.Ybulkalyy
