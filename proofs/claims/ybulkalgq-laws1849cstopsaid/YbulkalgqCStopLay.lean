import Derived.Test.YbulkalgqStop
import Derived.Deep.RegionWith
import Derived.Deep.OwnRows
import Derived.Laws.BitsAllLaws
namespace Go.Proofs.Ybulkalgq
open Go.ChangeShapes Go.WideShapes Go.ChangeAt Go.RowKit Go.MuLone

/-! ### The scheduler's block as the law lays it -/
theorem Sched.zero (w : World) : Sched (w.alloc (.cells Yba.zeroCells67 67)) w.heap.size 0 0 0 0 := by
  have h := heap_alloc_new w (.cells Yba.zeroCells67 67)
  exact ⟨cell_by h (by kernel_rfl), cell_by h (by kernel_rfl), cell_by h (by kernel_rfl), cell_by h (by kernel_rfl), cell_by h (by kernel_rfl), cell_by h (by kernel_rfl), cell_by h (by kernel_rfl), cell_by h (by kernel_rfl), fun o => frozen_of h o⟩
theorem Sched.sleep {w : World} {s : Nat} {slp spn shl un : Int} (h : Sched w s slp spn shl un) (x : Int) : Sched (w.setCell ⟨s, 10, none⟩ (.int .i32 x)) s x spn shl un :=
  ⟨cell_hit h.c10 _, cell_skip h.c11 (by decide) _, cell_skip h.c12 (by decide) _, cell_skip h.c79 (by decide) _, cell_skip h.c82 (by decide) _, cell_skip h.c83 (by decide) _, cell_skip h.c87 (by decide) _, cell_skip h.c125 (by decide) _, fun o => by rw [frozen_setCell]; exact h.fz o⟩
theorem Sched.shared {w : World} {s : Nat} {slp spn shl un : Int} (h : Sched w s slp spn shl un) (x : Int) : Sched (w.setCell ⟨s, 12, none⟩ (.int .i64 x)) s slp spn x un :=
  ⟨cell_skip h.c10 (by decide) _, cell_skip h.c11 (by decide) _, cell_hit h.c12 _, cell_skip h.c79 (by decide) _, cell_skip h.c82 (by decide) _, cell_skip h.c83 (by decide) _, cell_skip h.c87 (by decide) _, cell_skip h.c125 (by decide) _, fun o => by rw [frozen_setCell]; exact h.fz o⟩
theorem Sched.unpark {w : World} {s : Nat} {slp spn shl un : Int} (h : Sched w s slp spn shl un) (x : Int) : Sched (w.setCell ⟨s, 125, none⟩ (.int .u64 x)) s slp spn shl x :=
  ⟨cell_skip h.c10 (by decide) _, cell_skip h.c11 (by decide) _, cell_skip h.c12 (by decide) _, cell_skip h.c79 (by decide) _, cell_skip h.c82 (by decide) _, cell_skip h.c83 (by decide) _, cell_skip h.c87 (by decide) _, cell_hit h.c125 _, fun o => by rw [frozen_setCell]; exact h.fz o⟩
theorem Sched.set0 {w : World} {s : Nat} {slp spn shl un : Int} (h : Sched w s slp spn shl un) (v : Value) : Sched (w.setCell ⟨s, 0, none⟩ v) s slp spn shl un :=
  ⟨cell_skip h.c10 (by decide) _, cell_skip h.c11 (by decide) _, cell_skip h.c12 (by decide) _, cell_skip h.c79 (by decide) _, cell_skip h.c82 (by decide) _, cell_skip h.c83 (by decide) _, cell_skip h.c87 (by decide) _, cell_skip h.c125 (by decide) _, fun o => by rw [frozen_setCell]; exact h.fz o⟩

theorem join_ends (t b : Int) (t0 : 0 ≤ t) (t1 : t < 4294967296) (b0 : 0 ≤ b) (b1 : b < 4294967296) : bits .or .u64 (t * 4294967296) b = t * 4294967296 + b := by
  rw [u64_or (t * 4294967296) b (by omega) (by omega) b0 (by omega)]
  have e : (t * 4294967296).toNat ||| b.toNat = (t * 4294967296).toNat + b.toNat := nat_join 32 _ _ (by omega) (by omega)
  rw [e]; omega

theorem made_get (z : Value) (n i : Nat) (h : i < n) : (madeCells #[z] n)[i]? = some z := by
  simp [madeCells, h, Nat.mod_one]

/-! ### What stands while other blocks turn -/
theorem Kept.widen {A m : Nat} {x y : World} (h : Kept A x y) (hA : x.heap.size ≤ A) : Kept m x y := ⟨h.os, h.tape, h.output, h.size, fun k hk _ => h.block k hk (by omega)⟩
theorem Kept.cell {m : Nat} {w w' : World} (h : Kept m w w') {b : Nat} (hb : b < w.heap.size) (hm : b ≠ m) (o : Nat) : w'.cell? ⟨b, o, none⟩ = w.cell? ⟨b, o, none⟩ :=
  World.cell?_of_block (w := w) (a := ⟨b, o, none⟩) (h.block b hb hm)
theorem Kept.frozen {m : Nat} {w w' : World} (h : Kept m w w') {b : Nat} (hb : b < w.heap.size) (hm : b ≠ m) (o : Nat) : w'.frozen? ⟨b, o, none⟩ = w.frozen? ⟨b, o, none⟩ :=
  World.frozen?_of_block (w := w) (a := ⟨b, o, none⟩) (h.block b hb hm)
theorem lt_of_shape {w : World} {p : Nat} {x : TypeId × Nat} (h : w.shape? p = some x) : p < w.heap.size := by
  apply Decidable.byContradiction
  intro hn
  unfold World.shape? at h
  rw [Array.getElem?_eq_none (by omega)] at h
  cases h
theorem Kept.shape {m : Nat} {w w' : World} (h : Kept m w w') {p : Nat} (hp : p < w.heap.size) (hm : p ≠ m) : w'.shape? p = w.shape? p := by
  unfold World.shape?; rw [h.block p hp hm]
theorem Sched.kept {m : Nat} {w w' : World} (h : Kept m w w') {s : Nat} {slp spn shl un : Int} (k : Sched w s slp spn shl un) (hs : s < w.heap.size) (hm : s ≠ m) : Sched w' s slp spn shl un :=
  ⟨(h.cell hs hm _).trans k.c10, (h.cell hs hm _).trans k.c11, (h.cell hs hm _).trans k.c12, (h.cell hs hm _).trans k.c79, (h.cell hs hm _).trans k.c82, (h.cell hs hm _).trans k.c83, (h.cell hs hm _).trans k.c87, (h.cell hs hm _).trans k.c125, fun o => (h.frozen hs hm o).trans (k.fz o)⟩
theorem Man.kept {m : Nat} {w w' : World} (h : Kept m w w') {s b : Nat} {x : Wk} (k : Man w s m b x) (hmt : ∀ n, w.shape? m ≠ some (100, n)) (hb : b < w.heap.size) : Man w' s m b x := by
  refine ⟨k.ns, k.nm, ⟨k.at'.t0, k.at'.t1, k.at'.b0, k.at'.b1, (h.cell hb k.nm _).trans k.at'.ends, ?_, (h.cell hb k.nm _).trans k.at'.fill, (h.cell hb k.nm _).trans k.at'.over⟩, (h.cell hb k.nm _).trans k.c0, ?_, fun o => (h.frozen hb k.nm o).trans (k.fz o)⟩
  · rcases k.at'.hand with ⟨e, c⟩ | ⟨e, p, c, hp⟩
    · exact .inl ⟨e, (h.cell hb k.nm _).trans c⟩
    · exact .inr ⟨e, p, (h.cell hb k.nm _).trans c, (h.shape (lt_of_shape hp) (fun e => hmt 8 (e ▸ hp))).trans hp⟩
  · obtain ⟨v, hv⟩ := k.c8
    exact ⟨v, (h.cell hb k.nm _).trans hv⟩

/-- What stands at every round's head: k workers are laid. (s: the scheduler's block, the first that the call makes.) -/
structure Inv (w wr : World) (s m len k : Nat) (slp spn shl un : Int) (xs : Nat → Wk) : Prop where
  below : Below s w wr
  sched : Sched wr s slp spn shl un
  c0 : wr.cell? ⟨s, 0, none⟩ = some (.slice (some ⟨m, 0, none⟩) len len)
  row : ∀ i, i < len → ∃ v, wr.cell? ⟨m, i, none⟩ = some v
  mfz : ∀ o, wr.frozen? ⟨m, o, none⟩ = false
  mt : ∀ n, wr.shape? m ≠ some (100, n)
  each : ∀ i, i < k → ∃ b, wr.cell? ⟨m, i, none⟩ = some (.pointer (some ⟨b, 0, none⟩)) ∧ Man wr s m b (xs i) ∧ s ≤ b ∧ b < wr.heap.size
  sm : s < m
  zm : m < wr.heap.size

theorem Man.drewN {w : World} {s m b : Nat} {x : Wk} (h : Man w s m b x) {n : Nat} : Man (w.drewN n) s m b x := ⟨h.ns, h.nm, h.at'.drewN n, h.c0, h.c8, h.fz⟩
theorem Man.lone (wr : World) (s m : Nat) (hs : s < wr.heap.size) (hm : m < wr.heap.size) : Man (wr.alloc (.cells (Yba.zeroCells91.setIfInBounds 0 (.pointer (some ⟨s, 0, none⟩))) 91)) s m wr.heap.size ⟨0, 0, false, 0, 0⟩ := by
  have h := heap_alloc_new wr (.cells (Yba.zeroCells91.setIfInBounds 0 (.pointer (some ⟨s, 0, none⟩))) 91)
  exact ⟨by omega, by omega, ⟨by decide, by decide, by decide, by decide, cell_by h (by kernel_rfl), .inl ⟨rfl, cell_by h (by kernel_rfl)⟩, cell_by h (by kernel_rfl), cell_by h (by kernel_rfl)⟩, cell_by h (by kernel_rfl), ⟨false, cell_by h (by kernel_rfl)⟩, fun o => frozen_of h o⟩
theorem Inv.alloc0 {w wr : World} {s m : Nat} {slp spn shl un : Int} {xs : Nat → Wk} (h : Inv w wr s m 0 0 slp spn shl un xs) (o : Obj) : Inv w (wr.alloc o) s m 0 0 slp spn shl un xs := by
  have hsm := h.sm
  have hzm := h.zm
  have k : Kept wr.heap.size wr (wr.alloc o) := (Kept.refl _ _).alloc o
  exact ⟨h.below.alloc (by omega) o, h.sched.kept k (by omega) (by omega), (k.cell (by omega) (by omega) _).trans h.c0, fun i hi => by omega, fun o' => (k.frozen hzm (by omega) o').trans (h.mfz o'), fun n => by rw [k.shape hzm (by omega)]; exact h.mt n, fun i hi => by omega, hsm, by simp; omega⟩
theorem Inv.crew {w wr : World} {s m len : Nat} {slp spn shl un : Int} {xs : Nat → Wk} (h : Inv w wr s m len len slp spn shl un xs) : Crew wr s m len xs :=
  ⟨by have := h.sm; omega, h.c0, fun i hi => by
    obtain ⟨b, hc, hm, _, _⟩ := h.each i hi
    exact ⟨b, hc, hm⟩⟩
theorem Inv.drewN {w wr : World} {s m len k : Nat} {slp spn shl un : Int} {xs : Nat → Wk} (h : Inv w wr s m len k slp spn shl un xs) {n : Nat} : Inv w (wr.drewN n) s m len k slp spn shl un xs :=
  ⟨⟨h.below.os, h.below.tape, h.below.output, h.below.size, h.below.block⟩, h.sched.drewN n, h.c0, h.row, h.mfz, h.mt, fun i hi => by
    obtain ⟨b, hc, hm, h1, h2⟩ := h.each i hi
    exact ⟨b, hc, hm.drewN, h1, h2⟩, h.sm, h.zm⟩

/-- A worker that is being laid: A: the block of its datum; B: its own. -/
structure Lay (wr W : World) (s A B : Nat) (x : Wk) (v10 v2 v3 v5 : Value) : Prop where
  kept : Kept A wr W
  zA : A < W.heap.size
  zB : B < W.heap.size
  a0 : W.cell? ⟨A, 0, none⟩ = some (.int .u32 x.top)
  a1 : W.cell? ⟨A, 1, none⟩ = some (.int .u32 x.bot)
  a2 : W.cell? ⟨A, 2, none⟩ = some (.bool x.hand)
  a3 : W.cell? ⟨A, 3, none⟩ = some (.int .u64 x.fill)
  a4 : W.cell? ⟨A, 4, none⟩ = some (.int .u64 x.over)
  b0 : W.cell? ⟨B, 0, none⟩ = some (.pointer (some ⟨s, 0, none⟩))
  b8 : W.cell? ⟨B, 8, none⟩ = some (.bool false)
  b10 : W.cell? ⟨B, 10, none⟩ = some v10
  b2 : W.cell? ⟨B, 2, none⟩ = some v2
  b3 : W.cell? ⟨B, 3, none⟩ = some v3
  b5 : W.cell? ⟨B, 5, none⟩ = some v5
  fz : ∀ o, W.frozen? ⟨B, o, none⟩ = false

section
variable {wr W : World} {s A B : Nat} {x : Wk} {v10 v2 v3 v5 : Value}
theorem Lay.drew (h : Lay wr W s A B x v10 v2 v3 v5) : Lay wr W.drew s A B x v10 v2 v3 v5 :=
  ⟨h.kept.drew, h.zA, h.zB, h.a0, h.a1, h.a2, h.a3, h.a4, h.b0, h.b8, h.b10, h.b2, h.b3, h.b5, h.fz⟩
theorem Lay.alloc (h : Lay wr W s A B x v10 v2 v3 v5) (o : Obj) : Lay wr (W.alloc o) s A B x v10 v2 v3 v5 := by
  have k : Kept (W.heap.size) W (W.alloc o) := (Kept.refl _ _).alloc o
  have hA := h.zA
  have hB := h.zB
  have ca : ∀ o', (W.alloc o).cell? ⟨A, o', none⟩ = W.cell? ⟨A, o', none⟩ := fun o' => k.cell hA (by omega) o'
  have cb : ∀ o', (W.alloc o).cell? ⟨B, o', none⟩ = W.cell? ⟨B, o', none⟩ := fun o' => k.cell hB (by omega) o'
  exact ⟨h.kept.alloc o, by simp; omega, by simp; omega, (ca _).trans h.a0, (ca _).trans h.a1, (ca _).trans h.a2, (ca _).trans h.a3, (ca _).trans h.a4, (cb _).trans h.b0, (cb _).trans h.b8, (cb _).trans h.b10, (cb _).trans h.b2, (cb _).trans h.b3, (cb _).trans h.b5, fun o' => (k.frozen hB (by omega) o').trans (h.fz o')⟩
theorem Lay.set10 (h : Lay wr W s A B x v10 v2 v3 v5) (hn : wr.heap.size ≤ B) (hAB : B ≠ A) (v : Value) : Lay wr (W.setCell ⟨B, 10, none⟩ v) s A B x v v2 v3 v5 :=
  ⟨h.kept.setNew hn _ _, by simpa [World.setCell] using h.zA, by simpa [World.setCell] using h.zB, cell_skipb h.a0 hAB _, cell_skipb h.a1 hAB _, cell_skipb h.a2 hAB _, cell_skipb h.a3 hAB _, cell_skipb h.a4 hAB _, cell_skip h.b0 (by decide) _, cell_skip h.b8 (by decide) _, cell_hit h.b10 _, cell_skip h.b2 (by decide) _, cell_skip h.b3 (by decide) _, cell_skip h.b5 (by decide) _, fun o => by rw [frozen_setCell]; exact h.fz o⟩
theorem Lay.set2 (h : Lay wr W s A B x v10 v2 v3 v5) (hn : wr.heap.size ≤ B) (hAB : B ≠ A) (v : Value) : Lay wr (W.setCell ⟨B, 2, none⟩ v) s A B x v10 v v3 v5 :=
  ⟨h.kept.setNew hn _ _, by simpa [World.setCell] using h.zA, by simpa [World.setCell] using h.zB, cell_skipb h.a0 hAB _, cell_skipb h.a1 hAB _, cell_skipb h.a2 hAB _, cell_skipb h.a3 hAB _, cell_skipb h.a4 hAB _, cell_skip h.b0 (by decide) _, cell_skip h.b8 (by decide) _, cell_skip h.b10 (by decide) _, cell_hit h.b2 _, cell_skip h.b3 (by decide) _, cell_skip h.b5 (by decide) _, fun o => by rw [frozen_setCell]; exact h.fz o⟩
theorem Lay.set3 (h : Lay wr W s A B x v10 v2 v3 v5) (hn : wr.heap.size ≤ B) (hAB : B ≠ A) (v : Value) : Lay wr (W.setCell ⟨B, 3, none⟩ v) s A B x v10 v2 v v5 :=
  ⟨h.kept.setNew hn _ _, by simpa [World.setCell] using h.zA, by simpa [World.setCell] using h.zB, cell_skipb h.a0 hAB _, cell_skipb h.a1 hAB _, cell_skipb h.a2 hAB _, cell_skipb h.a3 hAB _, cell_skipb h.a4 hAB _, cell_skip h.b0 (by decide) _, cell_skip h.b8 (by decide) _, cell_skip h.b10 (by decide) _, cell_skip h.b2 (by decide) _, cell_hit h.b3 _, cell_skip h.b5 (by decide) _, fun o => by rw [frozen_setCell]; exact h.fz o⟩
theorem Lay.set5 (h : Lay wr W s A B x v10 v2 v3 v5) (hn : wr.heap.size ≤ B) (hAB : B ≠ A) (v : Value) : Lay wr (W.setCell ⟨B, 5, none⟩ v) s A B x v10 v2 v3 v :=
  ⟨h.kept.setNew hn _ _, by simpa [World.setCell] using h.zA, by simpa [World.setCell] using h.zB, cell_skipb h.a0 hAB _, cell_skipb h.a1 hAB _, cell_skipb h.a2 hAB _, cell_skipb h.a3 hAB _, cell_skipb h.a4 hAB _, cell_skip h.b0 (by decide) _, cell_skip h.b8 (by decide) _, cell_skip h.b10 (by decide) _, cell_skip h.b2 (by decide) _, cell_skip h.b3 (by decide) _, cell_hit h.b5 _, fun o => by rw [frozen_setCell]; exact h.fz o⟩
end
theorem Lay.begin (wr : World) (s : Nat) (k : Int) (x : Wk) :
    Lay wr ((wr.alloc (.cells #[.int .u32 x.top, .int .u32 x.bot, .bool x.hand, .int .u64 x.fill, .int .u64 x.over] 71)).alloc (.cells ((Yba.zeroCells91.setIfInBounds 0 (.pointer (some ⟨s, 0, none⟩))).setIfInBounds 1 (.int .i64 k)) 91)) s wr.heap.size (wr.heap.size + 1) x (.int .u64 0) (.pointer none) (.int .u64 0) (.int .u64 0) := by
  have hA := heap_alloc_old (o := .cells ((Yba.zeroCells91.setIfInBounds 0 (.pointer (some ⟨s, 0, none⟩))).setIfInBounds 1 (.int .i64 k)) 91) (heap_alloc_new wr (.cells #[.int .u32 x.top, .int .u32 x.bot, .bool x.hand, .int .u64 x.fill, .int .u64 x.over] 71))
  have hB := heap_alloc_at (w := wr.alloc (.cells #[.int .u32 x.top, .int .u32 x.bot, .bool x.hand, .int .u64 x.fill, .int .u64 x.over] 71)) (k := wr.heap.size + 1) (o := .cells ((Yba.zeroCells91.setIfInBounds 0 (.pointer (some ⟨s, 0, none⟩))).setIfInBounds 1 (.int .i64 k)) 91) (by simp)
  exact ⟨((Kept.refl _ _).alloc _).alloc _, by simp; omega, by simp, cell_by hA rfl, cell_by hA rfl, cell_by hA rfl, cell_by hA rfl, cell_by hA rfl, cell_by hB (by kernel_rfl), cell_by hB (by kernel_rfl), cell_by hB (by kernel_rfl), cell_by hB (by kernel_rfl), cell_by hB (by kernel_rfl), cell_by hB (by kernel_rfl), fun o => frozen_of hB o⟩

/-- The hand-off slot of a worker that is being laid. -/
def Handed (W : World) (x : Wk) (v2 : Value) : Prop :=
  (x.hand = false ∧ v2 = .pointer none) ∨ (x.hand = true ∧ ∃ p, v2 = .pointer (some ⟨p, 0, none⟩) ∧ W.shape? p = some (100, 8))
theorem Handed.setCell {W : World} {x : Wk} {v2 : Value} (h : Handed W x v2) (a : Addr) (v : Value) : Handed (W.setCell a v) x v2 := by
  rcases h with h | ⟨h, p, e, hp⟩
  · exact .inl h
  · exact .inr ⟨h, p, e, by rw [shape_setCell]; exact hp⟩
theorem Handed.drew {W : World} {x : Wk} {v2 : Value} (h : Handed W x v2) : Handed W.drew x v2 := h

theorem Inv.step {w wr w7 : World} {s m len k A B : Nat} {slp spn shl un : Int} {xs : Nat → Wk} {v2 : Value} (hI : Inv w wr s m len k slp spn shl un xs)
    (hL : Lay wr w7 s A B (xs k) (.int .u64 ((xs k).top * 4294967296 + (xs k).bot)) v2 (.int .u64 (xs k).fill) (.int .u64 (xs k).over)) (hH : Handed w7 (xs k) v2) (hA : wr.heap.size = A) (hAB : A ≤ B) (hlt : k < len)
    (t0 : 0 ≤ (xs k).top) (t1 : (xs k).top < 4294967296) (b0 : 0 ≤ (xs k).bot) (b1 : (xs k).bot < 4294967296) :
    Inv w (w7.setCell ⟨m, k, none⟩ (.pointer (some ⟨B, 0, none⟩))) s m len (k + 1) slp spn shl un xs := by
  have hsm := hI.sm
  have hzm := hI.zm
  have hk7 : Kept m wr w7 := hL.kept.widen (by omega)
  have hkf : Kept m wr (w7.setCell ⟨m, k, none⟩ (.pointer (some ⟨B, 0, none⟩))) := hk7.setCell _ _
  have hcm : ∀ i, w7.cell? ⟨m, i, none⟩ = wr.cell? ⟨m, i, none⟩ := fun i => hL.kept.cell hzm (by omega) i
  obtain ⟨mv, hmv⟩ := hI.row k hlt
  have hhit := cell_hit ((hcm k).trans hmv) (.pointer (some ⟨B, 0, none⟩))
  have hsz := hL.kept.size
  have hzB := hL.zB
  refine ⟨?_, hI.sched.kept hkf (by omega) (by omega), (hkf.cell (by omega) (by omega) _).trans hI.c0, ?_, ?_, ?_, ?_, hsm, by simp [World.setCell]; omega⟩
  · exact Kept.below hI.below hkf (by omega) (by omega)
  · intro i hi
    by_cases e : i = k
    · subst e; exact ⟨_, hhit⟩
    · obtain ⟨v, hv⟩ := hI.row i hi
      exact ⟨v, cell_skip ((hcm i).trans hv) (by omega) _⟩
  · intro o
    rw [frozen_setCell]
    exact (hL.kept.frozen hzm (by omega) o).trans (hI.mfz o)
  · intro n
    rw [shape_setCell, hL.kept.shape hzm (by omega)]
    exact hI.mt n
  · intro i hi
    by_cases e : i = k
    · subst e
      refine ⟨B, hhit, ⟨by omega, by omega, ⟨t0, t1, b0, b1, cell_skipb hL.b10 (by omega) _, ?_, cell_skipb hL.b3 (by omega) _, cell_skipb hL.b5 (by omega) _⟩, cell_skipb hL.b0 (by omega) _, ⟨_, cell_skipb hL.b8 (by omega) _⟩, fun o => by rw [frozen_setCell]; exact hL.fz o⟩, by omega, by simp [World.setCell]; omega⟩
      rcases hH with ⟨e, rfl⟩ | ⟨e, p, rfl, hp⟩
      · exact .inl ⟨e, cell_skipb hL.b2 (by omega) _⟩
      · exact .inr ⟨e, p, cell_skipb hL.b2 (by omega) _, by rw [shape_setCell]; exact hp⟩
    · obtain ⟨b, hc, hm, hb1, hb2⟩ := hI.each i (by omega)
      exact ⟨b, cell_skip ((hcm i).trans hc) (by omega) _, hm.kept hkf hI.mt hb2, hb1, by simp [World.setCell]; omega⟩

theorem woke_true {q : Bool} {spn slp : Int} (h : woke q spn slp = true) : q = true ∧ wrap32 (spn - 1) ≤ 0 ∧ (slp != 0) = true := by
  unfold woke at h
  rw [Bool.and_eq_true, Bool.and_eq_true] at h
  exact ⟨h.1, of_decide_eq_true h.2.1, h.2.2⟩
theorem woke_false {q : Bool} {spn slp : Int} (h : woke q spn slp = false) (hq : q = true) (hle : wrap32 (spn - 1) ≤ 0) : (slp != 0) = false := by
  unfold woke at h
  rw [hq, Bool.true_and, show decide (wrap32 (spn + -1) ≤ 0) = true from decide_eq_true hle, Bool.true_and] at h
  exact h

/-- The workers that came in, as the walk is told of them. -/
def IsWs (w : World) (b off len : Nat) (xs : Nat → Wk) : Prop :=
  ∀ i, i < len → w.cell? ⟨b, off + i * 5, none⟩ = some (.int .u32 (xs i).top) ∧ w.cell? ⟨b, off + i * 5 + 1, none⟩ = some (.int .u32 (xs i).bot) ∧ w.cell? ⟨b, off + i * 5 + 2, none⟩ = some (.bool (xs i).hand) ∧
    w.cell? ⟨b, off + i * 5 + 3, none⟩ = some (.int .u64 (xs i).fill) ∧ w.cell? ⟨b, off + i * 5 + 4, none⟩ = some (.int .u64 (xs i).over) ∧ (0 ≤ (xs i).top ∧ (xs i).top < 4294967296 ∧ 0 ≤ (xs i).bot ∧ (xs i).bot < 4294967296)

end Go.Proofs.Ybulkalgq
