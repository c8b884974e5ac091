import Derived.Test.YbulkalfoDueSpec
namespace Go.Proofs.Ybulkalfo
open Go.ChangeShapes Go.WideShapes Go.ChangeAt Go.RowKit Go.MuLone

/-- A call of Now inside a region that draws, by its contract. -/
theorem step_now {ops : Array Oper} {o : Oper} {a : Act} {w w1 : World} {K : Act → World → Prop} {Q : Exit → Act → World → Prop} {E : Prop}
    (hg : o.guard = none) (x : Operand) (hop : o.op = Op.call { callee := Callee.value (.func 12), args := #[x], argTypes := #[35] })
    (v r : Value) (hx : a.eval x = v) (hc : Calls Yba.prog 12 #[v] w fun e w' => e = .returned r ∧ w' = w1)
    (hK : K (a.put o.dst r) w1) : if Region.wanted o (yielded ops a.tmps) = true then Oper.wp Yba.prog o a w K Q else E := by
  have hw : Region.wanted o (yielded ops a.tmps) = true := by simp [Region.wanted, hg]
  rw [if_pos hw]
  have hgen : ∀ ev : Operand → Value, ev x = v → ev (.func 12) = .func (.func 12) #[] #[] → (execOp ev o).run Yba.prog w = .ok (.enter 12 #[v]) w := by
    intro ev h1 h2
    simp [execOp, hop, resolve, invoke, h1, h2, go_sem]
  unfold Oper.wp
  rw [hgen a.eval hx rfl]
  refine hc.mono ?_
  rintro e w' ⟨rfl, rfl⟩
  exact hK

/-- The cells of a row of times. -/
def tcells (ts : List Int) : List Value := ts.flatMap fun N => [.int .u64 (N % 1000000000), .int .i64 (N / 1000000000), .pointer none]
theorem tcells_len (ts : List Int) : (tcells ts).length = ts.length * 3 := by
  induction ts with
  | nil => rfl
  | cons a l ih => simp only [tcells, List.flatMap_cons, List.length_append, List.length_cons, List.length_nil] at ih ⊢; omega
theorem tcells_snoc (ts : List Int) (N : Int) : tcells (ts ++ [N]) = tcells ts ++ [.int .u64 (N % 1000000000), .int .i64 (N / 1000000000), .pointer none] := by
  simp [tcells]

theorem info32 : (Yba.prog.info? 32).map (fun i => (i.zero, i.size, i.bytes)) = some (some (tv 0 0), 3, 24) := by kernel_rfl

theorem info_parts' {o : Option TypeInfo} {z : Option Value} {s b : Nat} (h : o.map (fun i => (i.zero, i.size, i.bytes)) = some (z, s, b)) : ∃ i, o = some i ∧ i.zero = z ∧ i.size = s ∧ i.bytes = b := by
  cases o with
  | none => cases h
  | some i => simp at h; exact ⟨i, rfl, h.1, h.2.1, h.2.2⟩

set_option maxRecDepth 20000 in
set_option maxHeartbeats 800000 in
/-- The law's closure: it lays down the time that the clock shows. -/
theorem ring (base bl bx bc lb cap : Nat) (M : Int) (al : Value) (ts : List Int) (w : World) (hbl : w.heap[bl]? = some (.cells #[.slice (some ⟨lb, 0, none⟩) ts.length cap] 48)) (hbx : w.heap[bx]? = some (.cells #[ptr bc] 35))
    (hc : w.heap[bc]? = some (clockObj M al)) (hown : w.ownsRow base 32 3 (.slice (some ⟨lb, 0, none⟩) ts.length cap) ts.length (tcells ts)) (hroom : ts.length + 1 ≤ cap) :
    Calls Yba.prog 17 #[ptr bl, ptr bx] w fun e w' => e = .returned (.tuple #[]) ∧ w'.heap[bl]? = some (.cells #[.slice (some ⟨lb, 0, none⟩) (ts.length + 1) cap] 48) ∧
      w'.ownsRow base 32 3 (.slice (some ⟨lb, 0, none⟩) (ts.length + 1) cap) (ts.length + 1) (tcells (ts ++ [M])) ∧ KeptS (fun b => b = bl ∨ b = lb) w w' := by
  obtain ⟨i0, hi, hz0, hz1, hz2⟩ := info_parts' info32
  have c0 : w.cell? ⟨bl, 0, none⟩ = some (.slice (some ⟨lb, 0, none⟩) ts.length cap) := cell_by hbl rfl
  have x0 : w.cell? ⟨bx, 0, none⟩ = some (ptr bc) := cell_by hbx rfl
  have zl := lt_of hbl
  have zx := lt_of hbx
  have hnow := hid (now_any bc M al w.drew hc)
  have hlb : lb < w.heap.size := (hown.lt lb rfl).2
  have hbl2 : bl ≠ lb := by
    rintro rfl
    rcases hown.2 with ⟨e, _⟩ | ⟨g, cap', cur, e, _, hh, _⟩
    · cases e
    · cases e
      rw [hbl] at hh
      injection hh with hh
      injection hh with _ h2
      exact absurd h2 (by decide)
  obtain ⟨w2, hrun, hown2, hgr⟩ := run_append_fits (P := Yba.prog) ((w.drew.alloc (timeObj M)).alloc (timeObj M)) base 48 48 32 i0 3 Yba.underlying48 hi hz1 lb ts.length cap (tcells ts) (hown.kept (row := none) ⟨rfl, rfl, rfl, by simp; omega, fun j hj _ => (Below.heap_alloc _ _ _ (by simp; omega)).trans (Below.heap_alloc w.drew _ _ hj)⟩ (by simp [Value.ownBlock])) ⟨w.heap.size + 1, 0, none⟩ 1 1 [.int .u64 (M % 1000000000), .int .i64 (M / 1000000000), .pointer none] rfl
    (by
      intro j u hu
      rw [addr_add']
      refine cell_by (heap_alloc_at (by simp)) ?_
      simpa using hu) (by simp [Value.oneCell']) (by omega)
  have HU := hid hrun
  have HO := hid hown2
  have HG := hid hgr
  clear hrun hown2 hgr
  have k0 : w2.cell? ⟨bl, 0, none⟩ = some (.slice (some ⟨lb, 0, none⟩) ts.length cap) := HG.out.cell (a := ⟨bl, 0, none⟩) (cell_by (heap_alloc_old (heap_alloc_old (w := w.drew) hbl)) rfl) (by simpa using hbl2)
  have kf : w2.frozen? ⟨bl, 0, none⟩ = false := (World.frozen?_of_block (a := ⟨bl, 0, none⟩) (HG.out.block bl (by simp; omega) (by simpa using hbl2))).trans (frozen_of (heap_alloc_old (heap_alloc_old (w := w.drew) hbl)) 0)
  have HBL := hid hbl
  clear hbl hbx hc hown
  go_enter Yba.func17, Yba.ntmps17
  go_wp2_with fail
  go_region_law (first | (refine step_append_run rfl (.tmp 2) (.tmp 5) 48 rfl _ _ _ (by simp [Act.eval]) (by simp [Act.eval]) HU.out ?_) | (refine step_now rfl (.tmp 3) rfl _ _ (by simp [Act.eval]) hnow.out ?_))
  all_goals
    go_wp2
    go_end0
    refine ⟨rfl, ?_, ?_, ?_⟩
    · exact (setCell_at ((HG.out.block bl (by simp; omega) (by simpa using hbl2)).trans (heap_alloc_old (heap_alloc_old (w := w.drew) HBL.out))) _ _).trans (by simp)
    · rw [tcells_snoc]
      exact HO.out.kept (row := some bl) ⟨rfl, rfl, rfl, by simp [World.setCell], fun j _ hj => Below.heap_setCell _ _ _ _ (by simpa using hj)⟩ (.inr (by simpa [Value.ownBlock] using Ne.symm hbl2))
    · have hk : KeptS (fun b => b = bl ∨ b = lb) w w.drew := ⟨rfl, rfl, rfl, Nat.le_refl _, fun _ _ _ => rfl⟩
      exact (((hk.alloc _).alloc _).grown HG.out (fun k e _ => by cases e; exact .inr rfl)).setCell (fun _ => .inl rfl) _ _
end Go.Proofs.Ybulkalfo
