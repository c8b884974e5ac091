import Derived.Test.YbulkalfoDue
namespace Go.Proofs.Ybulkalfo
open Go.ChangeShapes Go.WideShapes Go.ChangeAt Go.RowKit Go.MuLone

/-- What due leaves, over the list of alarms. -/
def DueLeft (base bc : Nat) (l M T : Int) (al : Value) (xs : List (Nat × Int)) (fv : Value) (w : World) (e : Ending) (w' : World) : Prop :=
  (e = .returned (.pointer none) ∧ (∀ a, a ∈ xs → T < a.2) ∧ ∃ x, w' = ext w x) ∨
  ∃ a ys al', xs.Perm (a :: ys) ∧ a.2 ≤ T ∧ (∀ b, b ∈ xs → b.2 ≤ T → a.2 ≤ b.2) ∧ e = .returned (ptr a.1) ∧ CInv base w' bc l M al' ys fv ∧ w'.heap[a.1]? = some (alarmObj a.2 fv) ∧
    al'.ownBlock = al.ownBlock ∧ KeptS (fun b => b = bc ∨ al.ownBlock = some b) w w'

theorem addr_add' (b off i : Nat) : (⟨b, off, none⟩ : Addr).add i = ⟨b, off + i, none⟩ := by
  unfold Addr.add
  split
  · rename_i h; subst h; simp
  · rfl

theorem perm_erase {α : Type} (xs : List α) (f : Nat) (hf : f < xs.length) : xs.Perm (xs[f] :: xs.eraseIdx f) := by
  have h : xs = xs.take f ++ xs[f] :: xs.drop (f + 1) := by rw [List.getElem_cons_drop, List.take_append_drop]
  rw [List.eraseIdx_eq_take_drop_succ]
  exact (List.Perm.of_eq h).trans List.perm_middle
theorem map_erase {α β : Type} (h : α → β) (xs : List α) (f : Nat) : (xs.eraseIdx f).map h = (xs.map h).eraseIdx f := by
  rw [List.eraseIdx_eq_take_drop_succ, List.eraseIdx_eq_take_drop_succ, List.map_append, List.map_take, List.map_drop]

theorem due_spec (base bc : Nat) (l M T : Int) (al : Value) (xs : List (Nat × Int)) (fv : Value) (w : World) (hC : CInv base w bc l M al xs fv) (hl : xs.length ≤ 1024) :
    Calls Yba.prog 30 #[ptr bc, tN T] w fun e w' => DueLeft base bc l M T al xs fv w e w' := by
  have hb := lt_of hC.clk
  rcases hC.own.2 with ⟨rfl, h0⟩ | ⟨g, cap, cur, rfl, hbg, hh, hnc, hcm, hcs, htk⟩
  · obtain rfl := List.length_eq_zero_iff.1 h0
    refine (due_none bc T w hb (cell_by hC.clk rfl)).mono ?_
    rintro e w' ⟨rfl, rfl⟩
    exact .inl ⟨rfl, by simp, _, (ext_none _).trans (ext_alloc_in _ _ _)⟩
  · have hne : bc ≠ g := by
      rintro rfl
      rw [hC.clk] at hh
      injection hh with hh
      injection hh with _ h2
      exact absurd h2 (by decide)
    have hgl := lt_of hh
    have hcells : ∀ i, i < xs.length → cur[i]? = some (ptr (xs.getD i (0, 0)).1) := by
      intro i hi
      have h1 : (xs.map fun a => ptr a.1)[i]? = some (ptr (xs.getD i (0, 0)).1) := by
        rw [List.getElem?_map, List.getElem?_eq_getElem hi, List.getD_eq_getElem?_getD, List.getElem?_eq_getElem hi]; rfl
      rw [← htk, List.getElem?_take_of_lt (by omega)] at h1
      simpa using h1
    have hmem : ∀ i, i < xs.length → xs.getD i (0, 0) ∈ xs := by
      intro i hi
      rw [List.getD_eq_getElem?_getD, List.getElem?_eq_getElem hi]
      exact List.getElem_mem hi
    have hext : ∀ x, (ext (w.alloc (timeObj T)) x).drew.heap[g]? = some (.cells cur 68 (0, 0)) := fun x => (ext_heap _ x (by simp; omega)).trans (heap_alloc_old hh)
    refine (due_row base bc g xs.length cap T w (xs.map fun a => ptr a.1) (fun i => (xs.getD i (0, 0)).1) (fun i => (xs.getD i (0, 0)).2) hl hnc hne (by simp)
      (hid fun f hf x => ⟨by simp; omega, .inr ⟨g, cap, cur, rfl, hbg, hext x, by omega, hcm, hcs, ?_⟩⟩) (hid fun f hf x j u hu => ?_) (hid ?_) (hid fun x => ?_) (cell_by hC.clk rfl) (hid fun i hi => ?_)).mono ?_
    · rw [← htk, List.take_take]
      congr 1
      omega
    · rw [addr_add']
      refine cell_by (hext x) ?_
      rw [List.getElem?_drop] at hu
      have hlt : f + 1 + j < xs.length := by
        apply Decidable.byContradiction
        intro hn
        rw [List.getElem?_eq_none (by simp; omega)] at hu
        cases hu
      rw [hcells _ hlt, ← hu, List.getElem?_map, List.getElem?_eq_getElem hlt, List.getD_eq_getElem?_getD, List.getElem?_eq_getElem hlt]; rfl
    · intro u hu
      obtain ⟨a, _, rfl⟩ := List.mem_map.1 hu
      rfl
    · exact frozen_of ((ext_heap _ x (by simp; omega)).trans (heap_alloc_old hC.clk)) 5
    · have hal := hC.alarms _ (hmem i hi)
      exact ⟨cell_by hh (hcells i hi), cell_by hal rfl, cell_by hal rfl, cell_by hal rfl⟩
    · rintro e w' (⟨rfl, h1, h2⟩ | ⟨f, w2, hf, hT, hmin, rfl, hown2, hk, rfl⟩)
      · refine .inl ⟨rfl, fun a ha => ?_, h2⟩
        obtain ⟨i, hi, rfl⟩ := List.getElem_of_mem ha
        have : T < (xs.getD i (0, 0)).2 := h1 i hi
        rwa [List.getD_eq_getElem?_getD, List.getElem?_eq_getElem hi] at this
      · have hfe : xs.getD f (0, 0) = xs[f] := by rw [List.getD_eq_getElem?_getD, List.getElem?_eq_getElem hf]; rfl
        simp only [hfe] at hT hmin ⊢
        have hclk2 : w2.heap[bc]? = some (clkObj l M (.slice (some ⟨g, 0, none⟩) xs.length cap)) := hk.heap hC.clk hne
        have hal2 : ∀ a, a ∈ xs → (w2.setCell ⟨bc, 5, none⟩ (.slice (some ⟨g, 0, none⟩) (xs.length - 1) cap)).heap[a.1]? = some (alarmObj a.2 fv) := by
          intro a ha
          have h1 := hC.alarms a ha
          refine setCell_else (hk.heap h1 ?_) ?_ _ _
          · intro e
            rw [e, hh] at h1
            injection h1 with h1
            injection h1 with _ h2
            exact absurd h2 (by decide)
          · intro e
            rw [e, hC.clk] at h1
            injection h1 with h1
            injection h1 with _ h2
            exact absurd h2 (by decide)
        refine .inr ⟨xs[f], xs.eraseIdx f, .slice (some ⟨g, 0, none⟩) (xs.length - 1) cap, perm_erase xs f hf, hT, ?_, rfl, ⟨?_, ?_, ?_⟩, hal2 _ (List.getElem_mem hf), rfl, ?_⟩
        · intro b hb' hbT
          obtain ⟨i, hi, rfl⟩ := List.getElem_of_mem hb'
          have := hmin i hi
          rw [List.getD_eq_getElem?_getD, List.getElem?_eq_getElem hi] at this
          exact this hbT
        · exact (setCell_at hclk2 _ _).trans (by simp)
        · rw [List.length_eraseIdx_of_lt hf, map_erase]
          refine hown2.kept (row := some bc) ⟨rfl, rfl, rfl, by simp [World.setCell], fun j _ hj => Below.heap_setCell _ _ _ _ (by simpa using hj)⟩ (.inr (by simpa [Value.ownBlock] using Ne.symm hne))
        · intro a ha
          exact hal2 a (List.mem_of_mem_eraseIdx ha)
        · exact (hk.mono (fun k _ e => .inr (by rw [e]; rfl))).setCell (fun _ => .inl rfl) _ _
end Go.Proofs.Ybulkalfo
