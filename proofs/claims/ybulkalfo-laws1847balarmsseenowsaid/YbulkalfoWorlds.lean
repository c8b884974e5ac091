import Derived.Test.YbulkalfoRows
import Derived.WalkKit
import Derived.ProofKit
import Derived.Below
namespace Go.Proofs.Ybulkalfo
open Go.ChangeShapes Go.WideShapes Go.ChangeAt Go.RowKit

/-! ### Worlds: a cell written twice; a cell written back -/
theorem setCell_heap (w : World) (b o k : Nat) (v : Value) (c : Array Value) (t : TypeId) (fr : Nat × Nat) (h : w.heap[b]? = some (.cells c t fr)) :
    (w.setCell ⟨b, o, none⟩ v).heap[k]? = if b = k then some (.cells (c.setIfInBounds o v) t fr) else w.heap[k]? := by
  simp only [World.setCell, Array.getElem?_modify]
  split
  · rename_i e; subst e; rw [h]; simp
  · rfl

theorem setCell_at {w : World} {b : Nat} {c : Array Value} {t : TypeId} {fr : Nat × Nat} (h : w.heap[b]? = some (.cells c t fr)) (o : Nat) (v : Value) :
    (w.setCell ⟨b, o, none⟩ v).heap[b]? = some (.cells (c.setIfInBounds o v) t fr) := by
  rw [setCell_heap w b o b v c t fr h]; simp
theorem setCell_else {w : World} {b k : Nat} {x : Obj} (h : w.heap[k]? = some x) (hk : k ≠ b) (o : Nat) (v : Value) :
    (w.setCell ⟨b, o, none⟩ v).heap[k]? = some x := by
  rw [Below.heap_setCell _ _ _ _ hk]; exact h

theorem setCell_twice (w : World) (b o : Nat) (u v : Value) : (w.setCell ⟨b, o, none⟩ u).setCell ⟨b, o, none⟩ v = w.setCell ⟨b, o, none⟩ v := by
  unfold World.setCell
  congr 1
  apply Array.ext_getElem?
  intro k
  simp only [Array.getElem?_modify]
  by_cases hk : b = k
  · simp only [hk, if_true]
    cases w.heap[k]? with
    | none => rfl
    | some x => cases x <;> simp
  · simp [hk]
theorem setCell_back (w : World) (b o : Nat) (v : Value) (h : w.cell? ⟨b, o, none⟩ = some v) : w.setCell ⟨b, o, none⟩ v = w := by
  have : (w.setCell ⟨b, o, none⟩ v).heap = w.heap := by
    simp only [World.setCell]
    apply Array.ext_getElem?
    intro k
    simp only [Array.getElem?_modify]
    by_cases hk : b = k
    · subst hk
      simp only [if_true]
      unfold World.cell? at h
      cases hx : w.heap[b]? with
      | none => rfl
      | some x =>
        rw [hx] at h
        cases x with
        | cells c t fr =>
          simp at h
          simp
          apply Array.ext_getElem?
          intro j
          rw [Array.getElem?_setIfInBounds]
          split
          · rename_i e; subst e; rw [h]; split
            · rfl
            · rename_i hlt; rw [Array.getElem?_eq_none (by omega)] at h; simp at h
          · rfl
        | _ => rfl
    · simp [hk]
  unfold World.setCell at this ⊢
  simp only at this
  rw [this]

/-- Every block but b, of those that were there, is as it was. -/
structure Kept (b : Nat) (w w' : World) : Prop where
  os : w'.os = w.os
  tape : w'.tape = w.tape
  output : w'.output = w.output
  size : w.heap.size ≤ w'.heap.size
  block : ∀ k, k < w.heap.size → k ≠ b → w'.heap[k]? = w.heap[k]?

theorem Kept.refl (b : Nat) (w : World) : Kept b w w := ⟨rfl, rfl, rfl, Nat.le_refl _, fun _ _ _ => rfl⟩
theorem Kept.trans {b : Nat} {x y z : World} (h : Kept b x y) (k : Kept b y z) : Kept b x z :=
  ⟨k.os.trans h.os, k.tape.trans h.tape, k.output.trans h.output, Nat.le_trans h.size k.size, fun i hi hb => (k.block i (Nat.lt_of_lt_of_le hi h.size) hb).trans (h.block i hi hb)⟩
theorem Kept.alloc {b : Nat} {x w : World} (h : Kept b x w) (o : Obj) : Kept b x (w.alloc o) :=
  h.trans ⟨rfl, rfl, rfl, by simp, fun k hk _ => Below.heap_alloc _ _ _ hk⟩
theorem Kept.setCell {b : Nat} {x w : World} (h : Kept b x w) (o : Nat) (v : Value) : Kept b x (w.setCell ⟨b, o, none⟩ v) :=
  h.trans ⟨rfl, rfl, rfl, by simp [World.setCell], fun k _ hb => Below.heap_setCell _ _ _ _ hb⟩
/-- A store into a block that was not there. -/
theorem Kept.setNew {b : Nat} {x w : World} (h : Kept b x w) {k : Nat} (hk : x.heap.size ≤ k) (o : Nat) (v : Value) : Kept b x (w.setCell ⟨k, o, none⟩ v) :=
  ⟨h.os, h.tape, h.output, Nat.le_trans h.size (by simp [World.setCell]), fun i hi hb => (Below.heap_setCell _ _ _ _ (by simp; omega)).trans (h.block i hi hb)⟩
theorem Kept.drew {b : Nat} {x w : World} (h : Kept b x w) : Kept b x w.drew := ⟨h.os, h.tape, h.output, h.size, h.block⟩
theorem Kept.below {b B : Nat} {x w w' : World} (h : Below B x w) (k : Kept b w w') (hB : B ≤ w.heap.size) (hb : B ≤ b) : Below B x w' :=
  h.trans ⟨k.os, k.tape, k.output, k.size, fun i hi => k.block i (by omega) (by omega)⟩
theorem Kept.ofBelow {b B : Nat} {w w' : World} (h : Below B w w') (hB : w.heap.size ≤ B) : Kept b w w' :=
  ⟨h.os, h.tape, h.output, h.size, fun k hk _ => h.block k (by omega)⟩

/-- A cell of a block of cells. -/
theorem cell_of {w : World} {b : Nat} {c : Array Value} {t : TypeId} {fr : Nat × Nat} (h : w.heap[b]? = some (.cells c t fr)) (o : Nat) : w.cell? ⟨b, o, none⟩ = c[o]? := by
  simp [World.cell?, h]
theorem cell_by {w : World} {b o : Nat} {c : Array Value} {t : TypeId} {fr : Nat × Nat} {v : Value} (h : w.heap[b]? = some (.cells c t fr)) (hv : c[o]? = some v) : w.cell? ⟨b, o, none⟩ = some v := by
  rw [cell_of h]; exact hv
theorem frozen_of {w : World} {b : Nat} {c : Array Value} {t : TypeId} (h : w.heap[b]? = some (.cells c t)) (o : Nat) : w.frozen? ⟨b, o, none⟩ = false := by
  simp [World.frozen?, h]
theorem lt_of {w : World} {b : Nat} {x : Obj} (h : w.heap[b]? = some x) : b < w.heap.size := by
  apply Decidable.byContradiction
  intro hn
  rw [Array.getElem?_eq_none (by omega)] at h
  cases h
theorem heap_alloc_old {w : World} {b : Nat} {x o : Obj} (h : w.heap[b]? = some x) : (w.alloc o).heap[b]? = some x := by
  rw [Below.heap_alloc _ _ _ (lt_of h)]; exact h
theorem heap_alloc_new (w : World) (o : Obj) : (w.alloc o).heap[w.heap.size]? = some o := by
  show (w.heap.push o)[w.heap.size]? = _
  simp
theorem heap_alloc_at {w : World} {o : Obj} {k : Nat} (h : k = w.heap.size) : (w.alloc o).heap[k]? = some o := by
  rw [h]; exact heap_alloc_new w o
end Go.Proofs.Ybulkalfo
