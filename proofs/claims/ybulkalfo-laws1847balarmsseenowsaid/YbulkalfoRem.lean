import Derived.Test.YbulkalfoChain
namespace Go.Proofs.Ybulkalfo
open Go.ChangeShapes Go.WideShapes Go.ChangeAt Go.RowKit Go.MuLone

/-- The instants that the law has not used yet. -/
def rem (n : Int) (o : Nat → Int) (U : Nat → Bool) (k : Nat) : List Int := ((List.range k).filter fun i => !U i).map fun i => n + o i

theorem rem_succ (n : Int) (o : Nat → Int) (U : Nat → Bool) (k : Nat) : rem n o U (k + 1) = rem n o U k ++ (if U k then [] else [n + o k]) := by
  unfold rem
  rw [List.range_succ, List.filter_append, List.map_append]
  congr 1
  cases h : U k <;> simp [h]
theorem rem_congr (n : Int) (o : Nat → Int) (U V : Nat → Bool) : ∀ (k : Nat), (∀ i, i < k → U i = V i) → rem n o U k = rem n o V k
  | 0, _ => rfl
  | k + 1, h => by rw [rem_succ, rem_succ, rem_congr n o U V k (fun i hi => h i (by omega)), h k (by omega)]
theorem rem_mem {n : Int} {o : Nat → Int} {U : Nat → Bool} {k : Nat} {u : Int} : u ∈ rem n o U k ↔ ∃ i, i < k ∧ U i = false ∧ n + o i = u := by
  unfold rem
  simp only [List.mem_map, List.mem_filter, List.mem_range, Bool.not_eq_true']
  constructor
  · rintro ⟨i, ⟨h1, h2⟩, h3⟩; exact ⟨i, h1, h2, h3⟩
  · rintro ⟨i, h1, h2, h3⟩; exact ⟨i, ⟨h1, h2⟩, h3⟩
/-- One more is used. -/
theorem rem_take (n : Int) (o : Nat → Int) (U : Nat → Bool) (b : Nat) (hU : U b = false) : ∀ (k : Nat), b < k → (rem n o U k).Perm ((n + o b) :: rem n o (fun i => if i = b then true else U i) k)
  | 0, h => by omega
  | k + 1, h => by
    rw [rem_succ, rem_succ]
    by_cases e : b = k
    · subst e
      rw [rem_congr n o (fun i => if i = b then true else U i) U b (fun i hi => by simp [show i ≠ b by omega])]
      simp [hU]
    · have ih := rem_take n o U b hU k (by omega)
      simp only [show (k = b) = False by simp; omega, if_false]
      exact ih.append_right _
theorem rem_none (n : Int) (o : Nat → Int) (k : Nat) : rem n o (fun _ => false) k = (List.range k).map fun i => n + o i := by
  have h : (List.range k).filter (fun i => !(fun _ => false) i) = List.range k := List.filter_eq_self.2 (fun a _ => rfl)
  unfold rem
  rw [h]
end Go.Proofs.Ybulkalfo
