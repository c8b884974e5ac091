import Derived.Test.YbulkalgqAnyQ
import Derived.Test.YbulkalgqWorlds
namespace Go.Proofs.Ybulkalgq
open Go.ChangeShapes Go.WideShapes Go.ChangeAt Go.RowKit Go.MuLone

/-- The scheduler's block, as far as the law reads it: its lock free, nobody waiting on wake. -/
structure Sched (w : World) (s : Nat) (slp spn shl un : Int) : Prop where
  c10 : w.cell? ⟨s, 10, none⟩ = some (.int .i32 slp)
  c11 : w.cell? ⟨s, 11, none⟩ = some (.int .i32 spn)
  c12 : w.cell? ⟨s, 12, none⟩ = some (.int .i64 shl)
  c79 : w.cell? ⟨s, 79, none⟩ = some (.int .i32 0)
  c82 : w.cell? ⟨s, 82, none⟩ = some (.int .u32 0)
  c83 : w.cell? ⟨s, 83, none⟩ = some (.int .u32 0)
  c87 : w.cell? ⟨s, 87, none⟩ = some (.int .u64 0)
  c125 : w.cell? ⟨s, 125, none⟩ = some (.int .u64 un)
  fz : ∀ o, w.frozen? ⟨s, o, none⟩ = false

set_option maxHeartbeats 400000 in
theorem wakeLocked_wakes (s : Nat) (slp spn un : Int) (w : World) (c10 : w.cell? ⟨s, 10, none⟩ = some (.int .i32 slp)) (c11 : w.cell? ⟨s, 11, none⟩ = some (.int .i32 spn))
    (c82 : w.cell? ⟨s, 82, none⟩ = some (.int .u32 0)) (c83 : w.cell? ⟨s, 83, none⟩ = some (.int .u32 0)) (c87 : w.cell? ⟨s, 87, none⟩ = some (.int .u64 0)) (c125 : w.cell? ⟨s, 125, none⟩ = some (.int .u64 un))
    (fz : ∀ o, w.frozen? ⟨s, o, none⟩ = false) (h1 : ¬ 0 < spn) (h2 : ¬ slp = 0) :
    Calls Yba.prog 30 #[.pointer (some ⟨s, 0, none⟩)] w fun e w' => e = .returned (.tuple #[]) ∧
      w' = (((w.setCell ⟨s, 10, none⟩ (.int .i32 (wrap32 (slp + -1)))).setCell ⟨s, 11, none⟩ (.int .i32 (wrap32 (spn + 1)))).setCell ⟨s, 125, none⟩ (.int .u64 (IntKind.u64.wrap (un + 1)))).setCell ⟨s, 87, none⟩ (.pointer (some ⟨s, 87, none⟩)) := by
  have g1 : decide (0 < spn) = false := by simpa using h1
  have g2 : (slp == 0) = false := by simpa using h2
  have f125 := fz 125
  go_enter Yba.func30, Yba.ntmps30
  go_wp2_with fail
  refine (load32 s 11 spn _ c11).mono ?_
  rintro e w' ⟨rfl, hw⟩
  obtain rfl := hw.symm
  go_wp2_with fail
  refine (load32 s 10 slp _ c10).mono ?_
  rintro e w' ⟨rfl, hw⟩
  obtain rfl := hw.symm
  go_wp2_with fail
  refine (add32 s 10 slp _ _ c10 (fz 10)).mono ?_
  rintro e w' ⟨rfl, rfl⟩
  go_wp2_with fail
  refine (add32 s 11 spn _ _ ?_ ?_).mono ?_
  · rw [World.cell?_setCell_other _ _ _ _ (by simp)]; exact c11
  · simpa using fz 11
  rintro e w' ⟨rfl, rfl⟩
  go_wp2_with fail
  refine (signal_any s 81 _ ?_ ?_ ?_ ?_).mono ?_
  · exact cell_skip (cell_skip (cell_skip c82 (by decide) _) (by decide) _) (by decide) _
  · exact cell_skip (cell_skip (cell_skip c83 (by decide) _) (by decide) _) (by decide) _
  · exact cell_skip (cell_skip (cell_skip c87 (by decide) _) (by decide) _) (by decide) _
  · simpa using fz 87
  rintro e w' ⟨rfl, rfl⟩
  go_wp2
  go_end0
  exact ⟨rfl, rfl⟩

set_option maxHeartbeats 400000 in
theorem wake_not (s : Nat) (slp spn shl un : Int) (w : World) (h : Sched w s slp spn shl un) (hn : 0 < spn ∨ slp = 0) :
    Calls Yba.prog 23 #[.pointer (some ⟨s, 0, none⟩)] w fun e w' => e = .returned (.tuple #[]) ∧ w' = w := by
  have H := Hid.mk' h
  clear h
  by_cases h1 : 0 < spn
  · clear hn
    go_enter Yba.func23, Yba.ntmps23
    go_wp2_with fail
    refine (load32 s 11 spn _ H.out.c11).mono ?_
    rintro e w' ⟨rfl, hw⟩
    obtain rfl := hw.symm
    go_wp2
    refine bodyPost_ret (results_none rfl _ _ _) rfl ?_
    exact ⟨rfl, rfl⟩
  · have h2 : slp = 0 := by omega
    subst h2
    clear hn
    have g1 : decide (0 < spn) = false := by simpa using h1
    go_enter Yba.func23, Yba.ntmps23
    go_wp2_with fail
    refine (load32 s 11 spn _ H.out.c11).mono ?_
    rintro e w' ⟨rfl, hw⟩
    obtain rfl := hw.symm
    go_wp2_with fail
    refine (load32 s 10 0 _ H.out.c10).mono ?_
    rintro e w' ⟨rfl, hw⟩
    obtain rfl := hw.symm
    go_wp2
    refine bodyPost_ret (results_none rfl _ _ _) rfl ?_
    exact ⟨rfl, rfl⟩

set_option maxHeartbeats 400000 in
theorem wake_wakes (s : Nat) (slp spn shl un : Int) (w : World) (h : Sched w s slp spn shl un) (h1 : ¬ 0 < spn) (h2 : ¬ slp = 0) :
    Calls Yba.prog 23 #[.pointer (some ⟨s, 0, none⟩)] w fun e w' => e = .returned (.tuple #[]) ∧ (w'.cell? ⟨s, 10, none⟩ = some (.int .i32 (wrap32 (slp + -1))) ∧ w'.cell? ⟨s, 11, none⟩ = some (.int .i32 (wrap32 (spn + 1))) ∧
      w'.cell? ⟨s, 12, none⟩ = some (.int .i64 shl) ∧ w'.cell? ⟨s, 125, none⟩ = some (.int .u64 (IntKind.u64.wrap (un + 1)))) ∧ Kept s w w' := by
  have H := Hid.mk' h
  clear h
  have g1 : decide (0 < spn) = false := by simpa using h1
  have g2 : (slp == 0) = false := by simpa using h2
  go_enter Yba.func23, Yba.ntmps23
  go_wp2_with fail
  refine (load32 s 11 spn _ H.out.c11).mono ?_
  rintro e w' ⟨rfl, hw⟩
  obtain rfl := hw.symm
  go_wp2_with fail
  refine (load32 s 10 slp _ H.out.c10).mono ?_
  rintro e w' ⟨rfl, hw⟩
  obtain rfl := hw.symm
  go_wp2_with fail
  refine (lock_free Yba.muLib ⟨s, 79, none⟩ _ H.out.c79 (H.out.fz 79)).mono ?_
  rintro e w' ⟨rfl, rfl⟩
  go_wp2_with fail
  refine (wakeLocked_wakes s slp spn un _ (cell_skip H.out.c10 (by decide) _) (cell_skip H.out.c11 (by decide) _) (cell_skip H.out.c82 (by decide) _) (cell_skip H.out.c83 (by decide) _) (cell_skip H.out.c87 (by decide) _) (cell_skip H.out.c125 (by decide) _) ?_ (by omega) h2).mono ?_
  · intro o; simpa using H.out.fz o
  rintro e w' ⟨rfl, rfl⟩
  go_wp2_with fail
  refine (unlock_held Yba.muLib ⟨s, 79, none⟩ _ ?_ ?_).mono ?_
  · exact cell_skip (cell_skip (cell_skip (cell_skip (cell_hit H.out.c79 _) (by decide) _) (by decide) _) (by decide) _) (by decide) _
  · simpa using H.out.fz 79
  rintro e w' ⟨rfl, rfl⟩
  go_wp2
  go_end0
  refine ⟨rfl, ⟨?_, ?_, ?_, ?_⟩, ?_⟩
  · exact cell_skip (cell_skip (cell_skip (cell_skip (cell_hit (cell_skip H.out.c10 (by decide) _) _) (by decide) _) (by decide) _) (by decide) _) (by decide) _
  · exact cell_skip (cell_skip (cell_skip (cell_hit (cell_skip (cell_skip H.out.c11 (by decide) _) (by decide) _) _) (by decide) _) (by decide) _) (by decide) _
  · exact cell_skip (cell_skip (cell_skip (cell_skip (cell_skip (cell_skip H.out.c12 (by decide) _) (by decide) _) (by decide) _) (by decide) _) (by decide) _) (by decide) _
  · exact cell_skip (cell_skip (cell_hit (cell_skip (cell_skip (cell_skip H.out.c125 (by decide) _) (by decide) _) (by decide) _) _) (by decide) _) (by decide) _
  · exact (((((((Kept.refl _ _).setCell _ _).setCell _ _).setCell _ _).setCell _ _).setCell _ _).setCell _ _)
end Go.Proofs.Ybulkalgq
