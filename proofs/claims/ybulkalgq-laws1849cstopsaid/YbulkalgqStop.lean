import Derived.Test.YbulkalgqWake
namespace Go.Proofs.Ybulkalgq
open Go.ChangeShapes Go.WideShapes Go.ChangeAt Go.RowKit Go.MuLone

theorem shape_setCell (w : World) (a : Addr) (v : Value) (p : Nat) : (w.setCell a v).shape? p = w.shape? p := by
  unfold World.shape? World.setCell
  simp only [Array.getElem?_modify]
  by_cases hk : a.block = p
  · simp only [hk, if_true]
    cases w.heap[p]? with
    | none => rfl
    | some x => cases x <;> simp; split <;> simp
  · simp [hk]

theorem WorkerAt.setCell {w : World} {b k o : Nat} {x : Wk} (h : WorkerAt w b x) (hk : k ≠ b ∨ o = 8) (v : Value) : WorkerAt (w.setCell ⟨k, o, none⟩ v) b x := by
  have skip : ∀ {o' : Nat} {u : Value}, o' ≠ 8 → w.cell? ⟨b, o', none⟩ = some u → (w.setCell ⟨k, o, none⟩ v).cell? ⟨b, o', none⟩ = some u := by
    intro o' u ho hc
    rcases hk with hk | hk
    · exact cell_skipb hc hk v
    · by_cases e : k = b
      · subst e; exact cell_skip hc (by omega) v
      · exact cell_skipb hc e v
  refine ⟨h.t0, h.t1, h.b0, h.b1, skip (by decide) h.ends, ?_, skip (by decide) h.fill, skip (by decide) h.over⟩
  rcases h.hand with ⟨e, c⟩ | ⟨e, p, c, hp⟩
  · exact .inl ⟨e, skip (by decide) c⟩
  · exact .inr ⟨e, p, skip (by decide) c, by rw [shape_setCell]; exact hp⟩

/-- One worker of the law's: its block, its scheduler, its mark. -/
structure Man (w : World) (s m b : Nat) (x : Wk) : Prop where
  ns : b ≠ s
  nm : b ≠ m
  at' : WorkerAt w b x
  c0 : w.cell? ⟨b, 0, none⟩ = some (.pointer (some ⟨s, 0, none⟩))
  c8 : ∃ v, w.cell? ⟨b, 8, none⟩ = some (.bool v)
  fz : ∀ o, w.frozen? ⟨b, o, none⟩ = false

/-- The scheduler's workers. -/
structure Crew (w : World) (s m len : Nat) (xs : Nat → Wk) : Prop where
  ne : m ≠ s
  c0 : w.cell? ⟨s, 0, none⟩ = some (.slice (some ⟨m, 0, none⟩) len len)
  each : ∀ i, i < len → ∃ b, w.cell? ⟨m, i, none⟩ = some (.pointer (some ⟨b, 0, none⟩)) ∧ Man w s m b (xs i)

theorem frozen_setCell (w : World) (a p : Addr) (v : Value) : (w.setCell a v).frozen? p = w.frozen? p := by simp

theorem Man.set8 {w : World} {s m b b' : Nat} {x : Wk} (h : Man w s m b' x) (v : Bool) : Man (w.setCell ⟨b, 8, none⟩ (.bool v)) s m b' x := by
  refine ⟨h.ns, h.nm, h.at'.setCell (.inr rfl) _, ?_, ?_, fun o => by rw [frozen_setCell]; exact h.fz o⟩
  · by_cases e : b = b'
    · subst e; exact cell_skip h.c0 (by decide) _
    · exact cell_skipb h.c0 e _
  · obtain ⟨u, hu⟩ := h.c8
    by_cases e : b = b'
    · subst e; exact ⟨v, cell_hit hu _⟩
    · exact ⟨u, cell_skipb hu e _⟩
theorem Man.setS {w : World} {s m b : Nat} {x : Wk} (h : Man w s m b x) (o : Nat) (v : Value) : Man (w.setCell ⟨s, o, none⟩ v) s m b x := by
  refine ⟨h.ns, h.nm, h.at'.setCell (.inl (Ne.symm h.ns)) _, cell_skipb h.c0 (Ne.symm h.ns) _, ?_, fun o => by rw [frozen_setCell]; exact h.fz o⟩
  obtain ⟨u, hu⟩ := h.c8
  exact ⟨u, cell_skipb hu (Ne.symm h.ns) _⟩
theorem Crew.set8 {w : World} {s m len b : Nat} {xs : Nat → Wk} (h : Crew w s m len xs) (hs : b ≠ s) (hm : b ≠ m) (v : Bool) : Crew (w.setCell ⟨b, 8, none⟩ (.bool v)) s m len xs :=
  ⟨h.ne, cell_skipb h.c0 hs _, fun i hi => by
    obtain ⟨b', hc, hb⟩ := h.each i hi
    exact ⟨b', cell_skipb hc hm _, hb.set8 v⟩⟩
theorem Crew.setS {w : World} {s m len o : Nat} {xs : Nat → Wk} (h : Crew w s m len xs) (ho : o ≠ 0) (v : Value) : Crew (w.setCell ⟨s, o, none⟩ v) s m len xs :=
  ⟨h.ne, cell_skip h.c0 ho _, fun i hi => by
    obtain ⟨b', hc, hb⟩ := h.each i hi
    exact ⟨b', cell_skipb hc (Ne.symm h.ne) _, hb.setS o v⟩⟩

/-- anyQueued, whole. -/
theorem any_any (s m len : Nat) (shl : Int) (xs : Nat → Wk) (w : World) (hlen : len ≤ 1024) (c12 : w.cell? ⟨s, 12, none⟩ = some (.int .i64 shl)) (h : Crew w s m len xs) :
    Calls Yba.prog 22 #[.pointer (some ⟨s, 0, none⟩)] w fun e w' => e = .returned (.bool (decide (0 < shl) || anyQ xs len)) ∧ ∃ n, w' = w.drewN n := by
  by_cases hs : 0 < shl
  · refine (any_shared s shl w c12 hs).mono ?_
    rintro e w' ⟨rfl, hw⟩
    exact ⟨retb (by simp [hs]), hw⟩
  · refine (any_workers s m len shl xs w hlen c12 hs h.c0 (Hid.mk' fun i hi => ?_)).mono ?_
    · obtain ⟨b, hc, hb⟩ := h.each i hi
      exact ⟨b, hc, hb.at'⟩
    rintro e w' ⟨rfl, hw⟩
    exact ⟨retb (by simp [hs]), hw⟩

theorem Sched.drewN {w : World} {s : Nat} {slp spn shl un : Int} (h : Sched w s slp spn shl un) (n : Nat) : Sched (w.drewN n) s slp spn shl un :=
  ⟨h.c10, h.c11, h.c12, h.c79, h.c82, h.c83, h.c87, h.c125, h.fz⟩
theorem Sched.set8 {w : World} {s b : Nat} {slp spn shl un : Int} (h : Sched w s slp spn shl un) (hb : b ≠ s) (o : Nat) (v : Value) : Sched (w.setCell ⟨b, o, none⟩ v) s slp spn shl un :=
  ⟨cell_skipb h.c10 hb _, cell_skipb h.c11 hb _, cell_skipb h.c12 hb _, cell_skipb h.c79 hb _, cell_skipb h.c82 hb _, cell_skipb h.c83 hb _, cell_skipb h.c87 hb _, cell_skipb h.c125 hb _, fun o => by rw [frozen_setCell]; exact h.fz o⟩
theorem Sched.spin {w : World} {s : Nat} {slp spn shl un : Int} (h : Sched w s slp spn shl un) (x : Int) : Sched (w.setCell ⟨s, 11, none⟩ (.int .i32 x)) s slp x shl un :=
  ⟨cell_skip h.c10 (by decide) _, cell_hit h.c11 _, cell_skip h.c12 (by decide) _, cell_skip h.c79 (by decide) _, cell_skip h.c82 (by decide) _, cell_skip h.c83 (by decide) _, cell_skip h.c87 (by decide) _, cell_skip h.c125 (by decide) _, fun o => by rw [frozen_setCell]; exact h.fz o⟩

/-- What the law looks at in the end. -/
structure End (w : World) (s b : Nat) (slp spn shl un : Int) : Prop where
  c10 : w.cell? ⟨s, 10, none⟩ = some (.int .i32 slp)
  c11 : w.cell? ⟨s, 11, none⟩ = some (.int .i32 spn)
  c12 : w.cell? ⟨s, 12, none⟩ = some (.int .i64 shl)
  c125 : w.cell? ⟨s, 125, none⟩ = some (.int .u64 un)
  c8 : w.cell? ⟨b, 8, none⟩ = some (.bool false)

set_option maxHeartbeats 400000 in
theorem stop_idle (b : Nat) (w : World) (c8 : w.cell? ⟨b, 8, none⟩ = some (.bool false)) :
    Calls Yba.prog 14 #[.pointer (some ⟨b, 0, none⟩)] w fun e w' => e = .returned (.tuple #[]) ∧ w' = w := by
  go_enter Yba.func14, Yba.ntmps14
  go_wp2
  refine bodyPost_ret (results_none rfl _ _ _) rfl ?_
  exact ⟨rfl, rfl⟩

/-- Behind stopSpinning, where the worker was spinning. -/
def woke (q : Bool) (spn slp : Int) : Bool := q && (decide (wrap32 (spn + -1) ≤ 0) && slp != 0)

set_option maxHeartbeats 800000 in
theorem stop_spins (B s m len b : Nat) (slp spn shl un : Int) (xs : Nat → Wk) (w : World) (hlen : len ≤ 1024) (hs : Sched w s slp spn shl un) (hcr : Crew w s m len xs)
    (nbs : b ≠ s) (nbm : b ≠ m) (c0 : w.cell? ⟨b, 0, none⟩ = some (.pointer (some ⟨s, 0, none⟩))) (c8 : w.cell? ⟨b, 8, none⟩ = some (.bool true)) (f8 : w.frozen? ⟨b, 8, none⟩ = false) (hB1 : B ≤ s) (hB2 : B ≤ b) (hB3 : B ≤ w.heap.size) (hbw : b < w.heap.size) :
    Calls Yba.prog 14 #[.pointer (some ⟨b, 0, none⟩)] w fun e w' => e = .returned (.tuple #[]) ∧
      ((woke (decide (0 < shl) || anyQ xs len) spn slp = true ∧ End w' s b (wrap32 (slp + -1)) (wrap32 (wrap32 (spn + -1) + 1)) shl (IntKind.u64.wrap (un + 1))) ∨
       (woke (decide (0 < shl) || anyQ xs len) spn slp = false ∧ End w' s b slp (wrap32 (spn + -1)) shl un)) ∧ Below B w w' := by
  have HS := Hid.mk' hs
  have HC := Hid.mk' hcr
  have HB := Hid.mk' (And.intro hB1 (And.intro hB2 (And.intro hB3 hbw)))
  clear hs hcr hB1 hB2 hB3 hbw
  have ex : ∀ q, woke q spn slp = (q && (decide (wrap32 (spn + -1) ≤ 0) && slp != 0)) := fun _ => rfl
  cases hq : (decide (0 < shl) || anyQ xs len)
  all_goals
    have HQ := Hid.mk' hq
    have EX := Hid.mk' ex
    clear hq ex
    go_enter Yba.func14, Yba.ntmps14
    go_wp2_with fail
    refine (add32 s 11 spn _ _ (HS.out.set8 nbs 8 _).c11 ((HS.out.set8 nbs 8 _).fz 11)).mono ?_
    rintro e w' ⟨rfl, rfl⟩
    go_wp2_with fail
    refine (any_any s m len shl xs _ hlen ((HS.out.set8 nbs 8 _).spin _).c12 ((HC.out.set8 nbs nbm false).setS (by decide) _)).mono ?_
    rintro e w' ⟨rfl, n, rfl⟩
    rw [HQ.out]
    have HE : Hid (∀ x, End (((w.setCell ⟨b, 8, none⟩ (.bool false)).setCell ⟨s, 11, none⟩ (.int .i32 x)).drewN n) s b slp x shl un) := Hid.mk' fun x =>
      ⟨((HS.out.set8 nbs 8 _).spin _).c10, ((HS.out.set8 nbs 8 _).spin _).c11, ((HS.out.set8 nbs 8 _).spin _).c12, ((HS.out.set8 nbs 8 _).spin _).c125, cell_skipb (cell_hit c8 _) (Ne.symm nbs) _⟩
    have HL : Hid (∀ x, Below B w (((w.setCell ⟨b, 8, none⟩ (.bool false)).setCell ⟨s, 11, none⟩ (.int .i32 x)).drewN n)) := Hid.mk' fun x =>
      have h1 := ((Below.refl B w).setCell (p := ⟨b, 8, none⟩) HB.out.2.1 (.bool false)).setCell (p := ⟨s, 11, none⟩) HB.out.1 (.int .i32 x)
      ⟨h1.os, h1.tape, h1.output, h1.size, h1.block⟩
  · go_wp2
    go_end0
    exact ⟨rfl, .inr ⟨by rw [EX.out]; rfl, HE.out _⟩, HL.out _⟩
  · by_cases hw : wrap32 (spn + -1) ≤ 0 ∧ ¬ slp = 0
    · have HW := Hid.mk' hw
      clear hw
      go_wp2_with fail
      refine (wake_wakes s slp (wrap32 (spn + -1)) shl un _ (((HS.out.set8 nbs 8 _).spin _).drewN n) (by have := HW.out; omega) HW.out.2).mono ?_
      rintro e w' ⟨rfl, ⟨e10, e11, e12, e125⟩, hk⟩
      have HK := Hid.mk' hk
      have H4 := Hid.mk' (And.intro e10 (And.intro e11 (And.intro e12 e125)))
      clear hk e10 e11 e12 e125
      go_wp2
      go_end0
      refine ⟨rfl, .inl ⟨by rw [EX.out]; simp [HW.out.1, HW.out.2], ⟨H4.out.1, H4.out.2.1, H4.out.2.2.1, H4.out.2.2.2, ?_⟩⟩, ?_⟩
      · rw [World.cell?_of_block (HK.out.block b (by simpa [World.drewN, World.setCell] using HB.out.2.2.2) nbs)]
        exact (HE.out _).c8
      · exact Kept.below (HL.out _) HK.out (by simpa [World.drewN, World.setCell] using HB.out.2.2.1) HB.out.1
    · have HW := Hid.mk' hw
      clear hw
      go_wp2_with fail
      refine (wake_not s slp (wrap32 (spn + -1)) shl un _ (((HS.out.set8 nbs 8 _).spin _).drewN n) (by have := HW.out; omega)).mono ?_
      rintro e w' ⟨rfl, rfl⟩
      go_wp2
      go_end0
      refine ⟨rfl, .inr ⟨?_, HE.out _⟩, HL.out _⟩
      rw [EX.out, Bool.eq_false_iff]
      intro h
      simp at h
      exact HW.out ⟨h.1, h.2⟩
end Go.Proofs.Ybulkalgq
