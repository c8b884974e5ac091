import Derived.Test.YbulkalgqWorker
namespace Go.Proofs.Ybulkalgq
open Go.ChangeShapes Go.WideShapes Go.ChangeAt Go.RowKit Go.MuLone

/-- What the law's data say of one worker. -/
structure Wk where
  top : Int
  bot : Int
  hand : Bool
  fill : Int
  over : Int

/-- Something is queued at this worker. -/
def Wk.q (x : Wk) : Bool := (x.top != x.bot) || (x.hand && x.fill == x.over)
/-- Something is queued at one of the first k. -/
def anyQ (xs : Nat → Wk) (k : Nat) : Bool := (List.range k).any fun i => (xs i).q
theorem anyQ_succ (xs : Nat → Wk) (k : Nat) : anyQ xs (k + 1) = (anyQ xs k || (xs k).q) := by
  simp [anyQ, List.range_succ]
theorem anyQ_true {xs : Nat → Wk} {k n : Nat} (hk : k < n) (h : (xs k).q = true) : anyQ xs n = true := by
  unfold anyQ
  rw [List.any_eq_true]
  exact ⟨k, List.mem_range.2 hk, h⟩

/-- A worker's block, as far as the queue's test reads it. -/
structure WorkerAt (w : World) (b : Nat) (x : Wk) : Prop where
  t0 : 0 ≤ x.top
  t1 : x.top < 4294967296
  b0 : 0 ≤ x.bot
  b1 : x.bot < 4294967296
  ends : w.cell? ⟨b, 10, none⟩ = some (.int .u64 (x.top * 4294967296 + x.bot))
  hand : (x.hand = false ∧ w.cell? ⟨b, 2, none⟩ = some (.pointer none)) ∨ (x.hand = true ∧ ∃ p, w.cell? ⟨b, 2, none⟩ = some (.pointer (some ⟨p, 0, none⟩)) ∧ w.shape? p = some (100, 8))
  fill : w.cell? ⟨b, 3, none⟩ = some (.int .u64 x.fill)
  over : w.cell? ⟨b, 5, none⟩ = some (.int .u64 x.over)

theorem WorkerAt.drewN {w : World} {b : Nat} {x : Wk} (h : WorkerAt w b x) (n : Nat) : WorkerAt (w.drewN n) b x :=
  ⟨h.t0, h.t1, h.b0, h.b1, h.ends, h.hand, h.fill, h.over⟩

/-- overdue, whole. -/
theorem overdue_any (b : Nat) (x : Wk) (w : World) (h : WorkerAt w b x) :
    Calls Yba.prog 28 #[.pointer (some ⟨b, 0, none⟩)] w fun e w' => e = .returned (.bool (x.hand && x.fill == x.over)) ∧ ∃ n, w' = w.drewN n := by
  rcases h.hand with ⟨hh, c2⟩ | ⟨hh, p, c2, hp⟩
  · refine (overdue_none b w c2).mono ?_
    rintro e w' ⟨rfl, hw⟩
    exact ⟨retb (by simp [hh]), hw⟩
  · refine (overdue_some b p _ _ w c2 hp h.fill h.over).mono ?_
    rintro e w' ⟨rfl, hw⟩
    exact ⟨retb (by rw [hh, Bool.true_and]; exact BEq.comm), hw⟩

set_option maxHeartbeats 400000 in
theorem any_shared (s : Nat) (shl : Int) (w : World) (c12 : w.cell? ⟨s, 12, none⟩ = some (.int .i64 shl)) (h : 0 < shl) :
    Calls Yba.prog 22 #[.pointer (some ⟨s, 0, none⟩)] w fun e w' => e = .returned (.bool true) ∧ ∃ n, w' = w.drewN n := by
  go_enter Yba.func22, Yba.ntmps22
  go_wp2_with fail
  refine (load64 s 12 shl _ c12).mono ?_
  rintro e w' ⟨rfl, rfl⟩
  go_wp2
  go_ret
  exact ⟨rfl, 0, rfl⟩

set_option maxHeartbeats 800000 in
theorem any_workers (s m len : Nat) (shl : Int) (xs : Nat → Wk) (w : World) (hlen : len ≤ 1024) (c12 : w.cell? ⟨s, 12, none⟩ = some (.int .i64 shl)) (h : ¬ 0 < shl)
    (c0 : w.cell? ⟨s, 0, none⟩ = some (.slice (some ⟨m, 0, none⟩) len len)) (hs : Hid (∀ i, i < len → ∃ b, w.cell? ⟨m, i, none⟩ = some (.pointer (some ⟨b, 0, none⟩)) ∧ WorkerAt w b (xs i))) :
    Calls Yba.prog 22 #[.pointer (some ⟨s, 0, none⟩)] w fun e w' => e = .returned (.bool (anyQ xs len)) ∧ ∃ n, w' = w.drewN n := by
  go_enter Yba.func22, Yba.ntmps22
  go_wp2_with fail
  refine (load64 s 12 shl _ c12).mono ?_
  rintro e w' ⟨rfl, hw⟩
  obtain rfl := hw.symm
  go_wp2
  go_loopw [15] (fun i wr => ∃ k n : Nat, k ≤ len ∧ i = .int .i64 k ∧ Hid (wr = w.drewN n) ∧ Hid (anyQ xs k = false)) (fun i _ => len - (intOf i).toNat)
  case atStart => exact ⟨0, 0, Nat.zero_le _, rfl, Hid.mk' rfl, Hid.mk' rfl⟩
  case round =>
    obtain ⟨k, n, hk, rfl, hw, HA⟩ := hrel
    have hw' := hw.out
    subst hw'
    by_cases hlt : k < len
    · obtain ⟨b, cb, hx⟩ := hs.out k hlt
      have HX := Hid.mk' hx
      have hq : (xs k).q = (decide (0 < szOf (xs k).top (xs k).bot) || ((xs k).hand && (xs k).fill == (xs k).over)) := by
        rw [szOf_pos _ _ hx.t0 hx.t1 hx.b0 hx.b1]; rfl
      have HQ := Hid.mk' hq
      clear hx hq
      by_cases hz : 0 < szOf (xs k).top (xs k).bot
      · go_wp2_with fail
        refine (size_any b 10 (xs k).top (xs k).bot _ HX.out.t0 HX.out.t1 HX.out.b0 HX.out.b1 (by simpa using HX.out.ends)).mono ?_
        rintro e w' ⟨rfl, rfl⟩
        go_wp2
        go_ret
        exact ⟨retb (by symm; exact anyQ_true hlt (by rw [HQ.out]; simp [hz])), n, rfl⟩
      · have hzd : decide (0 < szOf (xs k).top (xs k).bot) = false := by simpa using hz
        cases ho : ((xs k).hand && (xs k).fill == (xs k).over)
        all_goals
          have HO := Hid.mk' ho
          clear ho
          go_wp2_with fail
          refine (size_any b 10 (xs k).top (xs k).bot _ HX.out.t0 HX.out.t1 HX.out.b0 HX.out.b1 (by simpa using HX.out.ends)).mono ?_
          rintro e w' ⟨rfl, rfl⟩
          go_wp2_with fail
          refine (overdue_any b (xs k) _ (HX.out.drewN n)).mono ?_
          rintro e w' ⟨rfl, n2, rfl⟩
          rw [HO.out]
          go_wp2
        · go_roundw
          case rel => exact ⟨k + 1, n + n2, by omega, by go_num, Hid.mk' rfl, Hid.mk' (by rw [anyQ_succ, HA.out, HQ.out, HO.out, hzd]; rfl)⟩
          case measure => simp [intOf]; omega
        · go_ret
          exact ⟨retb (by symm; exact anyQ_true hlt (by rw [HQ.out, HO.out]; simp)), n + n2, rfl⟩
    · have hkl : k = len := by omega
      go_wp2
      go_ret
      exact ⟨retb (by rw [← hkl, HA.out]), n, rfl⟩
end Go.Proofs.Ybulkalgq
