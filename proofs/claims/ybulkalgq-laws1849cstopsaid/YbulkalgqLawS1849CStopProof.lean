/- The proof of the row LawS1849CStopSaid: the frame after the kit's shell for slices; the workers are opened as a row of structs of five fields; the walk is in YbulkalgqCStopWalk. -/
import Derived.Test.YbulkalgqRows
import Derived.WalkKit
import Derived.ProofKit
import Derived.OpenShut
import Derived.ShutString
import Derived.ChangeOld
import Derived.Below
import Derived.Deep.Slices
import Derived.Test.YbulkalgqCStopWalk
namespace Go.Proofs.Ybulkalgq.lawS1849CStop
open Go.ChangeShapes Go.WideShapes Go.ChangeAt Go.RowKit
set_option linter.unusedVariables false

theorem own : ownKnob Yba.prog.godebug = none := by kernel_rfl
theorem laidOut : laidOutB Yba.prog = true := by kernel_rfl
theorem cells71 : Yba.prog.cellsOf 71 = 5 := by kernel_rfl
theorem cells40 : Yba.prog.cellsOf 40 = 1 := by kernel_rfl
theorem cells4 : Yba.prog.cellsOf 4 = 1 := by kernel_rfl
theorem cells25 : Yba.prog.cellsOf 25 = 1 := by kernel_rfl

theorem u32_bounds {a : Int} (h : (Lit.int .u32 a).wf = true) : 0 ≤ a ∧ a < 4294967296 := by
  simp [Lit.wf, IntKind.min, IntKind.max, IntKind.signed, IntKind.bits] at h; omega
theorem byte_bounds {a : Int} (h : (Lit.int .u8 a).wf = true) : 0 ≤ a ∧ a ≤ 255 := by
  simp [Lit.wf, IntKind.min, IntKind.max, IntKind.signed, IntKind.bits] at h; omega
theorem add_zero_addr (a : Addr) : a.add 0 = a := by simp [Addr.add]
theorem add_plain' (b off n : Nat) : (⟨b, off, none⟩ : Addr).add n = ⟨b, off + n, none⟩ := by
  unfold Addr.add
  split
  · rename_i h; subst h; rfl
  · rfl
theorem spot_none {w : World} {a : Addr} {v : Value} (h : w.cell? a = some v) : a.spot = none := by
  unfold World.cell? at h
  split at h
  · split at h
    · cases h
    · rename_i hs; simpa using hs
  · cases h
theorem block_lt {w : World} {a : Addr} {v : Value} (h : w.cell? a = some v) : a.block < w.heap.size := by
  apply Decidable.byContradiction
  intro hn
  unfold World.cell? at h
  rw [Array.getElem?_eq_none (by omega)] at h
  cases h

/-- What is known of one worker that came in. -/
def One (w : World) (b o : Nat) (x : Wk) : Prop :=
  w.cell? ⟨b, o, none⟩ = some (.int .u32 x.top) ∧ w.cell? ⟨b, o + 1, none⟩ = some (.int .u32 x.bot) ∧ w.cell? ⟨b, o + 2, none⟩ = some (.bool x.hand) ∧
    w.cell? ⟨b, o + 3, none⟩ = some (.int .u64 x.fill) ∧ w.cell? ⟨b, o + 4, none⟩ = some (.int .u64 x.over) ∧ (0 ≤ x.top ∧ x.top < 4294967296 ∧ 0 ≤ x.bot ∧ x.bot < 4294967296)

set_option maxRecDepth 20000 in
theorem one_of {H : Type} {enc : TypeId × Value → H} {W : World} {b o n : Nat} {cs : List Value} {d : DataW H × List MemPlace} (hlen : cs.length = 5) (hc : ∀ i, i < 5 → W.cell? ⟨b, o + i, none⟩ = cs[i]?)
    (h : DataW.trod enc Yba.prog W 0 (fun _ => true) true n 71 cs = some d) : ∃ x, One W b o x := by
  obtain ⟨xs, k, hk, hxy, _, hxl, hf⟩ := DataW.trod_struct Yba.underlying71 h
  match xs, hxl, cs, hlen with
  | [y0, y1, y2, y3, y4], _, [v0, v1, v2, v3, v4], _ =>
    have g0 := hf 0 _ rfl
    have g1 := hf 1 _ rfl
    have g2 := hf 2 _ rfl
    have g3 := hf 3 _ rfl
    have g4 := hf 4 _ rfl
    simp [cells40, cells4, cells25] at g0 g1 g2 g3 g4
    obtain ⟨t, e0, _, wt⟩ := DataW.trod_int Yba.underlying40 g0
    obtain ⟨bo, e1, _, wb⟩ := DataW.trod_int Yba.underlying40 g1
    obtain ⟨hd, e2, _⟩ := DataW.trod_bool Yba.underlying4 g2
    obtain ⟨fi, e3, _, _⟩ := DataW.trod_int Yba.underlying25 g3
    obtain ⟨ov, e4, _, _⟩ := DataW.trod_int Yba.underlying25 g4
    simp at e0 e1 e2 e3 e4
    subst e0 e1 e2 e3 e4
    exact ⟨⟨t, bo, hd, fi, ov⟩, hc 0 (by omega), hc 1 (by omega), hc 2 (by omega), hc 3 (by omega), hc 4 (by omega), (u32_bounds wt).1, (u32_bounds wt).2, (u32_bounds wb).1, (u32_bounds wb).2⟩

/-- The workers as the walk wants them. -/
theorem ws_of {H : Type} {enc : TypeId × Value → H} {W : World} {a : Option Addr} {len cap : Nat} {d : DataW H} {ps : List MemPlace} (h : DataW.Trod enc Yba.prog W 0 (fun _ => true) true 26 (.slice a len cap) d ps) :
    ∃ xs : Nat → Wk, 0 < len → ∃ b off, a = some ⟨b, off, none⟩ ∧ b < W.heap.size ∧ IsWs W b off len xs := by
  by_cases h0 : len = 0
  · exact ⟨fun _ => ⟨0, 0, false, 0, 0⟩, fun hl => by omega⟩
  obtain ⟨fuel, hf⟩ := h
  rcases Deep.open_slice Yba.underlying26 hf with ⟨hcs, _⟩ | ⟨x, l, c, m, n, D, Pl, hcs, _, hl, hm, hmm, _, hx⟩
  · simp [Value.cells] at hcs
    exact absurd hcs.2.1 h0
  · simp [Value.cells] at hcs
    obtain ⟨rfl, rfl, rfl⟩ := hcs
    simp at hmm
    rw [cells71] at hx
    have first : W.cell? x = W.cell? x ∧ ∃ v, W.cell? x = some v := by
      obtain ⟨cs', hc, _⟩ := hx 0 (by omega)
      obtain ⟨_, hlen, hcell⟩ := World.cells?_some hc
      have e := hcell 0 (by omega)
      rw [Nat.zero_mul, add_zero_addr, add_zero_addr] at e
      exact ⟨rfl, cs'[0]'(by omega), e.trans (List.getElem?_eq_getElem (by omega))⟩
    obtain ⟨v, hv⟩ := first.2
    have hsp := spot_none hv
    have hblk := block_lt hv
    obtain ⟨b, off, sp⟩ := x
    simp only at hsp hblk
    subst hsp
    have each : ∀ i, i < len → ∃ y, One W b (off + i * 5) y := by
      intro i hi
      obtain ⟨cs', hc, ht⟩ := hx i (by omega)
      obtain ⟨_, hlen, hcell⟩ := World.cells?_some hc
      refine one_of hlen (fun j hj => ?_) ht
      rw [← hcell j hj, Deep.add_add, add_plain', Nat.add_assoc]
    let f : Nat → Wk := fun i => if hi : i < len then Classical.choose (each i hi) else ⟨0, 0, false, 0, 0⟩
    refine ⟨f, fun _ => ⟨b, off, rfl, hblk, fun i hi => ?_⟩⟩
    have hfi : f i = Classical.choose (each i hi) := by simp only [f, dif_pos hi]
    rw [hfi]
    exact Classical.choose_spec (each i hi)

set_option maxRecDepth 20000 in
set_option maxHeartbeats 400000 in
theorem walk (a0 : Bool) (a1 a2 a3 a4 : Int) (a5 : Option Addr) (len cap : Nat) (a6 : Int) (w : World) (w6 : (Lit.int .u8 a6).wf = true)
    (hx : ∃ xs : Nat → Wk, 0 < len → ∃ b off, a5 = some ⟨b, off, none⟩ ∧ b < w.heap.size ∧ IsWs w b off len xs) :
    Calls Yba.prog 6 #[.bool a0, .int .i32 a1, .int .i32 a2, .int .i64 a3, .int .u64 a4, .slice a5 len cap, .int .u8 a6] w fun e w' => e = .returned (.bool true) ∧ Below w.heap.size w w' := by
  by_cases hl : len ≤ 1024
  · obtain ⟨xs, hx⟩ := hx
    exact cstop_some a0 a1 a2 a3 a4 a5 len cap a6 xs w hl (byte_bounds w6) (Hid.mk' hx)
  · have hl' : (1024 : Int) < (len : Int) := by omega
    clear hx hl w6
    go_enter Yba.func6, Yba.ntmps6
    go_wp2
    go_ret
    exact ⟨rfl, Below.refl _ _⟩

/-! ### The row's step -/
set_option maxRecDepth 100000 in
theorem lifted (os : Os) (started : os.Started) (H : Type) (enc : TypeId × Value → H) :
    ReturnsInHanded {} Yba.checked os 6 .any (Rows.lawS1849CStopSpec.pre6 enc Yba.prog Yba.f6 Rows.lawS1849CStopRow.domain false) (Rows.lawS1849CStopSpec.post enc Yba.prog Yba.f6 false true false false) := by
  refine returnsInHanded_of_change (C := Yba.checked) own started (by kernel_rfl) Yba.func6
    (ChangeSpec.witness6 (enc := enc) (C := Yba.checked) false ⟨#[], #[.bool false, .int .i32 0, .int .i32 0, .int .i64 0, .int .u64 0, .slice none 0 0, .int .u8 0], []⟩ 8 (by kernel_rfl) (by kernel_rfl) (by kernel_rfl) (by kernel_rfl)) ?_
  intro W base args ds gs before hval0 hW hcnd _
  have hval : ∀ (j : Nat) t v, Yba.f6.params[j]? = some t → args[j]? = some v → Value.okWide Yba.prog W .any base t v := hval0
  have hW' := hW
  obtain ⟨p, q, hA0, hV, rfl, hfz, hnd⟩ := hW
  have hA : DataW.TrodAll enc Yba.prog W 0 (fun _ => true) true Yba.f6.params.toList args.toList ds p := hA0
  rw [Yba.params6] at hA hval
  obtain ⟨v0, vs0, d0, ds0, p0, q0, hargs, rfl, rfl, h0, r0⟩ := trodAll_cons hA
  obtain ⟨v1, vs1, d1, ds1, p1, q1, rfl, rfl, rfl, h1, r1⟩ := trodAll_cons r0
  obtain ⟨v2, vs2, d2, ds2, p2, q2, rfl, rfl, rfl, h2, r2⟩ := trodAll_cons r1
  obtain ⟨v3, vs3, d3, ds3, p3, q3, rfl, rfl, rfl, h3, r3⟩ := trodAll_cons r2
  obtain ⟨v4, vs4, d4, ds4, p4, q4, rfl, rfl, rfl, h4, r4⟩ := trodAll_cons r3
  obtain ⟨v5, vs5, d5, ds5, p5, q5, rfl, rfl, rfl, h5, r5⟩ := trodAll_cons r4
  obtain ⟨v6, vs6, d6, ds6, p6, q6, rfl, rfl, rfl, h6, r6⟩ := trodAll_cons r5
  obtain ⟨rfl, rfl, rfl⟩ := trodAll_nil r6
  obtain rfl : args = #[v0, v1, v2, v3, v4, v5, v6] := by cases args; simp_all
  obtain ⟨rfl, rfl⟩ := trodVars_none hV
  obtain ⟨a0, rfl, rfl, rfl⟩ := open_bool Yba.underlying4 (hval 0 4 v0 rfl rfl) h0
  obtain ⟨a1, rfl, rfl, rfl, w1⟩ := open_int Yba.underlying21 (hval 1 21 v1 rfl rfl) h1
  obtain ⟨a2, rfl, rfl, rfl, w2⟩ := open_int Yba.underlying21 (hval 2 21 v2 rfl rfl) h2
  obtain ⟨a3, rfl, rfl, rfl, w3⟩ := open_int Yba.underlying2 (hval 3 2 v3 rfl rfl) h3
  obtain ⟨a4, rfl, rfl, rfl, w4⟩ := open_int Yba.underlying25 (hval 4 25 v4 rfl rfl) h4
  obtain ⟨a5, len5, cap5, rfl⟩ := okWide_slice Yba.underlying26 (hval 5 26 v5 rfl rfl)
  have k5 := h5
  have lt5 : ∀ x ∈ p5, x.block < W.heap.size := by obtain ⟨m, hm⟩ := k5; exact DataW.trod_lt m _ _ _ hm
  obtain ⟨a6, rfl, rfl, rfl, w6⟩ := open_int Yba.underlying5 (hval 6 5 v6 rfl rfl) h6
  clear hA0 hval0
  refine (walk a0 a1 a2 a3 a4 a5 len5 cap5 a6 W w6 (ws_of h5)).mono fun e W' ⟨he, bel⟩ => ?_
  subst he
  exact ⟨_, rfl, _, _, _, [], _, [], hW', trodAll_mk1 (shut_bool Yba.underlying4 _), (trodAll_cons_mk (shut_bool Yba.underlying4 _) (trodAll_cons_mk (shut_int Yba.underlying21 w1) (trodAll_cons_mk (shut_int Yba.underlying21 w2) (trodAll_cons_mk (shut_int Yba.underlying2 w3) (trodAll_cons_mk (shut_int Yba.underlying25 w4) (trodAll_cons_mk (Below.trod laidOut (by kernel_rfl) (of_decide_eq_true (by kernel_rfl)) k5 bel lt5) (trodAll_cons_mk (shut_int Yba.underlying5 w6) trodAll_mk0))))))), rfl, bel.frame _, fun h => by cases h⟩

theorem over : Rows.lawS1849CStopRow.holds Yba.pinned (OpenSpec.ofChange Rows.lawS1849CStopSpec) :=
  OpenClaim.holds_of_wide 6 Yba.f6 rfl rfl rfl rfl rfl rfl rfl ⟨rfl, rfl, rfl, rfl, rfl⟩ rfl rfl rfl rfl rfl (by kernel_rfl) Yba.func6 (by kernel_rfl)
    (of_decide_eq_true (by kernel_rfl)) (by unfold Func.isWrapper; first | (rw [if_pos (by decide +kernel)]; kernel_rfl) | (rw [if_neg (by decide +kernel)]; exact ⟨rfl, rfl⟩))
    (fun os started H enc _ => lifted os started H enc)

/-- The statement. -/
theorem proved : Rows.LawS1849CStopSaid := over
end Go.Proofs.Ybulkalgq.lawS1849CStop
