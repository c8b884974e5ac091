/- The proof of the row LawS1847BScriptSaid: the frame after the kit's shell for slices; the steps are opened as a row of pairs; the walk is in YbulkalfoScriptB. -/
import Derived.Test.YbulkalfoRows
import Derived.WalkKit
import Derived.ProofKit
import Derived.OpenShut
import Derived.ShutString
import Derived.ChangeOld
import Derived.Below
import Derived.Deep.SlicePairs
import Derived.Test.YbulkalfoScriptB
namespace Go.Proofs.Ybulkalfo.lawS1847BScript
open Go.ChangeShapes Go.WideShapes Go.ChangeAt Go.RowKit
set_option linter.unusedVariables false

theorem own : ownKnob Yba.prog.godebug = none := by kernel_rfl
theorem laidOut : laidOutB Yba.prog = true := by kernel_rfl
theorem cells42 : Yba.prog.cellsOf 42 = 2 := by kernel_rfl
theorem cells5 : Yba.prog.cellsOf 5 = 1 := by kernel_rfl
theorem cells2 : Yba.prog.cellsOf 2 = 1 := by kernel_rfl

theorem byte_bounds {a : Int} (h : (Lit.int .u8 a).wf = true) : 0 ≤ a ∧ a ≤ 255 := by
  simp [Lit.wf, IntKind.min, IntKind.max, IntKind.signed, IntKind.bits] at h; omega
theorem add_zero_addr (a : Addr) : a.add 0 = a := by simp [Addr.add]
theorem spot_none {w : World} {a : Addr} {v : Value} (h : w.cell? a = some v) : a.spot = none := by
  unfold World.cell? at h
  split at h
  · split at h
    · cases h
    · rename_i hs; simpa using hs
  · cases h

/-- The steps as the walk wants them. -/
theorem steps_of {H : Type} {enc : TypeId × Value → H} {W : World} {a : Option Addr} {len cap : Nat} {d : DataW H} {ps : List MemPlace} (h : DataW.Trod enc Yba.prog W 0 (fun _ => true) true 40 (.slice a len cap) d ps) : IsSteps W a len := by
  obtain ⟨fuel, hf⟩ := h
  rcases Deep.open_slice_pairs Yba.underlying40 Yba.underlying42 cells42 rfl rfl cells5 cells2 hf with ⟨hcs, _⟩ | ⟨x, l, c, m, n, V0, V1, D0, D1, P0, P1, hcs, _, hl, hm, hmm, _, hx⟩
  · simp [Value.cells] at hcs
    exact .inl hcs.2.1
  · simp [Value.cells] at hcs
    obtain ⟨rfl, rfl, rfl⟩ := hcs
    simp at hmm
    by_cases h0 : len = 0
    · exact .inl h0
    · have g := (hx 0 (by omega)).1
      have hsp := spot_none (by simpa [add_zero_addr] using g)
      obtain ⟨b, off, sp⟩ := x
      simp only at hsp
      subst hsp
      refine .inr ⟨b, off, rfl, ?_, fun i hi => ?_⟩
      · rw [Nat.zero_mul, add_zero_addr] at g
        apply Decidable.byContradiction
        intro hn
        unfold World.cell? at g
        rw [Array.getElem?_eq_none (by simpa using hn)] at g
        cases g
      · obtain ⟨g0, g1, t0, t1⟩ := hx i (by omega)
        obtain ⟨o, e0, _, wo⟩ := DataW.trod_int Yba.underlying5 t0
        obtain ⟨A, e1, _, wA⟩ := DataW.trod_int Yba.underlying2 t1
        simp at e0 e1
        rw [e0] at g0
        rw [e1] at g1
        refine ⟨o, A, ?_, ?_, byte_bounds wo, i64_bounds wA⟩
        · rw [← g0]; unfold Addr.add; split
          · rename_i hz; simp [hz]
          · rfl
        · rw [← g1]; unfold Addr.add; rw [if_neg (by omega)]; rfl

/-! ### The row's step -/
set_option maxRecDepth 100000 in
theorem lifted (os : Os) (started : os.Started) (H : Type) (enc : TypeId × Value → H) :
    ReturnsInHanded {} Yba.checked os 6 .any (Rows.lawS1847BScriptSpec.pre6 enc Yba.prog Yba.f6 Rows.lawS1847BScriptRow.domain false) (Rows.lawS1847BScriptSpec.post enc Yba.prog Yba.f6 false true false false) := by
  refine returnsInHanded_of_change (C := Yba.checked) own started (by kernel_rfl) Yba.func6
    (ChangeSpec.witness6 (enc := enc) (C := Yba.checked) false ⟨#[], #[.int .i64 0, .slice none 0 0], []⟩ 8 (by kernel_rfl) (by kernel_rfl) (by kernel_rfl) (by kernel_rfl)) ?_
  intro W base args ds gs before hval0 hW hcnd _
  have hval : ∀ (j : Nat) t v, Yba.f6.params[j]? = some t → args[j]? = some v → Value.okWide Yba.prog W .any base t v := hval0
  have hW' := hW
  obtain ⟨p, q, hA0, hV, rfl, hfz, hnd⟩ := hW
  have hA : DataW.TrodAll enc Yba.prog W 0 (fun _ => true) true Yba.f6.params.toList args.toList ds p := hA0
  rw [Yba.params6] at hA hval
  obtain ⟨v0, vs0, d0, ds0, p0, q0, hargs, rfl, rfl, h0, r0⟩ := trodAll_cons hA
  obtain ⟨v1, vs1, d1, ds1, p1, q1, rfl, rfl, rfl, h1, r1⟩ := trodAll_cons r0
  obtain ⟨rfl, rfl, rfl⟩ := trodAll_nil r1
  obtain rfl : args = #[v0, v1] := by cases args; simp_all
  obtain ⟨rfl, rfl⟩ := trodVars_none hV
  obtain ⟨a0, rfl, rfl, rfl, w0⟩ := open_int Yba.underlying2 (hval 0 2 v0 rfl rfl) h0
  obtain ⟨a1, len1, cap1, rfl⟩ := okWide_slice Yba.underlying40 (hval 1 40 v1 rfl rfl)
  have k1 := h1
  have lt1 : ∀ x ∈ p1, x.block < W.heap.size := by obtain ⟨m, hm⟩ := k1; exact DataW.trod_lt m _ _ _ hm
  clear hA0 hval0
  refine (script_walk a0 a1 len1 cap1 W w0 (steps_of h1)).mono fun e W' ⟨he, bel⟩ => ?_
  subst he
  exact ⟨_, rfl, _, _, _, [], _, [], hW', trodAll_mk1 (shut_bool Yba.underlying4 _), (trodAll_cons_mk (shut_int Yba.underlying2 w0) (trodAll_cons_mk (Below.trod laidOut (by kernel_rfl) (of_decide_eq_true (by kernel_rfl)) k1 bel lt1) trodAll_mk0)), rfl, bel.frame _, fun h => by cases h⟩

theorem over : Rows.lawS1847BScriptRow.holds Yba.pinned (OpenSpec.ofChange Rows.lawS1847BScriptSpec) :=
  OpenClaim.holds_of_wide 6 Yba.f6 rfl rfl rfl rfl rfl rfl rfl ⟨rfl, rfl, rfl, rfl, rfl⟩ rfl rfl rfl rfl rfl (by kernel_rfl) Yba.func6 (by kernel_rfl)
    (of_decide_eq_true (by kernel_rfl)) (by unfold Func.isWrapper; first | (rw [if_pos (by decide +kernel)]; kernel_rfl) | (rw [if_neg (by decide +kernel)]; exact ⟨rfl, rfl⟩))
    (fun os started H enc _ => lifted os started H enc)

/-- The statement. -/
theorem proved : Rows.LawS1847BScriptSaid := over
end Go.Proofs.Ybulkalfo.lawS1847BScript
