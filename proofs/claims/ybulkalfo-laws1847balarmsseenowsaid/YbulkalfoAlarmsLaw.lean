import Derived.Test.YbulkalfoAtA
import Derived.Test.YbulkalfoLB
import Derived.LoopTactic
import Derived.Deep.RegionWith
import Derived.Deep.DeepCutAuto
import Derived.Deep.OwnRows
import Derived.Deep.CutBlock
namespace Go.Proofs.Ybulkalfo
open Go.ChangeShapes Go.WideShapes Go.ChangeAt Go.RowKit Go.MuLone

/-- make([]time.Time, 0, n) -/
theorem make0 (n : Nat) (hn : n ≤ 1024) (w : World) : (Instr.makeSlice 48 (.int .i64 0) (.int .i64 (n : Int))).run Yba.prog w = .ok (.slice (some ⟨w.heap.size, 0, none⟩) 0 n) (w.alloc (.cells (madeCells #[.int .u64 0, .int .i64 0, .pointer none] (n * 3)) 32)) := by
  obtain ⟨i, hi, hz, hs, hb⟩ := info_parts' info32
  have := run_make (P := Yba.prog) w 48 32 i _ Yba.underlying48 hi hz .i64 .i64 0 (n : Int) (by omega) (by omega) (by rw [hb]; omega) (by omega)
  simpa [hs, Value.cells] using this

/-- A call of Add inside a region that draws, by its contract. -/
theorem step_add {ops : Array Oper} {o : Oper} {a : Act} {w : World} {K : Act → World → Prop} {Q : Exit → Act → World → Prop} {E : Prop}
    (hg : o.guard = none) (x y : Operand) (hop : o.op = Op.call { callee := Callee.value (.func 10), args := #[x, y], argTypes := #[32, 34] })
    (v u r : Value) (hx : a.eval x = v) (hy : a.eval y = u) (hc : ∀ w, Calls Yba.prog 10 #[v, u] w fun e w' => e = .returned r ∧ ∃ o1 o2, w' = (w.alloc (.cells o1 32)).alloc (.cells o2 32))
    (hK : ∀ o1 o2, K (a.put o.dst r) ((w.alloc (.cells o1 32)).alloc (.cells o2 32))) : if Region.wanted o (yielded ops a.tmps) = true then Oper.wp Yba.prog o a w K Q else E := by
  have hw : Region.wanted o (yielded ops a.tmps) = true := by simp [Region.wanted, hg]
  rw [if_pos hw]
  have hgen : ∀ ev : Operand → Value, ev x = v → ev y = u → ev (.func 10) = .func (.func 10) #[] #[] → (execOp ev o).run Yba.prog w = .ok (.enter 10 #[v, u]) w := by
    intro ev h1 h2 h3
    simp [execOp, hop, resolve, invoke, h1, h2, h3, go_sem]
  unfold Oper.wp
  rw [hgen a.eval hx hy rfl]
  refine (hc w).mono ?_
  rintro e w' ⟨rfl, o1, o2, rfl⟩
  exact hK o1 o2

theorem tcells_get : ∀ (ts : List Int) (q : Nat), q < ts.length → (tcells ts)[q * 3]? = some (.int .u64 (ts.getD q 0 % 1000000000)) ∧ (tcells ts)[q * 3 + 1]? = some (.int .i64 (ts.getD q 0 / 1000000000)) ∧ (tcells ts)[q * 3 + 2]? = some (.pointer none)
  | [], _, h => by simp at h
  | a :: l, 0, _ => ⟨rfl, rfl, rfl⟩
  | a :: l, q + 1, h => by
    have ih := tcells_get l q (by simpa using h)
    have e : tcells (a :: l) = .int .u64 (a % 1000000000) :: .int .i64 (a / 1000000000) :: .pointer none :: tcells l := rfl
    rw [e, show (q + 1) * 3 = q * 3 + 1 + 1 + 1 by omega, show q * 3 + 1 + 1 + 1 + 1 = (q * 3 + 1) + 1 + 1 + 1 by omega, show q * 3 + 1 + 1 + 1 + 2 = (q * 3 + 2) + 1 + 1 + 1 by omega]
    simpa only [List.getElem?_cons_succ, List.getD_cons_succ] using ih

/-- A time of a row of times. -/
theorem row_time {w : World} {base b cap : Nat} {ts : List Int} (h : w.ownsRow base 32 3 (.slice (some ⟨b, 0, none⟩) ts.length cap) ts.length (tcells ts)) {q : Nat} (hq : q < ts.length) :
    w.cell? ⟨b, q * 3, none⟩ = some (.int .u64 (ts.getD q 0 % 1000000000)) ∧ w.cell? ⟨b, q * 3 + 1, none⟩ = some (.int .i64 (ts.getD q 0 / 1000000000)) ∧ w.cell? ⟨b, q * 3 + 2, none⟩ = some (.pointer none) := by
  obtain ⟨h1, h2, h3⟩ := tcells_get ts q hq
  rcases h.2 with ⟨e, _⟩ | ⟨g, cap', cur, e, _, hh, _, _, _, ht⟩
  · cases e
  · cases e
    have key : ∀ j, j < ts.length * 3 → cur[j]? = (tcells ts)[j]? := fun j hj => by
      rw [← ht, List.getElem?_take_of_lt hj]; simp
    exact ⟨cell_by hh ((key _ (by omega)).trans h1), cell_by hh ((key _ (by omega)).trans h2), cell_by hh ((key _ (by omega)).trans h3)⟩

/-- Where the law stands while it sets the alarms. -/
structure LA (w wr : World) (bs bc bl bx lb len : Nat) (n : Int) (o : Nat → Int) (i : Nat) (al : Value) (xs : List (Nat × Int)) : Prop where
  below : Below w.heap.size w wr
  st : St w.heap.size wr bc bl bx lb len 0 n al xs []
  start : wr.heap[bs]? = some (timeObj n)
  vals : xs.map (·.2) = (List.range i).map fun j => n + o j
  obs : w.heap.size ≤ bs
  obc : w.heap.size ≤ bc
  obl : w.heap.size ≤ bl
  olb : w.heap.size ≤ lb
  nsl : bs ≠ lb

theorem LA.init (w : World) (o1 o2 : Array Value) (n : Int) (o : Nat → Int) (len : Nat) (hl : len ≤ 1024) :
    LA w ((((((((w.alloc (.cells o1 32)).alloc (.cells o2 32)).alloc (timeObj n)).alloc (timeObj n)).alloc (clockObj n (.slice none 0 0))).alloc (.cells #[ptr (w.heap.size + 1 + 1 + 1 + 1)] 35)).alloc (.cells (madeCells #[.int .u64 0, .int .i64 0, .pointer none] (len * 3)) 32)).alloc (.cells #[.slice (some ⟨w.heap.size + 1 + 1 + 1 + 1 + 1 + 1, 0, none⟩) 0 len] 48))
      (w.heap.size + 1 + 1) (w.heap.size + 1 + 1 + 1 + 1) (w.heap.size + 1 + 1 + 1 + 1 + 1 + 1 + 1) (w.heap.size + 1 + 1 + 1 + 1 + 1) (w.heap.size + 1 + 1 + 1 + 1 + 1 + 1) len n o 0 (.slice none 0 0) [] := by
  refine ⟨?_, ⟨⟨?_, ⟨rfl, .inl ⟨rfl, rfl⟩⟩, by simp⟩, ?_, ?_, ⟨rfl, .inr ⟨_, len, madeCells #[.int .u64 0, .int .i64 0, .pointer none] (len * 3), rfl, by omega, ?_, Nat.zero_le _, by unfold maxLen; omega, size_madeCells _ _, by simp [tcells]⟩⟩⟩, ?_, rfl, by omega, by omega, by omega, by omega, by omega⟩
  · exact ((((((((Below.refl _ _).alloc (Nat.le_refl _) _).alloc (by simp) _).alloc (by simp; omega) _).alloc (by simp; omega) _).alloc (by simp; omega) _).alloc (by simp; omega) _).alloc (by simp; omega) _).alloc (by simp; omega) _
  · exact heap_alloc_old (heap_alloc_old (heap_alloc_old (heap_alloc_at (by simp))))
  · exact heap_alloc_at (by simp)
  · exact heap_alloc_old (heap_alloc_old (heap_alloc_at (by simp)))
  · exact heap_alloc_old (heap_alloc_at (by simp))
  · exact heap_alloc_old (heap_alloc_old (heap_alloc_old (heap_alloc_old (heap_alloc_old (heap_alloc_at (by simp))))))

section
variable {w wr x : World} {bs bc bl bx lb len : Nat} {n : Int} {o : Nat → Int} {i : Nat} {al : Value} {xs : List (Nat × Int)}
theorem LA.grow (h : LA w wr bs bc bl bx lb len n o i al xs) (k : KeptS (fun _ => False) wr x) : LA w x bs bc bl bx lb len n o i al xs :=
  ⟨KeptS.below h.below k h.below.size (fun _ e => e.elim), h.st.grow k, k.heap h.start (fun e => e), h.vals, h.obs, h.obc, h.obl, h.olb, h.nsl⟩
/-- One more alarm. -/
theorem LA.next (h : LA w wr bs bc bl bx lb len n o i al xs) {p : Nat} {al' : Value} (hs : St w.heap.size x bc bl bx lb len 0 n al' (xs ++ [(p, n + o i)]) []) (k : KeptS (fun b => b = bc ∨ al.ownBlock = some b) wr x) :
    LA w x bs bc bl bx lb len n o (i + 1) al' (xs ++ [(p, n + o i)]) := by
  refine ⟨KeptS.below h.below k h.below.size ?_, hs, k.heap h.start ?_, ?_, h.obs, h.obc, h.obl, h.olb, h.nsl⟩
  · rintro b (e | e)
    · rw [e]; exact h.obc
    · rcases h.st.c.own.2 with ⟨e', _⟩ | ⟨g, cap', cur, e', hb, _⟩
      · rw [e'] at e; cases e
      · rw [e'] at e
        simp [Value.ownBlock] at e
        omega
  · rintro (e | e)
    · exact ne_of_type h.start h.st.c.clk (by decide) e
    · obtain ⟨cur, hg⟩ := h.st.c.row e
      exact ne_of_type h.start hg (by decide) rfl
  · rw [List.map_append, h.vals, List.range_succ, List.map_append]; rfl
end

set_option maxRecDepth 20000 in
set_option maxHeartbeats 1600000 in
theorem law_row (n d : Int) (ao : Option Addr) (len cap0 : Nat) (zs : List Int) (w : World) (hn : Hid (-9223372036854775808 ≤ n ∧ n ≤ 9223372036854775807)) (hd : 0 ≤ d ∧ d ≤ 65535) (hl : len ≤ 1024)
    (hz : Hid (0 < len → ∃ b off : Nat, ao = some ⟨b, off, none⟩ ∧ b < w.heap.size ∧ ∀ i, i < len → w.cell? ⟨b, off + i, none⟩ = some (.int .u16 (zs.getD i 0)) ∧ 0 ≤ zs.getD i 0 ∧ zs.getD i 0 ≤ 65535)) :
    Calls Yba.prog 7 #[.int .i64 n, .slice ao len cap0, .int .u16 d] w fun e w' => e = .returned (.bool true) ∧ Below w.heap.size w w' := by
  have hmk := make0 len hl
  obtain ⟨o, ho⟩ : ∃ o : Nat → Int, ∀ i, o i = zs.getD i 0 % 1001 := ⟨_, fun _ => rfl⟩
  have HOo := hid ho
  clear ho
  go_enter Yba.func7, Yba.ntmps7
  go_wp2_with fail
  refine (add_zero n _ hn.out.1 hn.out.2).mono ?_
  rintro e w' ⟨rfl, o1, o2, rfl⟩
  go_wp2_with fail
  refine (newClock_any n _).mono ?_
  rintro e w' ⟨rfl, rfl⟩
  go_wp2_with fail
  have H0 := hid (LA.init w o1 o2 n o len hl)
  obtain ⟨bs, hbs⟩ : ∃ bs, w.heap.size + 1 + 1 = bs := ⟨_, rfl⟩
  generalize ((((((((w.alloc (.cells o1 32)).alloc (.cells o2 32)).alloc (timeObj n)).alloc (timeObj n)).alloc (clockObj n (.slice none 0 0))).alloc (.cells #[ptr (w.heap.size + 1 + 1 + 1 + 1)] 35)).alloc (.cells (madeCells #[.int .u64 0, .int .i64 0, .pointer none] (len * 3)) 32)).alloc (.cells #[.slice (some ⟨w.heap.size + 1 + 1 + 1 + 1 + 1 + 1, 0, none⟩) 0 len] 48)) = w1 at H0 ⊢
  generalize w.heap.size + 1 + 1 + 1 + 1 + 1 + 1 + 1 = bl at H0 ⊢
  generalize w.heap.size + 1 + 1 + 1 + 1 + 1 + 1 = lb at H0 ⊢
  generalize w.heap.size + 1 + 1 + 1 + 1 + 1 = bx at H0 ⊢
  generalize w.heap.size + 1 + 1 + 1 + 1 = bc at H0 ⊢
  rw [hbs] at H0 ⊢
  clear hbs hmk
  go_loopw [10] (fun i wr => ∃ (k : Nat) (al : Value) (xs : List (Nat × Int)), k ≤ len ∧ i = .int .i64 k ∧ Hid (LA w wr bs bc bl bx lb len n o k al xs)) (fun i _ => len - (intOf i).toNat)
  case atStart => exact ⟨0, _, _, Nat.zero_le _, rfl, H0⟩
  case round =>
    clear H0
    obtain ⟨k, al, xs, hk, rfl, HL⟩ := hrel
    by_cases hlt : k < len
    · obtain ⟨b, off, rfl, hb, hzz⟩ := hz.out (by omega)
      obtain ⟨hz1, hz2, hz3⟩ := hzz k hlt
      clear hzz
      have hok := HOo.out k
      obtain ⟨z, hzz⟩ : ∃ z, zs.getD k 0 = z := ⟨_, rfl⟩
      rw [hzz] at hz1 hz2 hz3 hok
      clear hzz
      have HZ := hid hok
      clear hok
      have rz : wr.cell? ⟨b, off + k, none⟩ = some (.int .u16 z) := by rw [HL.out.below.cell hb]; exact hz1
      clear hz1
      have s0 : wr.cell? ⟨bs, 0, none⟩ = some (.int .u64 (n % 1000000000)) := cell_by HL.out.start rfl
      have s1 : wr.cell? ⟨bs, 1, none⟩ = some (.int .i64 (n / 1000000000)) := cell_by HL.out.start rfl
      have s2 : wr.cell? ⟨bs, 2, none⟩ = some (.pointer none) := cell_by HL.out.start rfl
      have zbs := lt_of HL.out.start
      have zb := cell_lt rz
      go_wp2_with fail
      have HWR : Hid (IntKind.i64.wrap (z.tmod 1001) = z % 1001) := hid (by rw [Int.tmod_eq_emod_of_nonneg hz2, IntKind.wrap_i64]; omega)
      have HADD : Hid (∀ w, Calls Yba.prog 10 #[tN n, .int .i64 (z % 1001)] w fun e w' => e = .returned (tN (n + z % 1001)) ∧ ∃ o1 o2, w' = (w.alloc (.cells o1 32)).alloc (.cells o2 32)) := hid (fun w => add_N n (z % 1001) w (by have := hn.out; omega) (by have := hn.out; omega) (by omega) (by omega))
      go_cut [11] (fun v wc => ∃ ba : Nat, v = ptr ba ∧ Hid (LA w wc bs bc bl bx lb len n o k al xs ∧ wc.heap[ba]? = some (timeObj (n + o k))))
      case first =>
        go_region_law (refine step_add rfl (.tmp 38) (.tmp 44) rfl _ _ _ (by simp [Act.eval, Act.put]) (by simp [Act.eval, Act.put]; exact HWR.out) HADD.out ?_; intro p1 p2)
        all_goals
          go_wp2
          go_meet
          case rel =>
            refine ⟨_, rfl, hid ⟨HL.out.grow ((((KeptS.refl.alloc _).alloc _).alloc _).trans ⟨rfl, rfl, rfl, Nat.le_refl _, fun _ _ _ => rfl⟩), ?_⟩⟩
            rw [HZ.out]
            first | exact heap_alloc_at (by simp) | exact heap_alloc_old (heap_alloc_old (heap_alloc_new _ _))
      case rest =>
        obtain ⟨ba, rfl, HB⟩ := hcut
        have e0 : wc.cell? ⟨ba, 0, none⟩ = some (.int .u64 ((n + o k) % 1000000000)) := cell_by HB.out.2 rfl
        have e1 : wc.cell? ⟨ba, 1, none⟩ = some (.int .i64 ((n + o k) / 1000000000)) := cell_by HB.out.2 rfl
        have e2 : wc.cell? ⟨ba, 2, none⟩ = some (.pointer none) := cell_by HB.out.2 rfl
        have ex : wc.cell? ⟨bx, 0, none⟩ = some (ptr bc) := cell_by HB.out.1.st.bx rfl
        have HXL : Hid (xs.length = k) := hid (by have := congrArg List.length HB.out.1.vals; simpa using this)
        go_wp2_with fail
        refine (at_spec w.heap.size bc bl bx lb len n (n + o k) al xs [] wc HB.out.1.st (by have := HXL.out; omega) HB.out.1.below.size).mono ?_
        rintro e w3 ⟨⟨v, rfl⟩, p, al2, _, hst, hkk⟩
        have HN := hid (HB.out.1.next hst hkk)
        clear hst hkk
        go_wp2
        go_roundw
        case rel => exact ⟨k + 1, _, _, by omega, by go_num, HN⟩
        case measure => simp [intOf]; omega
    · have hkl : k = len := by omega
      subst hkl
      clear hlt hk
      have HXL : Hid (xs.length = k) := hid (by have := congrArg List.length HL.out.vals; simpa using this)
      have HOB : Hid (∀ i, 0 ≤ o i ∧ o i ≤ 1000) := hid (fun i => by have := HOo.out i; omega)
      have HMM : Hid (∀ a, a ∈ xs → n ≤ a.2) := hid (fun a ha => by
        have h1 : a.2 ∈ xs.map (·.2) := List.mem_map.2 ⟨a, ha, rfl⟩
        rw [HL.out.vals] at h1
        obtain ⟨j, _, hj⟩ := List.mem_map.1 h1
        have := (HOB.out j).1
        omega)
      have ex : wr.cell? ⟨bx, 0, none⟩ = some (ptr bc) := cell_by HL.out.st.bx rfl
      have hD0 : 0 < 1 + d % 1000 := by omega
      have hD1 : 1 + d % 1000 ≤ 1000 := by omega
      go_wp2_with fail
      refine (advance_spec w.heap.size bc bl bx lb k n (1 + d % 1000) al xs wr HL.out.st (by have := HXL.out; omega) (by have := HXL.out; omega) HMM.out (by have := hn.out; omega) (by have := hn.out; omega) hD0 hD1).mono ?_
      rintro e w3 ⟨rfl, ds, ys, al3, hch, hys, hst3, hk3⟩
      have hmk := make0 k hl
      have hmk2 := run_make_row' (P := Yba.prog) 50 4 (.bool false) 1 Yba.underlying50 (by kernel_rfl) rfl .i64 .i64 k (by omega) (by omega)
      have HCH := hid hch
      have HYS := hid hys
      have HS3 := hid hst3
      have HK3 := hid hk3
      clear hch hys hst3 hk3 ex
      go_upto_block 2 with fail
      have B0 : Hid (LB w ((w3.alloc (.cells (madeCells #[.bool false] k) 4)).alloc (.cells (madeCells #[.int .u64 0, .int .i64 0, .pointer none] (k * 3)) 32)) bs w3.heap.size (w3.heap.size + 1) bc bl bx lb k n (n + (1 + d % 1000)) al3 ys ds [] (fun _ => false)) := hid (by
        have hz3 := HK3.out.size
        have hb3 : Below w.heap.size w w3 := KeptS.below HL.out.below HK3.out HL.out.below.size (by
          rintro b (e | e | e | e)
          · rw [e]; exact HL.out.obc
          · rw [e]; exact HL.out.obl
          · rw [e]; exact HL.out.olb
          · rcases HL.out.st.c.own.2 with ⟨e', _⟩ | ⟨g, cap', cur, e', hb, _⟩
            · rw [e'] at e; cases e
            · rw [e'] at e
              simp [Value.ownBlock] at e
              omega)
        have hs3 : w3.heap[bs]? = some (timeObj n) := HK3.out.heap HL.out.start (by
          obtain ⟨cl, hlb⟩ := HL.out.st.lbo
          rintro (e | e | e | e)
          · exact ne_of_type HL.out.start HL.out.st.c.clk (by decide) e
          · exact ne_of_type HL.out.start HL.out.st.bl (by decide) e
          · exact HL.out.nsl e
          · obtain ⟨cur, hg⟩ := HL.out.st.c.row e
            exact ne_of_type HL.out.start hg (by decide) rfl)
        have zs3 := lt_of hs3
        have hlb3 := lt_of HS3.out.lbo.choose_spec
        refine ⟨(hb3.alloc hb3.size _).alloc (by have := hb3.size; simp; omega) _, (HS3.out.alloc _).alloc _, heap_alloc_old (heap_alloc_old hs3), ⟨_, heap_alloc_old (heap_alloc_new _ _), fun i hi => ?_⟩, ⟨rfl, .inr ⟨_, k, _, rfl, by have := hb3.size; omega, heap_alloc_at (by simp), Nat.zero_le _, by unfold maxLen; omega, size_madeCells _ _, by simp [tcells]⟩⟩, hb3.size, by have := hb3.size; omega, by omega, by omega⟩
        simp [madeCells, hi, Nat.mod_one])
      generalize ((w3.alloc (.cells (madeCells #[.bool false] k) 4)).alloc (.cells (madeCells #[.int .u64 0, .int .i64 0, .pointer none] (k * 3)) 32)) = w4 at B0 ⊢
      generalize w3.heap.size + 1 = eb at B0 ⊢
      generalize w3.heap.size = ub at B0 ⊢
      have HR0 : Hid (Chain (n + (1 + d % 1000)) (xs.map (·.2)) [] (rem n o (fun _ => false) k)) := hid (by rw [rem_none, HL.out.vals]; exact List.Perm.refl _)
      have HV := hid HL.out.below
      clear HS3 HK3 HL hmk hmk2
      go_cut [14] (fun ev wc => ∃ U, ev = .slice (some ⟨eb, 0, none⟩) ds.length k ∧ Hid (LB w wc bs ub eb bc bl bx lb k n (n + (1 + d % 1000)) al3 ys ds ds U))
      case first =>
        go_wp2_with fail
        go_loopw [15, 14] (fun i ev wr => ∃ (q : Nat) (es : List Int) (U : Nat → Bool), q ≤ k ∧ i = .int .i64 q ∧ ev = .slice (some ⟨eb, 0, none⟩) q k ∧ Hid (es.length = q) ∧ Hid (LB w wr bs ub eb bc bl bx lb k n (n + (1 + d % 1000)) al3 ys ds es U) ∧ Hid (Chain (n + (1 + d % 1000)) (xs.map (·.2)) es (rem n o U k))) (fun i _ _ => k - (intOf i).toNat)
        case atStart => exact ⟨0, [], _, Nat.zero_le _, rfl, rfl, hid rfl, B0, HR0⟩
        case round =>
          clear B0 HR0
          obtain ⟨q, es, U, hq, rfl, rfl, HE, HB, HCE⟩ := hrel
          obtain rfl := HE.out
          by_cases hlt : es.length < k
          · obtain ⟨vv, hvv⟩ : ∃ vv : Nat → Int, ∀ i, vv i = if U i then n + (1 + d % 1000) + 1 else n + o i := ⟨_, fun _ => rfl⟩
            have HVV := hid hvv
            clear hvv
            go_wp2_with fail
            go_loopw [18, 16, 17] (fun i bst bo wi => ∃ (j : Nat) (f bO : Int), j ≤ k ∧ i = .int .i64 j ∧ bst = .int .i64 f ∧ bo = .int .i64 bO ∧ Hid (Best (n + (1 + d % 1000)) vv j f ∧ ∀ g : Nat, f = g → bO = o g ∧ U g = false) ∧ wi = wr) (fun i _ _ _ => k - (intOf i).toNat)
            case atStart => exact ⟨0, -1, 0, Nat.zero_le _, rfl, rfl, rfl, hid ⟨Best.zero _ _, fun g e => by omega⟩, rfl⟩
            case round =>
              obtain ⟨j, f, bO, hj, rfl, rfl, rfl, HBE, rfl⟩ := hrel
              by_cases hjk : j < k
              · obtain ⟨b, off, rfl, hb, hzz⟩ := hz.out (by omega)
                obtain ⟨hz1, hz2, hz3⟩ := hzz j hjk
                clear hzz
                have hoj := HOo.out j
                obtain ⟨z, hzz⟩ : ∃ z, zs.getD j 0 = z := ⟨_, rfl⟩
                rw [hzz] at hz1 hz2 hz3 hoj
                clear hzz
                have HZ := hid hoj
                clear hoj
                have rz : wr.cell? ⟨b, off + j, none⟩ = some (.int .u16 z) := by rw [HB.out.below.cell hb]; exact hz1
                clear hz1
                obtain ⟨uc, hu1, hu2⟩ := HB.out.used
                have ru : wr.cell? ⟨ub, j, none⟩ = some (.bool (U j)) := cell_by hu1 (hu2 j hjk)
                clear hu1 hu2
                cases hU : U j
                · rw [hU] at ru
                  have HVJ : Hid (vv j = n + z % 1001) := hid (by rw [HVV.out j, hU, HZ.out]; simp)
                  by_cases hD : z % 1001 ≤ 1 + d % 1000
                  · have HVT : Hid (vv j ≤ n + (1 + d % 1000)) := hid (by rw [HVJ.out]; omega)
                    have HUJ := hid hU
                    have hBE := HBE.out
                    rcases hBE.1 with ⟨rfl, _⟩ | ⟨gi, rfl, hg1, hg2, _⟩
                    · clear hBE
                      go_wp2
                      go_roundw
                      case rel => exact ⟨j + 1, j, z % 1001, by omega, by go_num, by trivial, by trivial, hid ⟨HBE.out.1.first HVT.out, fun g e => (show j = g by omega) ▸ ⟨HZ.out.symm, HUJ.out⟩⟩, by trivial⟩
                      case measure => simp [intOf]; omega
                    · have HGO := hid (hBE.2 gi rfl)
                      have HVG : Hid (vv gi = n + bO) := hid (by rw [HVV.out gi, HGO.out.2, HGO.out.1]; simp)
                      clear hBE
                      have hgn : ¬ ((gi : Int) < 0) := by omega
                      by_cases hlo : z % 1001 < bO
                      · go_wp2
                        go_roundw
                        case rel => exact ⟨j + 1, j, z % 1001, by omega, by go_num, by trivial, by trivial, hid ⟨HBE.out.1.better HVT.out (by rw [HVJ.out, HVG.out]; omega), fun g e => (show j = g by omega) ▸ ⟨HZ.out.symm, HUJ.out⟩⟩, by trivial⟩
                        case measure => simp [intOf]; omega
                      · go_wp2
                        go_roundw
                        case rel => exact ⟨j + 1, gi, bO, by omega, by go_num, by trivial, by trivial, hid ⟨HBE.out.1.stay (by rw [HVJ.out, HVG.out]; omega), HBE.out.2⟩, by trivial⟩
                        case measure => simp [intOf]; omega
                  · have HT : Hid (n + (1 + d % 1000) < vv j) := hid (by rw [HVJ.out]; omega)
                    go_wp2
                    go_roundw
                    case rel => exact ⟨j + 1, f, bO, by omega, by go_num, by trivial, by trivial, hid ⟨HBE.out.1.skip HT.out, HBE.out.2⟩, by trivial⟩
                    case measure => simp [intOf]; omega
                · rw [hU] at ru
                  have HT : Hid (n + (1 + d % 1000) < vv j) := hid (by rw [HVV.out j, hU]; simp; omega)
                  go_wp2
                  go_roundw
                  case rel => exact ⟨j + 1, f, bO, by omega, by go_num, rfl, rfl, hid ⟨HBE.out.1.skip HT.out, HBE.out.2⟩, by trivial⟩
                  case measure => simp [intOf]; omega
              · obtain rfl : k = j := by omega
                clear hjk hj
                have hBE := HBE.out
                rcases hBE.1 with ⟨rfl, hall⟩ | ⟨gi, rfl, hg1, hg2, hmin⟩
                · have HEQ : Hid (ds = es) := hid (Chain.unique HCH.out (fun u hu => by
                    obtain ⟨a, ha, rfl⟩ := List.mem_map.1 hu
                    exact HYS.out a ha) HCE.out (fun u hu => by
                    obtain ⟨i, hi, hU, rfl⟩ := rem_mem.1 hu
                    have h1 := hall i hi
                    rw [HVV.out i, hU] at h1
                    simpa using h1))
                  clear hBE hall
                  obtain rfl := HEQ.out
                  go_wp2
                  go_meet
                  case rel => exact ⟨U, by trivial, HB⟩
                · have hgn : ¬ ((gi : Int) < 0) := by omega
                  have HGO := hid (hBE.2 gi rfl)
                  have HVG : Hid (vv gi = n + bO) := hid (by rw [HVV.out gi, HGO.out.2, HGO.out.1]; simp)
                  have HTB : Hid (n + bO ≤ n + (1 + d % 1000)) := hid (by rw [← HVG.out]; exact hg2)
                  have HMIN : Hid (∀ u, u ∈ rem n o U k → u ≤ n + (1 + d % 1000) → n + bO ≤ u) := hid (fun u hu hT => by
                    obtain ⟨i, hi, hU, rfl⟩ := rem_mem.1 hu
                    have h1 : vv i = n + o i := by rw [HVV.out i, hU]; simp
                    have h2 := hmin i hi (by rw [h1]; exact hT)
                    rw [h1, HVG.out] at h2
                    exact h2)
                  have hbo : 0 ≤ bO ∧ bO ≤ 1000 := by rw [HGO.out.1]; exact HOB.out gi
                  have HBO := hid hbo
                  clear hBE hmin hg2 hbo
                  obtain ⟨uc, hu1, hu2⟩ := HB.out.used
                  have ru : wr.cell? ⟨ub, gi, none⟩ = some (.bool (U gi)) := cell_by hu1 (hu2 gi hg1)
                  have fu := frozen_of hu1 gi
                  have zu := lt_of hu1
                  clear hu1 hu2
                  go_upto_region 29 with fail
                  have HB2 := hid (HB.out.use hg1)
                  generalize wr.setCell ⟨ub, gi, none⟩ (.bool true) = w5 at HB2 ⊢
                  clear ru fu zu
                  have s0 : w5.cell? ⟨bs, 0, none⟩ = some (.int .u64 (n % 1000000000)) := cell_by HB2.out.start rfl
                  have s1 : w5.cell? ⟨bs, 1, none⟩ = some (.int .i64 (n / 1000000000)) := cell_by HB2.out.start rfl
                  have s2 : w5.cell? ⟨bs, 2, none⟩ = some (.pointer none) := cell_by HB2.out.start rfl
                  have zbs := lt_of HB2.out.start
                  go_wp2_with fail
                  refine (add_N n bO _ (by have := hn.out; omega) (by have := hn.out; omega) (by have := HBO.out; omega) (by have := HBO.out; omega)).mono ?_
                  rintro e w' ⟨rfl, p1, p2, rfl⟩
                  have HB3 := hid (HB2.out.grow (((KeptS.refl.alloc (.cells p1 32)).alloc (.cells p2 32)).alloc (timeObj (n + bO))))
                  obtain ⟨i0, hi, hz0, hz1, hz2⟩ := info_parts' info32
                  go_wp2_with (at_builtin; refine wpList_append_fits _ rfl (.tmp 107) (.tmp 111) 48 rfl w.heap.size 32 i0 3 Yba.underlying48 hi hz1 eb es.length k (tcells es) rfl HB3.out.exp ⟨w5.heap.size + 1 + 1, 0, none⟩ 1 1 [.int .u64 ((n + bO) % 1000000000), .int .i64 ((n + bO) / 1000000000), .pointer none] rfl rfl ?nc ?n1 ?nb ?_)
                  case nc =>
                    intro j u hu
                    rw [addr_add']
                    refine cell_by (heap_alloc_at (by simp)) ?_
                    simpa using hu
                  case n1 => simp [Value.oneCell']
                  case nb => omega
                  intro w6 ho6 hg6
                  have HB6 := hid (HB3.out.push ho6 hg6)
                  have HCN : Hid (Chain (n + (1 + d % 1000)) (xs.map (·.2)) (es ++ [n + bO]) (rem n o (fun i => if i = gi then true else U i) k)) := hid (HCE.out.snoc HTB.out (by rw [HGO.out.1]; exact rem_take n o U gi HGO.out.2 k hg1) HMIN.out)
                  clear ho6 hg6 HB3 HB2 s0 s1 s2 hi hz0 hz1 hz2
                  go_wp2
                  go_roundw
                  case rel => exact ⟨es.length + 1, _, _, by omega, by go_num, by trivial, hid (by simp), HB6, HCN⟩
                  case measure => simp [intOf]; omega
          · have HEQ : Hid (ds = es) := hid (by
              have h1 := HCE.out.len
              have h2 := HXL.out
              rw [List.length_map] at h1
              have h3 : rem n o U k = [] := List.eq_nil_of_length_eq_zero (by omega)
              exact Chain.unique HCH.out (fun u hu => by
                obtain ⟨a, ha, rfl⟩ := List.mem_map.1 hu
                exact HYS.out a ha) HCE.out (fun u hu => by rw [h3] at hu; cases hu))
            obtain rfl := HEQ.out
            go_wp2
            go_meet
            case rel => exact ⟨U, by trivial, HB⟩
      case rest =>
        obtain ⟨U, rfl, HB⟩ := hcut
        clear B0 HR0 HCH HYS HV HOB HMM HXL HOo hz
        have cl : wc.cell? ⟨bl, 0, none⟩ = some (.slice (some ⟨lb, 0, none⟩) ds.length k) := cell_by HB.out.st.bl rfl
        have hle := loc_eq
        have hdk : ds.length ≤ k := by
          rcases HB.out.exp.2 with ⟨e, _⟩ | ⟨g, cap', cur, e, _, _, h1, _⟩
          · cases e
          · cases e; exact h1
        go_wp2_with fail
        go_loopw [20] (fun i wr => ∃ q : Nat, q ≤ ds.length ∧ i = .int .i64 q ∧ Hid (LB w wr bs ub eb bc bl bx lb k n (n + (1 + d % 1000)) al3 ys ds ds U)) (fun i _ => ds.length - (intOf i).toNat)
        case atStart => exact ⟨0, Nat.zero_le _, rfl, HB⟩
        case round =>
          clear HB cl
          obtain ⟨q, hq, rfl, HB⟩ := hrel
          by_cases hlt : q < ds.length
          · have cl : wr.cell? ⟨bl, 0, none⟩ = some (.slice (some ⟨lb, 0, none⟩) ds.length k) := cell_by HB.out.st.bl rfl
            obtain ⟨a0, a1, a2⟩ := row_time HB.out.st.log hlt
            obtain ⟨b0, b1, b2⟩ := row_time HB.out.exp hlt
            generalize ds.getD q 0 = N at a0 a1 a2 b0 b1 b2
            go_wp2_with fail
            go_quiet (fail)
            go_wp2
            go_roundw
            case rel => exact ⟨q + 1, by omega, by go_num, hid (HB.out.grow ⟨rfl, rfl, rfl, Nat.le_refl _, fun _ _ _ => rfl⟩)⟩
            case measure => simp [intOf]; omega
          · have ex : wr.cell? ⟨bx, 0, none⟩ = some (ptr bc) := cell_by HB.out.st.bx rfl
            have s0 : wr.cell? ⟨bs, 0, none⟩ = some (.int .u64 (n % 1000000000)) := cell_by HB.out.start rfl
            have s1 : wr.cell? ⟨bs, 1, none⟩ = some (.int .i64 (n / 1000000000)) := cell_by HB.out.start rfl
            have s2 : wr.cell? ⟨bs, 2, none⟩ = some (.pointer none) := cell_by HB.out.start rfl
            have zbs := lt_of HB.out.start
            have zbx := lt_of HB.out.st.bx
            have HNOW := hid (now_any bc (n + (1 + d % 1000)) al3 wr.drew HB.out.st.c.clk)
            have HADD : Hid (∀ w, Calls Yba.prog 10 #[tN n, .int .i64 (1 + d % 1000)] w fun e w' => e = .returned (tN (n + (1 + d % 1000))) ∧ ∃ o1 o2, w' = (w.alloc (.cells o1 32)).alloc (.cells o2 32)) := hid (fun w => add_N n (1 + d % 1000) w (by have := hn.out; omega) (by have := hn.out; omega) (by omega) (by omega))
            go_wp2_with fail
            go_region_law (first | (refine step_now rfl (.tmp 133) rfl _ _ (by simp [Act.eval]) HNOW.out ?_) | (refine step_add rfl (.tmp 135) (.tmp 136) rfl _ _ _ (by simp [Act.eval]) (by simp [Act.eval]) HADD.out ?_; intro p1 p2))
            all_goals
              go_wp2
              go_ret
              refine ⟨rfl, KeptS.below HB.out.below (KeptS.trans (x := wr.drew) (S := fun _ => False) ⟨rfl, rfl, rfl, Nat.le_refl _, fun _ _ _ => rfl⟩ (((KeptS.refl.alloc _).alloc _).alloc _)) HB.out.below.size (fun _ e => e.elim)⟩

theorem u16_bounds {a : Int} (h : (Lit.int .u16 a).wf = true) : 0 ≤ a ∧ a ≤ 65535 := by
  simp [Lit.wf, IntKind.min, IntKind.max, IntKind.signed, IntKind.bits] at h; omega
theorem spot_none {w : World} {a : Addr} {v : Value} (h : w.cell? a = some v) : a.spot = none := by
  unfold World.cell? at h
  split at h
  · split at h
    · cases h
    · rename_i hs; simpa using hs
  · cases h
theorem block_lt {w : World} {a : Addr} {v : Value} (h : w.cell? a = some v) : a.block < w.heap.size := by
  apply Decidable.byContradiction
  intro hn
  unfold World.cell? at h
  rw [Array.getElem?_eq_none (by simpa using hn)] at h
  cases h

set_option maxRecDepth 20000 in
/-- The law, at whatever comes in. -/
theorem law_walk (a0 a2 : Int) (ao : Option Addr) (len cap : Nat) (zs : List Int) (w : World) (w0 : (Lit.int .i64 a0).wf = true) (w2 : (Lit.int .u16 a2).wf = true)
    (h : (ao = none ∧ len = 0 ∧ cap = 0 ∧ zs = []) ∨
      ∃ x, ao = some x ∧ len ≤ cap ∧ cap ≤ maxLen ∧ zs.length = cap ∧ (∀ i, i < zs.length → w.cell? (x.add i) = some (.int .u16 (zs.getD i 0))) ∧ ∀ n ∈ zs, (Lit.int .u16 n).wf = true) :
    Calls Yba.prog 7 #[.int .i64 a0, .slice ao len cap, .int .u16 a2] w fun e w' => e = .returned (.bool true) ∧ Below w.heap.size w w' := by
  by_cases hl : len ≤ 1024
  · refine law_row a0 a2 ao len cap zs w (hid (i64_bounds w0)) (u16_bounds w2) hl (hid fun hpos => ?_)
    rcases h with ⟨_, h0, _⟩ | ⟨x, rfl, hlc, _, hzl, hcell, hwf⟩
    · omega
    · have hc0 := hcell 0 (by omega)
      rw [show x.add 0 = x by simp [Addr.add]] at hc0
      have hsp := spot_none hc0
      have hlt := block_lt hc0
      obtain ⟨b, off, sp⟩ := x
      simp only at hsp
      subst hsp
      refine ⟨b, off, rfl, hlt, fun i hi => ?_⟩
      have hci := hcell i (by omega)
      rw [show (⟨b, off, none⟩ : Addr).add i = ⟨b, off + i, none⟩ by simp [Addr.add]] at hci
      refine ⟨hci, u16_bounds (hwf _ ?_)⟩
      have hil : i < zs.length := by omega
      rw [List.getD_eq_getElem?_getD, List.getElem?_eq_getElem hil]
      exact List.getElem_mem hil
  · have hl' : (1024 : Int) < (len : Int) := by omega
    clear h w0 w2 hl
    go_enter Yba.func7, Yba.ntmps7
    go_wp2
    go_ret
    exact ⟨rfl, Below.refl _ _⟩
end Go.Proofs.Ybulkalfo
