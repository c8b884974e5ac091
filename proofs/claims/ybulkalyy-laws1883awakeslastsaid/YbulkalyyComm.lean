/- Communication of one goroutine inside the walk: what is left of a region at a send into a buffer with room, at a receive from a buffer that holds something; and a region that draws its order, whose operations only read but for a send that all of them lead to. -/
import Derived.Test.YbulkalyyRows
import Derived.WalkKit
import Derived.ProofKit
import Derived.Deep.Quiet
import Derived.Conc.LoneCalls
namespace Go.Proofs.Ybulkalyy
open Go.Conc Go.RowKit

section
variable {P : Program} {ops : Array Oper} {Q : Exit → Act → World → Prop}

/-- What is left of a region, the operations in this order, leads to Q. -/
def Rest (P : Program) (ops : Array Oper) (Q : Exit → Act → World → Prop) (l : List Nat) (a : Act) (w : World) : Prop :=
  ∀ (b : Frame) (k : List Item) (cs : List Frame), ∃ e a' w', Q e a' w' ∧ Arrives P (lone (b.at a (.inRegion ops l :: k)) cs w) b k cs e a' w'

theorem rest_of_wpOps {l : List Nat} {a : Act} {w : World} (h : wpOps P ops Q l a w) : Rest P ops Q l a w := fun b k cs => wp_ops l a w h b k cs
theorem rest_nil {a : Act} {w : World} (h : Q .normal a w) : Rest P ops Q [] a w := rest_of_wpOps h
theorem region_of_rest {id : Nat} {a : Act} {w : World} (h : Rest P ops Q (List.range ops.size) a w) : (Code.region id ops false).wp P Q a w :=
  fun b k cs => let ⟨e, a', w', q, r⟩ := h b k cs; ⟨e, a', w', q, .of_steps (.one step_region) r⟩

theorem wanted_plain {o : Oper} (hg : o.guard = none) (y : Nat → Option Bool) : Region.wanted o y = true := by simp [Region.wanted, hg]

/-- One operation that yields a value. -/
theorem rest_value {i : Nat} {rest : List Nat} {o : Oper} {a : Act} {w w' : World} {v : Value} (ho : ops[i]? = some o) (hg : o.guard = none)
    (hr : (execOp a.eval o).run P w = .ok (.value v) w') (h : Rest P ops Q rest (a.put o.dst v) w') : Rest P ops Q (i :: rest) a w := by
  intro b k cs
  obtain ⟨e, a', w'', hq, harr⟩ := h b k cs
  refine ⟨e, a', w'', hq, .of_steps (.one (step_lone_go ?_)) harr⟩
  have hfin : (b.at a (.inRegion ops (i :: rest) :: k)).finish v = b.at (a.put o.dst v) (.inRegion ops rest :: k) := by rw [Frame.finish_at, ho]; rfl
  rw [stepG_op ho (wanted_plain hg _), ← hfin]
  simp [stepG.apply, hr]

/-- A send into a buffer with room. -/
theorem rest_send {i : Nat} {rest : List Nat} {o : Oper} {a : Act} {w : World} {x y : Operand} {c cap s r : Nat} {buf : Array Value} {tm : Bool} (ho : ops[i]? = some o) (hg : o.guard = none) (hop : o.op = .send x y)
    (hx : a.eval x = .chan (some c)) (hc : w.heap[c]? = some (.chan cap buf false s r tm)) (hroom : buf.size < cap)
    (h : Rest P ops Q rest (a.put o.dst undef) (w.setChan c cap (buf.push (a.eval y)) false (s + 1) r tm)) : Rest P ops Q (i :: rest) a w := by
  intro b k cs
  obtain ⟨e, a', w'', hq, harr⟩ := h b k cs
  refine ⟨e, a', w'', hq, .of_steps (.one ?_) harr⟩
  have hfin : (b.at a (.inRegion ops (i :: rest) :: k)).finish undef = b.at (a.put o.dst undef) (.inRegion ops rest :: k) := by rw [Frame.finish_at, ho]; rfl
  have hst : ∃ es, stepG P true (G (b.at a (.inRegion ops (i :: rest) :: k)) cs) w = .comm (G (b.at a (.inRegion ops (i :: rest) :: k)) cs) #[scase c (a.eval y) (.tuple #[])] true .send w es := by
    have hg' := stepG_op (P := P) (b := b) (a := a) (k := k) (cs := cs) (w := w) (rest := rest) ho (wanted_plain hg _)
    unfold G
    rw [hg']
    simp [stepG.apply, execOp, hop, hx, scase, Frame.at]
    exact ⟨_, rfl⟩
  obtain ⟨es, hst⟩ := hst
  have := step_lone_send_room hst hc hroom
  rw [hfin] at this
  exact this

/-- A receive out of a buffer that holds something. -/
theorem rest_recv {i : Nat} {rest : List Nat} {o : Oper} {a : Act} {w : World} {x : Operand} {t e0 : TypeId} {d : ChanDir} {z : Value} {c cap s r : Nat} {buf : Array Value} {closed tm : Bool} (ho : ops[i]? = some o) (hg : o.guard = none) (hop : o.op = .recv t x false)
    (ht : ∀ w, (underlying t).run P w = .ok (.chan d e0) w) (hz : ∀ w, (zeroValue e0).run P w = .ok z w) (hx : a.eval x = .chan (some c)) (hc : w.heap[c]? = some (.chan cap buf closed s r tm)) (hsome : 0 < buf.size)
    (h : Rest P ops Q rest (a.put o.dst (buf.getD 0 undef)) (w.setChan c cap (buf.extract 1 buf.size) closed s (r + 1) tm)) : Rest P ops Q (i :: rest) a w := by
  intro b k cs
  obtain ⟨e, a', w'', hq, harr⟩ := h b k cs
  refine ⟨e, a', w'', hq, .of_steps (.one ?_) harr⟩
  have hfin : (b.at a (.inRegion ops (i :: rest) :: k)).finish (buf.getD 0 undef) = b.at (a.put o.dst (buf.getD 0 undef)) (.inRegion ops rest :: k) := by rw [Frame.finish_at, ho]; rfl
  have hst : ∃ es, stepG P true (G (b.at a (.inRegion ops (i :: rest) :: k)) cs) w = .comm (G (b.at a (.inRegion ops (i :: rest) :: k)) cs) #[rcase c z] true (.recv false) w es := by
    have hg' := stepG_op (P := P) (b := b) (a := a) (k := k) (cs := cs) (w := w) (rest := rest) ho (wanted_plain hg _)
    unfold G
    rw [hg']
    simp [stepG.apply, execOp, hop, hx, rcase, Frame.at, ht, hz]
    exact ⟨_, rfl⟩
  obtain ⟨es, hst⟩ := hst
  have := step_lone_recv_buf false hst hc hsome
  simp only [got, Bool.false_eq_true, if_false] at this
  rw [hfin] at this
  exact this

/-! ### A region that draws, whose last operation all the others lead to -/
/-- Edges lead backward. -/
def backB (ops : Array Oper) : Bool := (List.range ops.size).all fun i => ((ops[i]?).map (·.after.all fun e => decide (e.on < i))).getD true
/-- Every operation but the last is awaited by a later one. -/
def waitB (md : Region.Mode) (ops : Array Oper) (o : Oper) : Bool :=
  (List.range ops.size).all fun i => (List.range (ops.size + 1)).any fun j => decide (i < j) && (((ops.push o)[j]?).map (·.after.any fun e => Region.binds md e && e.on == i)).getD false
def plainB (ops : Array Oper) : Bool := ops.all (·.guard.isNone)
def lastB (ops : Array Oper) (o : Oper) : Bool := o.after.all fun e => decide (e.on < ops.size)

/-- Whatever is listed, all that it waits for is listed. -/
def Closed (md : Region.Mode) (ops : Array Oper) (listed : Array Bool) : Prop :=
  ∀ (j : Nat) (x : Oper), ops[j]? = some x → listed.getD j true = true → ∀ e ∈ x.after, Region.binds md e = true → listed.getD e.on false = true

theorem back_spec {j : Nat} {x : Oper} (h : backB ops = true) (hj : ops[j]? = some x) : ∀ e ∈ x.after, e.on < j := by
  unfold backB at h
  rw [List.all_eq_true] at h
  have hlt : j < ops.size := (Array.getElem?_eq_some_iff.1 hj).1
  have := h j (List.mem_range.2 hlt)
  rw [hj] at this
  simp only [Option.map_some, Option.getD_some, Array.all_eq_true_iff_forall_mem, decide_eq_true_eq] at this
  exact this

theorem push_old {l : Array Bool} {j : Nat} (h : j < l.size) (d : Bool) : (l.push false).getD j d = l.getD j d := by
  simp [Array.getElem?_push, h, Nat.ne_of_lt h]

theorem ready_some {md : Region.Mode} {listed : Array Bool} (hA : backB ops = true) (hs : listed.size = ops.size) (hu : ∃ i, i < ops.size ∧ listed.getD i true = false) : ∃ i, i ∈ Region.ready md ops listed := by
  obtain ⟨i, hi, hun⟩ := hu
  induction i using Nat.strongRecOn with
  | _ i ih =>
    by_cases hall : ∀ j, j < i → listed.getD j true = true
    · refine ⟨i, mem_ready.2 ⟨hun, ops[i], Array.getElem?_eq_getElem hi, fun e he _ => ?_⟩⟩
      have hlt := back_spec hA (Array.getElem?_eq_getElem hi) e he
      have := hall e.on hlt
      have hsz : e.on < listed.size := by omega
      simpa [hsz] using this
    · have : ∃ j, j < i ∧ listed.getD j true = false := by
        apply Decidable.byContradiction
        intro hn
        apply hall
        intro j hj
        cases hc : listed.getD j true
        · exact absurd ⟨j, hj, hc⟩ hn
        · rfl
      obtain ⟨j, hj, hjun⟩ := this
      exact ih j hj (by omega) hjun

theorem last_waits {md : Region.Mode} {listed : Array Bool} {o : Oper} (hB : waitB md ops o = true) (hs : listed.size = ops.size) (hc : Closed md ops listed) (hu : ∃ i, i < ops.size ∧ listed.getD i true = false) :
    ∃ e ∈ o.after, Region.binds md e = true ∧ (listed.push false).getD e.on false = false := by
  obtain ⟨i, hi, hun⟩ := hu
  have key : ∀ n i, ops.size - i = n → i < ops.size → listed.getD i true = false → ∃ e ∈ o.after, Region.binds md e = true ∧ (listed.push false).getD e.on false = false := by
    intro n
    induction n using Nat.strongRecOn with
    | _ n ih =>
      intro i hn hi hun
      have hB' := hB
      unfold waitB at hB'
      rw [List.all_eq_true] at hB'
      have := hB' i (List.mem_range.2 hi)
      rw [List.any_eq_true] at this
      obtain ⟨j, hj, hjb⟩ := this
      rw [Bool.and_eq_true, decide_eq_true_eq] at hjb
      obtain ⟨hij, hjb⟩ := hjb
      have hj' := List.mem_range.1 hj
      by_cases hlast : j = ops.size
      · subst hlast
        simp only [Array.getElem?_push_size, Option.map_some, Option.getD_some, Array.any_eq_true] at hjb
        obtain ⟨q, hq, hb⟩ := hjb
        rw [Bool.and_eq_true] at hb
        refine ⟨o.after[q], Array.getElem_mem hq, hb.1, ?_⟩
        have he : (o.after[q]).on = i := by simpa using hb.2
        have hsz : i < listed.size := by omega
        rw [he, push_old hsz]
        simpa [hsz] using hun
      · have hjl : j < ops.size := by omega
        rw [Array.getElem?_push_lt hjl, Option.map_some, Option.getD_some, Array.any_eq_true] at hjb
        obtain ⟨q, hq, hb⟩ := hjb
        rw [Bool.and_eq_true] at hb
        have he : ((ops[j]).after[q]).on = i := by simpa using hb.2
        have hjun : listed.getD j true = false := by
          cases hcj : listed.getD j true
          · rfl
          · have := hc j ops[j] (Array.getElem?_eq_getElem hjl) hcj _ (Array.getElem_mem hq) hb.1
            rw [he] at this
            have hsz : i < listed.size := by omega
            simp [hsz] at this hun
            rw [this] at hun
            cases hun
        exact ih (ops.size - j) (by omega) j rfl hjl hjun
  exact key _ i rfl hi hun

theorem ready_same {md : Region.Mode} {listed : Array Bool} {o : Oper} (hA : backB ops = true) (hB : waitB md ops o = true) (hs : listed.size = ops.size) (hc : Closed md ops listed) (hu : ∃ i, i < ops.size ∧ listed.getD i true = false) :
    Region.ready md (ops.push o) (listed.push false) = Region.ready md ops listed := by
  have hlw := last_waits hB hs hc hu
  unfold Region.ready
  rw [Array.size_push, List.range_succ, List.filter_append]
  have h2 : ([ops.size].filter fun i => !(listed.push false).getD i true && (((ops.push o)[i]?).map (·.after.all fun e => !Region.binds md e || (listed.push false).getD e.on false)).getD false) = [] := by
    obtain ⟨e, he, hb, hf⟩ := hlw
    rw [List.filter_eq_nil_iff]
    intro x hx
    simp only [List.mem_singleton] at hx
    subst hx
    rw [Array.getElem?_push_size, Option.map_some, Option.getD_some]
    intro h
    rw [Bool.and_eq_true, Array.all_eq_true_iff_forall_mem] at h
    have := h.2 e he
    rw [hb, hf] at this
    cases this
  rw [h2, List.append_nil]
  apply List.filter_congr
  intro i hi
  have hi' := List.mem_range.1 hi
  rw [push_old (by omega), Array.getElem?_push_lt hi', Array.getElem?_eq_getElem hi', Option.map_some, Option.getD_some, Option.map_some, Option.getD_some]
  congr 1
  rw [Bool.eq_iff_iff, Array.all_eq_true_iff_forall_mem, Array.all_eq_true_iff_forall_mem]
  have hb := back_spec hA (Array.getElem?_eq_getElem hi')
  constructor
  · intro h e he
    have := h e he
    rwa [push_old (by have := hb e he; omega)] at this
  · intro h e he
    rw [push_old (by have := hb e he; omega)]
    exact h e he

theorem ready_last {md : Region.Mode} {listed : Array Bool} {o : Oper} (hL : lastB ops o = true) (hs : listed.size = ops.size) (hall : ∀ i, i < ops.size → listed.getD i true = true) :
    Region.ready md (ops.push o) (listed.push false) = [ops.size] := by
  unfold Region.ready
  rw [Array.size_push, List.range_succ, List.filter_append]
  have h1 : ((List.range ops.size).filter fun i => !(listed.push false).getD i true && (((ops.push o)[i]?).map (·.after.all fun e => !Region.binds md e || (listed.push false).getD e.on false)).getD false) = [] := by
    rw [List.filter_eq_nil_iff]
    intro i hi
    have hi' := List.mem_range.1 hi
    rw [push_old (by omega), hall i hi']
    simp
  have h2 : ([ops.size].filter fun i => !(listed.push false).getD i true && (((ops.push o)[i]?).map (·.after.all fun e => !Region.binds md e || (listed.push false).getD e.on false)).getD false) = [ops.size] := by
    rw [List.filter_eq_self]
    intro x hx
    simp only [List.mem_singleton] at hx
    subst hx
    rw [Array.getElem?_push_size, Option.map_some, Option.getD_some, Bool.and_eq_true]
    refine ⟨by rw [← hs]; simp, ?_⟩
    rw [Array.all_eq_true_iff_forall_mem]
    intro e he
    unfold lastB at hL
    rw [Array.all_eq_true_iff_forall_mem] at hL
    have hlt : e.on < ops.size := of_decide_eq_true (hL e he)
    rw [push_old (by omega)]
    have hsz : e.on < listed.size := by omega
    have := hall e.on hlt
    simp [hsz] at this ⊢
    exact .inr this
  rw [h1, h2, List.nil_append]

theorem closed_set {md : Region.Mode} {listed : Array Bool} {i : Nat} (hc : Closed md ops listed) (hi : i ∈ Region.ready md ops listed) : Closed md ops (listed.setIfInBounds i true) := by
  intro j x hj hl e he hb
  obtain ⟨_, oi, hoi, hall⟩ := mem_ready.1 hi
  have old : listed.getD e.on false = true → (listed.setIfInBounds i true).getD e.on false = true := by
    intro h
    by_cases hei : i = e.on
    · subst hei
      have hlt : e.on < listed.size := by
        apply Decidable.byContradiction
        intro hn
        simp [hn] at h
      simp [hlt]
    · simpa [Array.getElem?_setIfInBounds_ne hei] using h
  by_cases hij : i = j
  · subst hij
    rw [hj] at hoi
    cases hoi
    exact old (hall e he hb)
  · apply old
    refine hc j x hj ?_ e he hb
    simpa [Array.getElem?_setIfInBounds_ne hij] using hl

theorem go_last {md : Region.Mode} {listed : Array Bool} {o : Oper} (hL : lastB ops o = true) (hs : listed.size = ops.size) (hall : ∀ i, i < ops.size → listed.getD i true = true) (fuel t : Nat) :
    Region.linearise.go md (ops.push o) (fuel + 1) t (listed.push false) [] = [ops.size] := by
  have h1 := ready_last (md := md) hL hs hall
  simp only [Region.linearise.go]
  change (match (Region.ready md (ops.push o) (listed.push false))[t % (Region.ready md (ops.push o) (listed.push false)).length]? with
      | some i => Region.linearise.go md (ops.push o) fuel (t / (Region.ready md (ops.push o) (listed.push false)).length) ((listed.push false).setIfInBounds i true) [i]
      | none => [].reverse) = _
  rw [h1]
  simp only [List.length_singleton, Nat.mod_one, List.getElem?_cons_zero]
  cases fuel with
  | zero => simp [Region.linearise.go]
  | succ fuel =>
    have h2 : Region.ready md (ops.push o) ((listed.push false).setIfInBounds ops.size true) = [] := by
      unfold Region.ready
      rw [List.filter_eq_nil_iff]
      intro i hi
      have hi' := List.mem_range.1 hi
      rw [Array.size_push] at hi'
      by_cases e : ops.size = i
      · subst e; rw [← hs]; simp
      · have hlt : i < ops.size := by omega
        have := hall i hlt
        have hsz : i < listed.size := by omega
        simp [Array.getElem?_setIfInBounds_ne e, Array.getElem?_push, hsz, Nat.ne_of_lt hsz] at this ⊢
        intro h; rw [this] at h; cases h
    simp only [Region.linearise.go]
    change (match (Region.ready md (ops.push o) ((listed.push false).setIfInBounds ops.size true))[_ % (Region.ready md (ops.push o) ((listed.push false).setIfInBounds ops.size true)).length]? with
      | some i => _
      | none => _) = _
    rw [h2]
    simp

/-- Up to the last operation, whatever order was drawn. -/
theorem upto_last {md : Region.Mode} {C : World → Prop} {Q1 : Act → Prop} {o : Oper} (hA : backB ops = true) (hB : waitB md ops o = true) (hG : plainB ops = true) (hL : lastB ops o = true) :
    ∀ (fuel t : Nat) (listed : Array Bool) (a : Act) (w : World), listed.size = ops.size → Closed md ops listed → C w → wpAnyQ P md ops C Q1 fuel listed a →
      ∀ (b : Frame) (k : List Item) (cs : List Frame), ∃ a' w', Q1 a' ∧ C w' ∧
        Steps P (lone (b.at a (.inRegion (ops.push o) (Region.linearise.go md (ops.push o) (fuel + 1) t (listed.push false) []) :: k)) cs w) (lone (b.at a' (.inRegion (ops.push o) [ops.size] :: k)) cs w') := by
  intro fuel
  induction fuel with
  | zero =>
    intro t listed a w hs hc hw h b k cs
    have hall : ∀ i, i < ops.size → listed.getD i true = true := by
      intro i hi
      cases hli : listed.getD i true
      · obtain ⟨j, hj⟩ := ready_some (md := md) hA hs ⟨i, hi, hli⟩
        rw [h.1] at hj; cases hj
      · rfl
    rw [go_last hL hs hall]
    exact ⟨a, w, h.2, hw, .refl _ _⟩
  | succ fuel ih =>
    intro t listed a w hs hc hw h b k cs
    by_cases hall : ∀ i, i < ops.size → listed.getD i true = true
    · rw [go_last hL hs hall]
      refine ⟨a, w, h.1 ?_, hw, .refl _ _⟩
      apply List.eq_nil_iff_forall_not_mem.2
      intro i hi
      obtain ⟨hun, oi, hoi, _⟩ := mem_ready.1 hi
      have := hall i (Array.getElem?_eq_some_iff.1 hoi).1
      rw [this] at hun; cases hun
    · have hu : ∃ i, i < ops.size ∧ listed.getD i true = false := by
        apply Decidable.byContradiction
        intro hn
        apply hall
        intro i hi
        cases hli : listed.getD i true
        · exact absurd ⟨i, hi, hli⟩ hn
        · rfl
      have hrs := ready_same hA hB hs hc hu
      obtain ⟨i0, hi0⟩ := ready_some (md := md) hA hs hu
      have hpos : 0 < (Region.ready md ops listed).length := List.length_pos_of_mem hi0
      have hget : (Region.ready md ops listed)[t % (Region.ready md ops listed).length]? = some ((Region.ready md ops listed)[t % (Region.ready md ops listed).length]'(Nat.mod_lt _ hpos)) := List.getElem?_eq_getElem _
      generalize hi : (Region.ready md ops listed)[t % (Region.ready md ops listed).length]'(Nat.mod_lt _ hpos) = i at hget
      have hmem : i ∈ Region.ready md ops listed := List.mem_of_getElem? hget
      have hgo : Region.linearise.go md (ops.push o) (fuel + 1 + 1) t (listed.push false) [] = i :: Region.linearise.go md (ops.push o) (fuel + 1) (t / (Region.ready md ops listed).length) ((listed.setIfInBounds i true).push false) [] := by
        have hlt : i < listed.size := by
          obtain ⟨_, oi, hoi, _⟩ := mem_ready.1 hmem
          have := (Array.getElem?_eq_some_iff.1 hoi).1
          omega
        have hset : (listed.push false).setIfInBounds i true = (listed.setIfInBounds i true).push false := by
          apply Array.ext_getElem?
          intro j
          simp only [Array.getElem?_setIfInBounds, Array.getElem?_push, Array.size_push, Array.size_setIfInBounds]
          by_cases hij : i = j
          · subst hij; simp [hlt, Nat.ne_of_lt hlt]; omega
          · simp [hij]
        rw [Region.linearise.go]
        change (match (Region.ready md (ops.push o) (listed.push false))[t % (Region.ready md (ops.push o) (listed.push false)).length]? with
          | some i => Region.linearise.go md (ops.push o) (fuel + 1) (t / (Region.ready md (ops.push o) (listed.push false)).length) ((listed.push false).setIfInBounds i true) [i]
          | none => [].reverse) = _
        rw [hrs, hget]
        simp only []
        rw [linearise_go_acc, hset]
        rfl
      rw [hgo]
      obtain ⟨_, oi, hoi, _⟩ := mem_ready.1 hmem
      have hlt := (Array.getElem?_eq_some_iff.1 hoi).1
      have hoi' : (ops.push o)[i]? = some oi := by rw [Array.getElem?_push_lt hlt, ← Array.getElem?_eq_getElem hlt]; exact hoi
      have hgi : oi.guard = none := by
        unfold plainB at hG
        rw [Array.all_eq_true_iff_forall_mem] at hG
        have := hG oi (Array.mem_of_getElem? hoi)
        simpa using this
      have hq := h.2 i hmem
      unfold qOp at hq
      simp only [hoi, wanted_plain hgi, if_true] at hq
      obtain ⟨v, hv, hK⟩ := hq
      have hv' := hv w hw
      unfold Oper.quietAt at hv'
      have hg := stepG_op (P := P) (b := b) (a := a) (k := k) (cs := cs) (w := w) (rest := Region.linearise.go md (ops.push o) (fuel + 1) (t / (Region.ready md ops listed).length) ((listed.setIfInBounds i true).push false) []) hoi' (wanted_plain hgi _)
      have hfin : ∀ v rest, (b.at a (.inRegion (ops.push o) (i :: rest) :: k)).finish v = b.at (a.put oi.dst v) (.inRegion (ops.push o) rest :: k) := by
        intro v rest; rw [Frame.finish_at, hoi']; rfl
      have next := fun w1 (hw1 : C w1) => ih (t / (Region.ready md ops listed).length) (listed.setIfInBounds i true) (a.put oi.dst v) w1 (by simpa using hs) (closed_set hc hmem) hw1 hK b k cs
      cases hr : (execOp a.eval oi).run P w with
      | halt x w' => rw [hr] at hv'; exact hv'.elim
      | ok x w' =>
        rw [hr] at hv'
        cases x with
        | value u =>
          obtain ⟨rfl, rfl⟩ := hv'
          obtain ⟨a', w'', h1, h2, h3⟩ := next _ hw
          refine ⟨a', w'', h1, h2, .head (step_lone_go ?_) h3⟩
          rw [hg, ← hfin]; simp [stepG.apply, hr]
        | skip =>
          obtain ⟨rfl, rfl⟩ := hv'
          obtain ⟨a', w'', h1, h2, h3⟩ := next _ hw
          refine ⟨a', w'', h1, h2, .head (step_lone_go ?_) h3⟩
          rw [hg, ← hfin]; simp [stepG.apply, hr]
        | enter f args =>
          obtain ⟨rfl, hcalls⟩ := hv'
          obtain ⟨e, w'', fr, ⟨rfl, hCw⟩, hsteps, _, hleave⟩ := hcalls (b.at a (.inRegion (ops.push o) (i :: Region.linearise.go md (ops.push o) (fuel + 1) (t / (Region.ready md ops listed).length) ((listed.setIfInBounds i true).push false) []) :: k) :: cs)
          obtain ⟨a', w3, h1, h2, h3⟩ := next _ hCw
          refine ⟨a', w3, h1, h2, .head (step_lone_go (by rw [hg]; simp [stepG.apply, hr, Frame.at])) (Steps.trans hsteps (.head ?_ h3))⟩
          rw [← hfin]; exact step_leave_returned hleave
        | _ => exact hv'.elim

/-- A region that draws, whose operations are quiet but for the last, which all of them lead to. -/
theorem wp_region_last {id : Nat} {C : World → Prop} {o : Oper} {a : Act} {w : World} (hm : P.follows .mixedOrders = true) (hA : backB ops = true) (hB : waitB .any ops o = true) (hG : plainB ops = true) (hL : lastB ops o = true) (hlex : Region.lexB .any ops = true)
    (hC : C { w with drawn := w.drawn + 1 }) (h : wpQuiet P ops C (fun a' => ∀ w', C w' → Rest P (ops.push o) Q [ops.size] a' w') ops.toList a) : (Code.region id (ops.push o) true).wp P Q a w := by
  intro b k cs
  simp only [Region.lexB, Bool.and_eq_true] at hlex
  have hq := wpAnyQ_lex (C := C) (md := .any) hlex.1 ops.toList 0 (Array.replicate ops.size false) a (by simp) (by simpa using hlex.2) h
  have hcl : Closed .any ops (Array.replicate ops.size false) := by
    intro j x hj hl
    have hlt := (Array.getElem?_eq_some_iff.1 hj).1
    simp [hlt] at hl
  have hsch : Region.schedule (P.follows .mixedOrders) (ops.push o) (w.tape w.drawn (.order b.fn id)) = Region.linearise.go .any (ops.push o) (ops.size + 1) (w.tape w.drawn (.order b.fn id)) ((Array.replicate ops.size false).push false) [] := by
    simp only [Region.schedule, hm, Bool.true_or, if_true, Region.linearise, Array.size_push]
    rw [Array.replicate_succ]
  obtain ⟨a', w', h1, h2, h3⟩ := upto_last hA hB hG hL ops.size (w.tape w.drawn (.order b.fn id)) _ a _ (by simp) hcl hC (by simpa using hq) b k cs
  obtain ⟨e, a2, w2, q, arr⟩ := h1 w' h2 b k cs
  refine ⟨e, a2, w2, q, .of_steps (.head step_region_draw ?_) arr⟩
  rw [hsch]
  exact h3

/-- .. over the operations as a list. -/
theorem wp_region_last_lit {id : Nat} {l : List Oper} {a : Act} {w : World} (hne : l ≠ []) (hm : P.follows .mixedOrders = true) (hA : backB l.dropLast.toArray = true) (hB : waitB .any l.dropLast.toArray (l.getLast hne) = true) (hG : plainB l.dropLast.toArray = true)
    (hL : lastB l.dropLast.toArray (l.getLast hne) = true) (hlex : Region.lexB .any l.dropLast.toArray = true)
    (h : wpQuiet P l.dropLast.toArray (fun w' => ∃ n, w' = w.drewN n) (fun a' => ∀ w', (∃ n, w' = w.drewN n) → Rest P l.toArray Q [l.length - 1] a' w') l.dropLast a) : (Code.region id l.toArray true).wp P Q a w := by
  have e : l.dropLast.toArray.push (l.getLast hne) = l.toArray := by
    rw [List.push_toArray, List.dropLast_concat_getLast]
  rw [← e]
  refine wp_region_last (C := fun w' => ∃ n, w' = w.drewN n) hm hA hB hG hL hlex ⟨1, rfl⟩ ?_
  rw [e]
  simpa using h
end
end Go.Proofs.Ybulkalyy
