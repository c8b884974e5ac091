import Derived.Test.YbulkalfoMove
import Derived.Outline
import Derived.WalkSpells
import Derived.Deep.QuietTactic
import Derived.BigQuiet
import Derived.OwnWalk
import Derived.Deep.Cut
import Derived.Deep.RegionLaw
namespace Go.Proofs.Ybulkalfo
open Go.ChangeShapes Go.WideShapes Go.ChangeAt Go.RowKit Go.MuLone

theorem hid {p : Prop} (h : p) : Hid p := h

/-- What a world may gain: new blocks, draws. -/
abbrev Ext : Type := Unit → Array Obj × Nat
/-- The world with new blocks and draws. -/
def ext (w : World) (x : Ext) : World := { w with heap := w.heap ++ (x ()).1, drawn := w.drawn + (x ()).2 }

theorem ext_alloc (w : World) (x : Ext) (o : Obj) : (ext w x).alloc o = ext w (fun _ => ((x ()).1.push o, (x ()).2)) := by
  simp [ext, World.alloc]
theorem ext_heap (w : World) (x : Ext) {b : Nat} (hb : b < w.heap.size) : (ext w x).heap[b]? = w.heap[b]? := by
  show (w.heap ++ (x ()).1)[b]? = _
  rw [Array.getElem?_append_left hb]
theorem ext_cell {w : World} {b o : Nat} {v : Value} (h : w.cell? ⟨b, o, none⟩ = some v) (x : Ext) : (ext w x).cell? ⟨b, o, none⟩ = some v := by
  have hb : b < w.heap.size := by
    apply Decidable.byContradiction
    intro hn
    unfold World.cell? at h
    rw [Array.getElem?_eq_none (by simpa using hn)] at h
    cases h
  rw [← h]
  exact World.cell?_of_block (a := ⟨b, o, none⟩) (ext_heap w x hb)
theorem cell_lt {w : World} {b o : Nat} {v : Value} (h : w.cell? ⟨b, o, none⟩ = some v) : b < w.heap.size := by
  apply Decidable.byContradiction
  intro hn
  unfold World.cell? at h
  rw [Array.getElem?_eq_none (by simpa using hn)] at h
  cases h
theorem ext_size (w : World) (x : Ext) : w.heap.size ≤ (ext w x).heap.size := by
  show _ ≤ (w.heap ++ (x ()).1).size
  simp
theorem ext_drew (w : World) : ({ w with drawn := w.drawn + 1 } : World) = ext w (fun _ => (#[], 1)) := by
  simp [ext]

theorem ext_alloc_in (w : World) (o : Obj) (x : Ext) : ext (w.alloc o) x = ext w (fun _ => (#[o] ++ (x ()).1, (x ()).2)) := by
  have h : (w.heap.push o) ++ (x ()).1 = w.heap ++ (#[o] ++ (x ()).1) := by
    rw [← Array.append_assoc]
    congr 1
  show ({ w with heap := (w.heap.push o) ++ (x ()).1, drawn := w.drawn + (x ()).2 } : World) = _
  rw [h]
  rfl
theorem ext_none (w : World) : w = ext w (fun _ => (#[], 0)) := by
  simp [ext]
theorem ext_more (w : World) (x : Ext) : ({ ext w x with drawn := (ext w x).drawn + 1 } : World) = ext w (fun _ => ((x ()).1, (x ()).2 + 1)) := by
  simp [ext, Nat.add_assoc]
/-- A region that draws, whose operations only read and whose callees only make new blocks. -/
theorem wp_region_ext {P : Program} {id : Nat} {Q : Exit → Act → World → Prop} {a : Act} {w : World} {x : Ext} {l : List Oper} (hm : P.follows .mixedOrders = true) (hB : Region.lexB .any l.toArray = true)
    (h : wpQuiet P l.toArray (fun w' => ∃ x, w' = ext w x) (fun a' => ∀ w', (∃ x, w' = ext w x) → Q .normal a' w') l a) : (Code.region id l.toArray true).wp P Q a (ext w x) :=
  wp_region_quiet (C := fun w' => ∃ x, w' = ext w x) hm hB ⟨_, ext_more w x⟩ (by simpa using h)

/-- .. from a world itself. -/
theorem wp_region_ext0 {P : Program} {id : Nat} {Q : Exit → Act → World → Prop} {a : Act} {w : World} {l : List Oper} (hm : P.follows .mixedOrders = true) (hB : Region.lexB .any l.toArray = true)
    (h : wpQuiet P l.toArray (fun w' => ∃ x, w' = ext w x) (fun a' => ∀ w', (∃ x, w' = ext w x) → Q .normal a' w') l a) : (Code.region id l.toArray true).wp P Q a w :=
  wp_region_quiet (C := fun w' => ∃ x, w' = ext w x) hm hB ⟨_, ext_drew w⟩ (by simpa using h)

/-- All blocks that were there, but those of S, stand. -/
structure KeptS (S : Nat → Prop) (w w' : World) : Prop where
  os : w'.os = w.os
  tape : w'.tape = w.tape
  output : w'.output = w.output
  size : w.heap.size ≤ w'.heap.size
  block : ∀ k, k < w.heap.size → ¬ S k → w'.heap[k]? = w.heap[k]?

section
variable {S : Nat → Prop} {w x y : World}
theorem KeptS.refl : KeptS S w w := ⟨rfl, rfl, rfl, Nat.le_refl _, fun _ _ _ => rfl⟩
theorem KeptS.trans (h : KeptS S w x) (k : KeptS S x y) : KeptS S w y :=
  ⟨k.os.trans h.os, k.tape.trans h.tape, k.output.trans h.output, Nat.le_trans h.size k.size, fun i hi hb => (k.block i (Nat.lt_of_lt_of_le hi h.size) hb).trans (h.block i hi hb)⟩
theorem KeptS.mono {S' : Nat → Prop} (h : KeptS S w x) (hs : ∀ k, k < w.heap.size → S k → S' k) : KeptS S' w x :=
  ⟨h.os, h.tape, h.output, h.size, fun i hi hb => h.block i hi (fun e => hb (hs i hi e))⟩
/-- Blocks that were not there do not count. -/
theorem KeptS.trans' {S' : Nat → Prop} (h : KeptS S w x) (k : KeptS S' x y) (hs : ∀ k, k < w.heap.size → S' k → S k) : KeptS S w y :=
  ⟨k.os.trans h.os, k.tape.trans h.tape, k.output.trans h.output, Nat.le_trans h.size k.size, fun i hi hb => (k.block i (Nat.lt_of_lt_of_le hi h.size) (fun e => hb (hs i hi e))).trans (h.block i hi hb)⟩
theorem KeptS.alloc (h : KeptS S w x) (o : Obj) : KeptS S w (x.alloc o) :=
  h.trans ⟨rfl, rfl, rfl, by simp, fun _ hk _ => Below.heap_alloc _ _ _ hk⟩
theorem KeptS.ext (h : KeptS S w x) (e : Ext) : KeptS S w (ext x e) :=
  h.trans ⟨rfl, rfl, rfl, ext_size x e, fun _ hk _ => ext_heap x e hk⟩
theorem KeptS.setCell (h : KeptS S w x) {b : Nat} (hb : b < w.heap.size → S b) (o : Nat) (v : Value) : KeptS S w (x.setCell ⟨b, o, none⟩ v) :=
  ⟨h.os, h.tape, h.output, Nat.le_trans h.size (by simp [World.setCell]), fun k hk hs => (Below.heap_setCell _ _ _ _ (by intro e; subst e; exact hs (hb hk))).trans (h.block k hk hs)⟩
theorem KeptS.grown {row : Option Nat} (h : KeptS S w x) (g : x.grownBy y row) (hr : ∀ k, row = some k → k < w.heap.size → S k) : KeptS S w y :=
  ⟨g.os.trans h.os, g.tape.trans h.tape, g.output.trans h.output, Nat.le_trans h.size g.size, fun k hk hs => (g.block k (Nat.lt_of_lt_of_le hk h.size) (fun e => hs (hr k e.symm hk))).trans (h.block k hk hs)⟩
theorem KeptS.heap {b : Nat} {o : Obj} (h : KeptS S w x) (hb : w.heap[b]? = some o) (hs : ¬ S b) : x.heap[b]? = some o := (h.block b (lt_of hb) hs).trans hb
theorem KeptS.below {B : Nat} {w0 : World} (h0 : Below B w0 w) (h : KeptS S w x) (hB : B ≤ w.heap.size) (hs : ∀ k, S k → B ≤ k) : Below B w0 x :=
  h0.trans ⟨h.os, h.tape, h.output, h.size, fun i hi => h.block i (by omega) (fun e => by have := hs i e; omega)⟩
end

/-- An append inside a region that draws, its run laid ahead. -/
theorem step_append_run {P : Program} {ops : Array Oper} {o : Oper} {a : Act} {w w' : World} {K : Act → World → Prop} {Q : Exit → Act → World → Prop} {E : Prop}
    (hg : o.guard = none) (s x : Operand) (t : TypeId) (hop : o.op = Op.call { callee := Callee.builtin Builtin.append, args := #[s, x], argTypes := #[t, t] })
    (v1 v2 v' : Value) (hs : a.eval s = v1) (hx : a.eval x = v2) (hrun : (Builtin.append_ #[t, t] o.type #[v1, v2]).run P w = .ok v' w')
    (hK : K (a.put o.dst v') w') : if Region.wanted o (yielded ops a.tmps) = true then Oper.wp P o a w K Q else E := by
  have hw : Region.wanted o (yielded ops a.tmps) = true := by simp [Region.wanted, hg]
  rw [if_pos hw]
  unfold Oper.wp
  simp [execOp, hop, resolve, invoke, builtin, hs, hx, hrun, Result.andThen]
  exact hK

/-- The block of a clock, with its lock. -/
abbrev clkObj (l : Int) (N : Int) (al : Value) : Obj := .cells #[.int .i32 l, .int .u32 0, .int .u64 (N % 1000000000), .int .i64 (N / 1000000000), .pointer none, al] 65
/-- The block of an alarm. -/
abbrev alarmObj (N : Int) (fv : Value) : Obj := .cells #[.int .u64 (N % 1000000000), .int .i64 (N / 1000000000), .pointer none, fv] 70
/-- A pointer to a block. -/
abbrev ptr (b : Nat) : Value := .pointer (some ⟨b, 0, none⟩)
/-- The alarms of a clock: their blocks and instants. -/
structure CInv (base : Nat) (w : World) (bc : Nat) (l M : Int) (al : Value) (xs : List (Nat × Int)) (fv : Value) : Prop where
  clk : w.heap[bc]? = some (clkObj l M al)
  own : w.ownsRow base 68 1 al xs.length (xs.map fun a => ptr a.1)
  alarms : ∀ a, a ∈ xs → w.heap[a.1]? = some (alarmObj a.2 fv)

theorem CInv.kept {S : Nat → Prop} {base : Nat} {w x : World} {bc : Nat} {l M : Int} {al fv : Value} {xs : List (Nat × Int)} (h : CInv base w bc l M al xs fv) (k : KeptS S w x)
    (h1 : ¬ S bc) (h2 : ∀ g, al.ownBlock = some g → ¬ S g) (h3 : ∀ a, a ∈ xs → ¬ S a.1) : CInv base x bc l M al xs fv := by
  refine ⟨k.heap h.clk h1, ?_, fun a ha => k.heap (h.alarms a ha) (h3 a ha)⟩
  refine ⟨h.own.1, ?_⟩
  rcases h.own.2 with e | ⟨g, cap, cur, e, hb, hh, hr⟩
  · exact .inl e
  · exact .inr ⟨g, cap, cur, e, hb, k.heap hh (h2 g (by rw [e]; rfl)), hr⟩
end Go.Proofs.Ybulkalfo
