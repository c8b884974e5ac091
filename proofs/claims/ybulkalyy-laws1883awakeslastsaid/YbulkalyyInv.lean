import Derived.Test.YbulkalyyNew
import Derived.OwnWalk
import Derived.ArgAppend
namespace Go.Proofs.Ybulkalyy
open Go.ChangeShapes Go.WideShapes Go.ChangeAt Go.RowKit Go.Conc

/-- append of one element to a row of the call's own: the value lies at the head of the same row, or of a new one. -/
theorem append_one {P : Program} (w : World) {ops : Array Oper} {rest : List Oper} {o : Oper} {a : Act} {Q : Exit → Act → World → Prop}
    (hg : o.guard = none) (s x : Operand) (t : TypeId) (hop : o.op = Op.call { callee := Callee.builtin Builtin.append, args := #[s, x], argTypes := #[t, t] })
    (base : Nat) (e : TypeId) (i : TypeInfo) (z : Value) (bytes : Nat) (h1 : P.underlying t = some (.slice e)) (h2 : P.info? e = some i) (h3 : i.zero = some z) (h4 : i.size = 1) (h5 : i.bytes = bytes) (h6 : z.cells.size = 1)
    (g k cap : Nat) (xs : List Value) (hs : a.eval s = .slice (some ⟨g, 0, none⟩) k cap) (hown : w.ownsRow base e 1 (.slice (some ⟨g, 0, none⟩) k cap) k xs)
    (ad : Addr) (u : Value) (hx : a.eval x = .slice (some ad) 1 1) (hu : w.cell? ad = some u) (h1c : u.oneCell' = true) (b1 : k + 1 ≤ maxLen) (b2 : (k + 1) * bytes ≤ 140737488355328) (hbase : base ≤ w.heap.size)
    (hK : ∀ g' cap' w', (g' = g ∨ w.heap.size ≤ g') → w'.ownsRow base e 1 (.slice (some ⟨g', 0, none⟩) (k + 1) cap') (k + 1) (xs ++ [u]) → w.grownBy w' (some g) → wpList P ops Q rest (a.put o.dst (.slice (some ⟨g', 0, none⟩) (k + 1) cap')) w') :
    wpList P ops Q (o :: rest) a w := by
  have hnews : ∀ j v, [u][j]? = some v → w.cell? (ad.add j) = some v := by
    intro j v hj
    match j, hj with
    | 0, hj => simp at hj; subst hj; simpa [Addr.add] using hu
  have hone : ∀ v ∈ [u], v.oneCell' = true := by intro v hv; simp at hv; subst hv; exact h1c
  by_cases hroom : k + 1 ≤ cap
  · refine wpList_append_fits w hg s x t hop base e i 1 h1 h2 h4 g k cap xs hs hown ad 1 1 [u] hx rfl hnews hone hroom ?_
    intro w' hown' hgr
    exact hK g cap w' (.inl rfl) hown' hgr
  · refine wpList_append_grows w hg s x t hop e i z 1 bytes h1 h2 h3 h4 h5 h6 (by decide) (some ⟨g, 0, none⟩) k cap xs hs (by intro h; cases h) hown.1 ?_ ad 1 1 [u] hx rfl hnews hone (by omega) b1 b2 ?_
    · intro b hb
      cases hb
      exact hown.cells rfl
    intro v' w' hown' hgr
    rcases hown'.2 with ⟨_, h0⟩ | ⟨g', cap', cur, rfl, hb, hh, hn, hc, hsz, htk⟩
    · omega
    · refine hK g' cap' w' (.inr hb) ⟨hown'.1, .inr ⟨g', cap', cur, rfl, by omega, hh, hn, hc, hsz, htk⟩⟩ ⟨hgr.os, hgr.tape, hgr.output, hgr.size, fun j hj _ => hgr.block j hj (by simp)⟩

/-- The numbers of the workers, as cells. -/
def jsCells (js : Nat → Nat) (k : Nat) : List Value := (List.range k).map fun i => .int .i64 (js i)
theorem jsCells_succ (js : Nat → Nat) (k : Nat) : jsCells js (k + 1) = jsCells js k ++ [.int .i64 (js k)] := by
  simp [jsCells, List.range_succ]
theorem jsCells_len (js : Nat → Nat) (k : Nat) : (jsCells js k).length = k := by simp [jsCells]
theorem jsCells_get (js : Nat → Nat) (k i : Nat) (h : i < k) : (jsCells js k)[i]? = some (.int .i64 (js i)) := by
  simp [jsCells, h]

/-- The law's own memory: the crew cb, its channels' row wb, the wanted numbers m (the first q are laid), the idle row g (k of them); buf: what lies in each channel. -/
structure LInv (w wr : World) (cb wb m g n len q k cap : Nat) (ch js : Nat → Nat) (buf : Nat → Array Value) : Prop where
  below : Below w.heap.size w wr
  c14 : wr.cell? ⟨cb, 14, none⟩ = some (.slice (some ⟨g, 0, none⟩) k cap)
  c15 : wr.cell? ⟨cb, 15, none⟩ = some (.slice (some ⟨wb, 0, none⟩) n n)
  fz : ∀ o, wr.frozen? ⟨cb, o, none⟩ = false
  own : wr.ownsRow w.heap.size 3 1 (.slice (some ⟨g, 0, none⟩) k cap) k (jsCells js k)
  wake : ∀ i, i < n → wr.cell? ⟨wb, i, none⟩ = some (.chan (some (ch i)))
  chan : ∀ i, i < n → ∃ s r, wr.heap[ch i]? = some (.chan 1 (buf i) false s r false)
  inj : ∀ i j, i < n → j < n → ch i = ch j → i = j
  want : ∀ i, i < q → wr.cell? ⟨m, i, none⟩ = some (.int .i64 (js i))
  row : ∀ i, i < len → ∃ v, wr.cell? ⟨m, i, none⟩ = some v
  mfz : ∀ o, wr.frozen? ⟨m, o, none⟩ = false
  oc : w.heap.size ≤ cb
  ow : w.heap.size ≤ wb
  om : w.heap.size ≤ m
  oh : ∀ i, i < n → w.heap.size ≤ ch i
  zc : cb < wr.heap.size
  zw : wb < wr.heap.size
  zm : m < wr.heap.size
  ncg : cb ≠ g
  nwg : wb ≠ g
  nmg : m ≠ g
  ncw : cb ≠ wb
  ncm : cb ≠ m
  nwm : wb ≠ m

theorem LInv.zg {w wr : World} {cb wb m g n len q k cap : Nat} {ch js : Nat → Nat} {buf : Nat → Array Value} (h : LInv w wr cb wb m g n len q k cap ch js buf) : g < wr.heap.size ∧ w.heap.size ≤ g := by
  have := h.own.lt g rfl
  exact ⟨this.2, this.1⟩
theorem LInv.capk {w wr : World} {cb wb m g n len q k cap : Nat} {ch js : Nat → Nat} {buf : Nat → Array Value} (h : LInv w wr cb wb m g n len q k cap ch js buf) : k ≤ cap := by
  rcases h.own.2 with ⟨e, _⟩ | ⟨g', cap', cur, e, _, _, hn, _⟩
  · cases e
  · cases e; exact hn
theorem chan_not_cells {w : World} {c b o : Nat} {v : Value} {cap s r : Nat} {bf : Array Value} {cl tm : Bool} (hc : w.heap[c]? = some (.chan cap bf cl s r tm)) (hv : w.cell? ⟨b, o, none⟩ = some v) : b ≠ c := by
  intro e; subst e; simp [World.cell?, hc] at hv
theorem LInv.nch {w wr : World} {cb wb m g n len q k cap : Nat} {ch js : Nat → Nat} {buf : Nat → Array Value} (h : LInv w wr cb wb m g n len q k cap ch js buf) {i : Nat} (hi : i < n) : ch i ≠ g ∧ ch i < wr.heap.size := by
  obtain ⟨s, r, hc⟩ := h.chan i hi
  refine ⟨fun e => ?_, lt_of hc⟩
  rcases h.own.2 with ⟨e', _⟩ | ⟨g', cap', cur, e', _, hh, _⟩
  · cases e'
  · cases e'
    rw [e, hh] at hc
    cases hc

section
variable {w wr : World} {cb wb m g n len q k cap : Nat} {ch js : Nat → Nat} {buf : Nat → Array Value}
theorem LInv.alloc (h : LInv w wr cb wb m g n len q k cap ch js buf) (o : Obj) : LInv w (wr.alloc o) cb wb m g n len q k cap ch js buf :=
  have zc := h.zc
  have zw := h.zw
  have zm := h.zm
  ⟨h.below.alloc h.below.size o, cell_keep h.c14 zc, cell_keep h.c15 zc, fun x => (frozen_keep zc).trans (h.fz x), h.own.alloc o, fun i hi => cell_keep (h.wake i hi) zw, fun i hi => let ⟨s, r, hc⟩ := h.chan i hi; ⟨s, r, heap_alloc_old hc⟩, h.inj, fun i hi => cell_keep (h.want i hi) zm,
    fun i hi => let ⟨v, hv⟩ := h.row i hi; ⟨v, cell_keep hv zm⟩, fun x => (frozen_keep zm).trans (h.mfz x), h.oc, h.ow, h.om, h.oh, by simp; omega, by simp; omega, by simp; omega, h.ncg, h.nwg, h.nmg, h.ncw, h.ncm, h.nwm⟩
theorem LInv.drewN (h : LInv w wr cb wb m g n len q k cap ch js buf) (x : Nat) : LInv w (wr.drewN x) cb wb m g n len q k cap ch js buf :=
  ⟨⟨h.below.os, h.below.tape, h.below.output, h.below.size, h.below.block⟩, h.c14, h.c15, h.fz, h.own, h.wake, h.chan, h.inj, h.want, h.row, h.mfz, h.oc, h.ow, h.om, h.oh, h.zc, h.zw, h.zm, h.ncg, h.nwg, h.nmg, h.ncw, h.ncm, h.nwm⟩
theorem LInv.setWant (h : LInv w wr cb wb m g n len q k cap ch js buf) (hq : q < len) : LInv w (wr.setCell ⟨m, q, none⟩ (.int .i64 (js q))) cb wb m g n len (q + 1) k cap ch js buf := by
  have hsetk : wr.grownBy (wr.setCell ⟨m, q, none⟩ (.int .i64 (js q))) (some m) := ⟨rfl, rfl, rfl, by simp [World.setCell], fun j _ hj => Below.heap_setCell _ _ _ _ (by simpa using hj)⟩
  obtain ⟨vq, hvq⟩ := h.row q hq
  refine ⟨h.below.setCell h.om _, cell_skipb h.c14 (Ne.symm h.ncm) _, cell_skipb h.c15 (Ne.symm h.ncm) _, fun o => by rw [frozen_set]; exact h.fz o, h.own.kept hsetk (.inr (by simpa [Value.ownBlock] using Ne.symm h.nmg)), fun i hi => cell_skipb (h.wake i hi) (Ne.symm h.nwm) _, fun i hi => ?_, h.inj, fun i hi => ?_, fun i hi => ?_, fun o => by rw [frozen_set]; exact h.mfz o,
    h.oc, h.ow, h.om, h.oh, by simpa [World.setCell] using h.zc, by simpa [World.setCell] using h.zw, by simpa [World.setCell] using h.zm, h.ncg, h.nwg, h.nmg, h.ncw, h.ncm, h.nwm⟩
  · obtain ⟨s, r, hc⟩ := h.chan i hi
    exact ⟨s, r, by rw [Below.heap_setCell _ _ _ _ (by simpa using Ne.symm (chan_not_cells hc hvq))]; exact hc⟩
  · by_cases e : i = q
    · subst e; exact cell_hit hvq _
    · exact cell_skip (h.want i (by omega)) (fun e' => e e'.symm) _
  · by_cases e : i = q
    · subst e; exact ⟨_, cell_hit hvq _⟩
    · obtain ⟨v, hv⟩ := h.row i hi
      exact ⟨v, cell_skip hv (fun e' => e e'.symm) _⟩
end

/-- The world has grown, and the idle row may have been written: what is not of that row stands. -/
theorem LInv.append {w wr w1 : World} {cb wb m g n len q k cap g' cap' : Nat} {ch js : Nat → Nat} {buf : Nat → Array Value} (h : LInv w wr cb wb m g n len q k cap ch js buf)
    (hg : g' = g ∨ wr.heap.size ≤ g') (hown : w1.ownsRow w.heap.size 3 1 (.slice (some ⟨g', 0, none⟩) (k + 1) cap') (k + 1) (jsCells js (k + 1))) (hgr : wr.grownBy w1 (some g)) :
    LInv w (w1.setCell ⟨cb, 14, none⟩ (.slice (some ⟨g', 0, none⟩) (k + 1) cap')) cb wb m g' n len q (k + 1) cap' ch js buf := by
  have zc := h.zc
  have zw := h.zw
  have zm := h.zm
  have hz := hgr.size
  have same : ∀ b, b < wr.heap.size → b ≠ g → w1.heap[b]? = wr.heap[b]? := fun b hb hne => hgr.block b hb (by simpa using hne)
  have cellb : ∀ b o, b < wr.heap.size → b ≠ g → w1.cell? ⟨b, o, none⟩ = wr.cell? ⟨b, o, none⟩ := fun b o hb hne => World.cell?_of_block (w := wr) (a := ⟨b, o, none⟩) (same b hb hne)
  have frb : ∀ b o, b < wr.heap.size → b ≠ g → w1.frozen? ⟨b, o, none⟩ = wr.frozen? ⟨b, o, none⟩ := fun b o hb hne => World.frozen?_of_block (w := wr) (a := ⟨b, o, none⟩) (same b hb hne)
  have ncg' : cb ≠ g' := by rcases hg with e | e; · rw [e]; exact h.ncg
                            · omega
  have nwg' : wb ≠ g' := by rcases hg with e | e; · rw [e]; exact h.nwg
                            · omega
  have nmg' : m ≠ g' := by rcases hg with e | e; · rw [e]; exact h.nmg
                           · omega
  have hgk : ∀ j, some g = some j → w.heap.size ≤ j := by intro j e; cases e; exact h.zg.2
  have hbel : Below w.heap.size w w1 := h.below.grown hgr h.below.size hgk
  have hsetk : w1.grownBy (w1.setCell ⟨cb, 14, none⟩ (.slice (some ⟨g', 0, none⟩) (k + 1) cap')) (some cb) := ⟨rfl, rfl, rfl, by simp [World.setCell], fun j _ hj => Below.heap_setCell _ _ _ _ (by simpa using hj)⟩
  refine ⟨hbel.setCell h.oc _, cell_hit ((cellb cb 14 zc h.ncg).trans h.c14) _, cell_skip ((cellb cb 15 zc h.ncg).trans h.c15) (by decide) _, fun o => by rw [frozen_set]; exact (frb cb o zc h.ncg).trans (h.fz o),
    hown.kept hsetk (.inr (by simpa [Value.ownBlock] using Ne.symm ncg')), fun i hi => cell_skipb ((cellb wb i zw h.nwg).trans (h.wake i hi)) h.ncw _, fun i hi => ?_, h.inj,
    fun i hi => cell_skipb ((cellb m i zm h.nmg).trans (h.want i hi)) h.ncm _, fun i hi => ?_, fun o => by rw [frozen_set]; exact (frb m o zm h.nmg).trans (h.mfz o), h.oc, h.ow, h.om, h.oh, by simp [World.setCell]; omega, by simp [World.setCell]; omega, by simp [World.setCell]; omega, ncg', nwg', nmg', h.ncw, h.ncm, h.nwm⟩
  · obtain ⟨s, r, hc⟩ := h.chan i hi
    obtain ⟨hn1, hn2⟩ := h.nch hi
    refine ⟨s, r, ?_⟩
    rw [Below.heap_setCell _ _ _ _ (by simpa using Ne.symm (chan_not_cells hc h.c14)), same _ hn2 hn1]
    exact hc
  · obtain ⟨v, hv⟩ := h.row i hi
    exact ⟨v, cell_skipb ((cellb m i zm h.nmg).trans hv) h.ncm _⟩
end Go.Proofs.Ybulkalyy
