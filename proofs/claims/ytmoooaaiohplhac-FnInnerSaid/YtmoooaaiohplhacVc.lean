/- Owned memory as a list of resources; the operations that write; calls. -/
import Derived.Test.YtmoooaaiohplhacVb
namespace Go.V
open Go

/-! ### Resources -/
structure Res where
  fp : Nat → Prop
  holds : World → Prop
  loc : ∀ w w', (∀ b, fp b → w'.heap[b]? = w.heap[b]?) → holds w → holds w'
  dom : ∀ w, holds w → ∀ b, fp b → b < w.heap.size

/-- A block known whole. -/
def blk (b : Nat) (t : TypeId) (vs : List Value) : Res where
  fp := fun c => c = b
  holds := fun w => w.heap[b]? = some (.cells vs.toArray t (0, 0))
  loc := fun _ _ h hw => (h b rfl).trans hw
  dom := fun _ hw c hc => by subst hc; exact (Array.getElem?_eq_some_iff.1 hw).1

/-- A slice of the call's own that grows by append: value v, elements xs (the cells of all of them). -/
def row (v : Value) (e : TypeId) (sz n : Nat) (xs : List Value) : Res where
  fp := fun c => v.ownBlock = some c
  holds := fun w => w.ownsRow 0 e sz v n xs
  loc := fun w w' h hw => by
    refine ⟨hw.1, ?_⟩
    rcases hw.2 with hn | ⟨g, cap, cur, rfl, hb, hg, r⟩
    · exact .inl hn
    · exact .inr ⟨g, cap, cur, rfl, hb, (h g rfl).trans hg, r⟩
  dom := fun w hw c hc => (World.ownsRow.lt hw c hc).2

structure St (w0 : World) (M : Nat → Prop) (η : List Res) (w : World) : Prop where
  os : w.os = w0.os
  tape : w.tape = w0.tape
  output : w.output = w0.output
  size : w0.heap.size ≤ w.heap.size
  old : ∀ b, b < w0.heap.size → ¬ M b → w.heap[b]? = w0.heap[b]?
  res : ∀ r ∈ η, r.holds w
  own : ∀ r ∈ η, ∀ b, r.fp b → M b ∨ w0.heap.size ≤ b
  disj : η.Pairwise fun r s => ∀ b, r.fp b → ¬ s.fp b

def M0 : Nat → Prop := fun _ => False

theorem St.refl (w : World) : St w M0 [] w := ⟨rfl, rfl, rfl, Nat.le_refl _, fun _ _ _ => rfl, by simp, by simp, List.Pairwise.nil⟩
/-- The start of a call that may write what one resource spans. -/
theorem St.start {w : World} {r : Res} (h : r.holds w) : St w r.fp [r] w :=
  ⟨rfl, rfl, rfl, Nat.le_refl _, fun _ _ _ => rfl, by simpa using h, by intro s hs b hb; simp at hs; subst hs; exact .inl hb, by simp⟩

section
variable {w0 w w' : World} {M : Nat → Prop} {η η' : List Res}

theorem St.below (h : St w0 M0 η w) : RowKit.Below w0.heap.size w0 w := ⟨h.os, h.tape, h.output, h.size, fun k hk => h.old k hk (fun x => x)⟩

theorem St.get (h : St w0 M η w) (k : Nat) {r : Res} (hk : η[k]? = some r) : r.holds w := h.res r (List.mem_of_getElem? hk)

theorem St.sub (h : St w0 M η w) (hs : List.Sublist η' η) : St w0 M η' w :=
  ⟨h.os, h.tape, h.output, h.size, h.old, fun r hr => h.res r (hs.subset hr), fun r hr => h.own r (hs.subset hr), h.disj.sublist hs⟩

/-- A cell that was there when the call began. -/
theorem St.cell (h : St w0 M η w) {p : Addr} {v : Value} (hc : w0.cell? p = some v) (hM : ¬ M p.block) : w.cell? p = some v :=
  (World.cell?_of_block (h.old p.block (World.block_lt_of_cell? w0 p hc) hM)).trans hc
theorem St.cell0 (h : St w0 M0 η w) {p : Addr} {v : Value} (hc : w0.cell? p = some v) : w.cell? p = some v := h.cell hc (fun x => x)
theorem St.keep (h : St w0 M η w) {r : Res} (hr : r.holds w0) (hM : ∀ b, r.fp b → ¬ M b) : r.holds w :=
  r.loc w0 w (fun b hb => h.old b (r.dom w0 hr b hb) (hM b hb)) hr
theorem St.keep0 (h : St w0 M0 η w) {r : Res} (hr : r.holds w0) : r.holds w := h.keep hr (fun _ _ x => x)

/-- A draw. -/
theorem St.drew (h : St w0 M η w) (n : Nat) : St w0 M η { w with drawn := n } :=
  ⟨h.os, h.tape, h.output, h.size, h.old, fun r hr => r.loc w _ (fun _ _ => rfl) (h.res r hr), h.own, h.disj⟩

/-- What changes between two worlds lies within one resource, or is new. -/
structure Grow (w w' : World) (r : Res) : Prop where
  os : w'.os = w.os
  tape : w'.tape = w.tape
  output : w'.output = w.output
  size : w.heap.size ≤ w'.heap.size
  old : ∀ b, b < w.heap.size → ¬ r.fp b → w'.heap[b]? = w.heap[b]?

theorem pairwise_set {α : Type} {R : α → α → Prop} (hsym : ∀ a b, R a b → R b a) : ∀ {l : List α} {k : Nat} {x : α}, l.Pairwise R → (∀ j y, j ≠ k → l[j]? = some y → R x y) → (l.set k x).Pairwise R := by
  intro l
  induction l with
  | nil => intro k x h _; simp
  | cons a l ih =>
    intro k x h hx
    rw [List.pairwise_cons] at h
    cases k with
    | zero =>
      rw [List.set_cons_zero, List.pairwise_cons]
      refine ⟨fun y hy => ?_, h.2⟩
      obtain ⟨j, hj⟩ := List.mem_iff_getElem?.1 hy
      exact hx (j + 1) y (by omega) (by simpa using hj)
    | succ k =>
      rw [List.set_cons_succ, List.pairwise_cons]
      refine ⟨fun y hy => ?_, ih h.2 (fun j y hj hy => hx (j + 1) y (by omega) (by simpa using hy))⟩
      obtain ⟨j, hj⟩ := List.mem_iff_getElem?.1 hy
      rw [List.getElem?_set] at hj
      split at hj
      · split at hj
        · cases hj
          exact hsym _ _ (hx 0 a (by omega) (by simp))
        · cases hj
      · exact h.1 y (List.mem_of_getElem? hj)

theorem pairwise_get {α : Type} {R : α → α → Prop} (hsym : ∀ a b, R a b → R b a) {l : List α} (h : l.Pairwise R) {i j : Nat} {x y : α} (hi : l[i]? = some x) (hj : l[j]? = some y) (hne : i ≠ j) : R x y := by
  rw [List.pairwise_iff_getElem] at h
  obtain ⟨hi', rfl⟩ := List.getElem?_eq_some_iff.1 hi
  obtain ⟨hj', rfl⟩ := List.getElem?_eq_some_iff.1 hj
  rcases Nat.lt_or_gt_of_ne hne with hlt | hgt
  · exact h i j hi' hj' hlt
  · exact hsym _ _ (h j i hj' hi' hgt)

theorem disj_sym (a b : Res) (h : ∀ c, a.fp c → ¬ b.fp c) : ∀ c, b.fp c → ¬ a.fp c := fun c hb ha => h c ha hb

/-- One resource is replaced by another one over the same blocks or new ones. -/
theorem St.upd (h : St w0 M η w) (k : Nat) {r : Res} (hk : η[k]? = some r) (hg : Grow w w' r) {r' : Res} (hr : r'.holds w') (hfp : ∀ b, r'.fp b → r.fp b ∨ w.heap.size ≤ b) :
    St w0 M (η.set k r') w' := by
  have hmem : ∀ s ∈ η.set k r', s = r' ∨ ∃ j, j ≠ k ∧ η[j]? = some s := by
    intro s hs
    obtain ⟨j, hj⟩ := List.mem_iff_getElem?.1 hs
    rw [List.getElem?_set] at hj
    split at hj
    · split at hj
      · cases hj; exact .inl rfl
      · cases hj
    · rename_i hne; exact .inr ⟨j, fun e => hne e.symm, hj⟩
  have hdis : ∀ j s, j ≠ k → η[j]? = some s → ∀ b, s.fp b → ¬ r.fp b := fun j s hj hs => pairwise_get disj_sym h.disj hs hk hj
  have hr0 := h.get k hk
  refine ⟨hg.os.trans h.os, hg.tape.trans h.tape, hg.output.trans h.output, Nat.le_trans h.size hg.size, ?_, ?_, ?_, ?_⟩
  · intro b hb hM
    have hnr : ¬ r.fp b := fun hf => by
      rcases h.own r (List.mem_of_getElem? hk) b hf with h1 | h1
      · exact hM h1
      · omega
    rw [hg.old b (Nat.lt_of_lt_of_le hb h.size) hnr]
    exact h.old b hb hM
  · intro s hs
    rcases hmem s hs with rfl | ⟨j, hj, hs⟩
    · exact hr
    · have hs0 := h.get j hs
      exact s.loc w w' (fun b hb => hg.old b (s.dom w hs0 b hb) (hdis j s hj hs b hb)) hs0
  · intro s hs b hb
    rcases hmem s hs with rfl | ⟨j, hj, hs⟩
    · rcases hfp b hb with h1 | h1
      · exact h.own r (List.mem_of_getElem? hk) b h1
      · have := h.size; right; omega
    · exact h.own s (List.mem_of_getElem? hs) b hb
  · refine pairwise_set disj_sym h.disj ?_
    intro j s hj hs b hb hsb
    rcases hfp b hb with h1 | h1
    · exact hdis j s hj hs b hsb h1
    · have := s.dom w (h.get j hs) b hsb; omega

/-- New memory: a resource more. -/
theorem St.add (h : St w0 M η w) (hos : w'.os = w.os) (htp : w'.tape = w.tape) (hout : w'.output = w.output) (hsz : w.heap.size ≤ w'.heap.size) (hold : ∀ b, b < w.heap.size → w'.heap[b]? = w.heap[b]?)
    {r : Res} (hr : r.holds w') (hfp : ∀ b, r.fp b → w.heap.size ≤ b) : St w0 M (η ++ [r]) w' := by
  refine ⟨hos.trans h.os, htp.trans h.tape, hout.trans h.output, Nat.le_trans h.size hsz, ?_, ?_, ?_, ?_⟩
  · intro b hb hM
    rw [hold b (Nat.lt_of_lt_of_le hb h.size)]
    exact h.old b hb hM
  · intro s hs
    rcases List.mem_append.1 hs with hs | hs
    · exact s.loc w w' (fun b hb => hold b (s.dom w (h.res s hs) b hb)) (h.res s hs)
    · simp at hs; subst hs; exact hr
  · intro s hs b hb
    rcases List.mem_append.1 hs with hs | hs
    · exact h.own s hs b hb
    · simp at hs; subst hs; have := hfp b hb; have := h.size; right; omega
  · rw [List.pairwise_append]
    refine ⟨h.disj, by simp, ?_⟩
    intro s hs r' hr' b hsb hrb
    simp at hr'; subst hr'
    have h1 := s.dom w (h.res s hs) b hsb
    have h2 := hfp b hrb
    omega

/-- A call that writes nothing of ours. -/
theorem St.call0 (h : St w0 M η w) (hc : St w M0 η' w') : St w0 M (η ++ η') w' := by
  refine ⟨hc.os.trans h.os, hc.tape.trans h.tape, hc.output.trans h.output, Nat.le_trans h.size hc.size, ?_, ?_, ?_, ?_⟩
  · intro b hb hM
    rw [hc.old b (Nat.lt_of_lt_of_le hb h.size) (fun x => x)]
    exact h.old b hb hM
  · intro s hs
    rcases List.mem_append.1 hs with hs | hs
    · exact s.loc w w' (fun b hb => hc.old b (s.dom w (h.res s hs) b hb) (fun x => x)) (h.res s hs)
    · exact hc.res s hs
  · intro s hs b hb
    rcases List.mem_append.1 hs with hs | hs
    · exact h.own s hs b hb
    · rcases hc.own s hs b hb with h1 | h1
      · exact h1.elim
      · have := h.size; right; omega
  · rw [List.pairwise_append]
    refine ⟨h.disj, hc.disj, ?_⟩
    intro s hs r hr b hsb hrb
    rcases hc.own r hr b hrb with h1 | h1
    · exact h1
    · have := s.dom w (h.res s hs) b hsb; omega

/-- A call that writes one of our resources. -/
theorem St.call1 (h : St w0 M η w) (k : Nat) {r r' : Res} (hk : η[k]? = some r) (hc : St w r.fp (r' :: η') w') : St w0 M (η.set k r' ++ η') w' := by
  have hg : Grow w w' r := ⟨hc.os, hc.tape, hc.output, hc.size, hc.old⟩
  have hown := hc.own
  have hd := hc.disj
  rw [List.pairwise_cons] at hd
  have h1 := h.upd k hk hg (hc.res r' (by simp)) (fun b hb => hown r' (by simp) b hb)
  refine ⟨h1.os, h1.tape, h1.output, h1.size, h1.old, ?_, ?_, ?_⟩
  · intro s hs
    rcases List.mem_append.1 hs with hs | hs
    · exact h1.res s hs
    · exact hc.res s (List.mem_cons_of_mem _ hs)
  · intro s hs b hb
    rcases List.mem_append.1 hs with hs | hs
    · exact h1.own s hs b hb
    · rcases hown s (List.mem_cons_of_mem _ hs) b hb with h2 | h2
      · exact h.own r (List.mem_of_getElem? hk) b h2
      · have := h.size; right; omega
  · rw [List.pairwise_append]
    refine ⟨h1.disj, hd.2, ?_⟩
    intro s hs t ht b hsb htb
    obtain ⟨j, hj⟩ := List.mem_iff_getElem?.1 hs
    rw [List.getElem?_set] at hj
    split at hj
    · split at hj
      · cases hj; exact hd.1 t ht b hsb htb
      · cases hj
    · rename_i hne
      rcases hown t (List.mem_cons_of_mem _ ht) b htb with h2 | h2
      · exact pairwise_get disj_sym h.disj hj hk (fun e => hne e.symm) b hsb h2
      · have := s.dom w (h.get j hj) b hsb; omega

/-- A resource seen as another one over the same blocks. -/
theorem St.recast (h : St w0 M η w) (k : Nat) {r r' : Res} (hk : η[k]? = some r) (hr : r'.holds w) (hfp : ∀ b, r'.fp b → r.fp b) : St w0 M (η.set k r') w :=
  h.upd k hk ⟨rfl, rfl, rfl, Nat.le_refl _, fun _ _ _ => rfl⟩ hr (fun b hb => .inl (hfp b hb))

end

/-! ### Blocks -/
section
variable {w : World} {b : Nat} {t : TypeId} {vs : List Value}
theorem blk_cell (h : (blk b t vs).holds w) {i : Nat} {v : Value} (hi : vs[i]? = some v) : w.cell? ⟨b, i, none⟩ = some v := by
  have h' : w.heap[b]? = some (.cells vs.toArray t (0, 0)) := h
  simp [World.cell?, h', hi]
theorem blk_frozen (h : (blk b t vs).holds w) (i : Nat) : w.frozen? ⟨b, i, none⟩ = false := by
  have h' : w.heap[b]? = some (.cells vs.toArray t (0, 0)) := h
  simp [World.frozen?, h']
theorem blk_isC (h : (blk b t vs).holds w) (i : Nat) : IsC w (some ⟨b, i, none⟩) := by
  intro p hp; cases hp; exact ⟨_, _, h⟩
theorem blk_set (h : (blk b t vs).holds w) (i : Nat) (v : Value) : (blk b t (vs.set i v)).holds (w.setCell ⟨b, i, none⟩ v) := by
  have h' : w.heap[b]? = some (.cells vs.toArray t (0, 0)) := h
  show (w.setCell ⟨b, i, none⟩ v).heap[b]? = _
  simp [World.setCell, Array.getElem?_modify, h']
theorem blk_grow (i : Nat) (v : Value) : Grow w (w.setCell ⟨b, i, none⟩ v) (blk b t vs) :=
  ⟨rfl, rfl, rfl, by simp [World.setCell], fun c _ hc => RowKit.Below.heap_setCell _ _ _ _ hc⟩
theorem St.store {w0 : World} {M : Nat → Prop} {η : List Res} (h : St w0 M η w) (k : Nat) (hk : η[k]? = some (blk b t vs)) (i : Nat) (v : Value) : St w0 M (η.set k (blk b t (vs.set i v))) (w.setCell ⟨b, i, none⟩ v) :=
  h.upd k hk (blk_grow i v) (blk_set (h.get k hk) i v) (fun _ hc => .inl hc)
theorem St.alloc {w0 : World} {M : Nat → Prop} {η : List Res} (h : St w0 M η w) (t : TypeId) (vs : List Value) : St w0 M (η ++ [blk w.heap.size t vs]) (w.alloc (.cells vs.toArray t)) :=
  h.add (w' := w.alloc (.cells vs.toArray t)) (r := blk w.heap.size t vs) rfl rfl rfl (by simp) (fun b hb => heap_alloc_old w _ b hb) (heap_alloc_new w _) (fun b hb => Nat.le_of_eq hb.symm)
/-- A new block whose contents nobody asks for. -/
theorem St.alloc' {w0 : World} {M : Nat → Prop} {η : List Res} (h : St w0 M η w) (o : Obj) : St w0 M η (w.alloc o) := by
  refine ⟨h.os, h.tape, h.output, by have := h.size; simp; omega, ?_, ?_, h.own, h.disj⟩
  · intro b hb hM
    rw [heap_alloc_old w o b (Nat.lt_of_lt_of_le hb h.size)]; exact h.old b hb hM
  · intro r hr
    exact r.loc w _ (fun b hb => heap_alloc_old w o b (r.dom w (h.res r hr) b hb)) (h.res r hr)
end

/-! ### Operations that write -/
section
variable {P : Program} {σ : List (Nat × Value)} {w w0 : World} {M : Nat → Prop} {η : List Res} {d : Option Tmp} {ty : TypeId} {pos : String} {af : Array Edge} {gd : Option (Nat × Bool)}
  {ops : Array Oper} {Q : Exit → Act → World → Prop} {rest : List Oper} {n : Nat} {ds : List Deferred} {o : Oper}

theorem run_storeAt_one {t : TypeId} {a : Addr} {v u : Value} (ht : OneT P t) (hv : v.oneCell' = true) (hc : w.cell? a = some u) (hf : w.frozen? a = false) :
    (Instr.storeAt t (.pointer (some a)) v).run P w = .ok () (w.setCell a v) := by
  have hcs : v.cells = #[v] := by cases v <;> first | rfl | (simp [Value.oneCell'] at hv)
  have ha : a.add 0 = a := by simp [Addr.add]
  simp [Instr.storeAt, Instr.sureAddr, storeVar, run_sizeOf ht.sz, hcs, storeCells, ha, run_store P w a v _ hv, hc, hf]

/-- A store into a block that is ours. -/
theorem yu_store {t bt : TypeId} {x y : Operand} {b i : Nat} {v : Value} {vs : List Value} (hx : ev σ x = some (.pointer (some ⟨b, i, none⟩))) (hy : ev σ y = some v) (ht : OneT P t) (hv : v.oneCell' = true)
    (hS : St w0 M η w) (k : Nat) (hk : η[k]? = some (blk b bt vs)) (hi : i < vs.length) : Yu P σ w ⟨d, .store t x y, ty, pos, af, gd⟩ (w.setCell ⟨b, i, none⟩ v) := fun ρ hρ => by
  have hb := hS.get k hk
  have hc := blk_cell hb (i := i) (v := vs[i]) (by simp [hi])
  simp [execOp, hρ x _ hx, hρ y _ hy, run_storeAt_one ht hv hc (blk_frozen hb i)]

/-- The step: a store into a block that is ours. -/
theorem VL_store {t bt : TypeId} {x y : Operand} {b i : Nat} {v : Value} {vs : List Value} (hop : o.op = .store t x y) (hg : o.guard = none) (hd : o.dst = none) (hx : ev σ x = some (.pointer (some ⟨b, i, none⟩))) (hy : ev σ y = some v) (ht : OneT P t) (hv : v.oneCell' = true)
    (hS : St w0 M η w) (k : Nat) (hk : η[k]? = some (blk b bt vs)) (hi : i < vs.length)
    (h : ∀ w, St w0 M (η.set k (blk b bt (vs.set i v))) w → VL P ops Q rest n ds σ w) : VL P ops Q (o :: rest) n ds σ w := by
  obtain ⟨od, oop, oty, opos, oaf, og⟩ := o
  cases hop; cases hg; cases hd
  exact VL_unit rfl rfl (yu_store hx hy ht hv hS k hk hi) (h _ (hS.store k hk i v))

/-- make([]T, l, c) -/
theorem madeCells_one (z : Value) (hz : z.cells = #[z]) (c : Nat) : madeCells z.cells c = (List.replicate c z).toArray := by
  rw [hz]
  apply Array.ext
  · simp [madeCells]
  · intro i h1 h2; simp [madeCells, Nat.mod_one]

theorem VL_make {t e : TypeId} {x y : Operand} {k k' : IntKind} {l c d bytes sz : Nat} {z : Value} (hop : o.op = .makeSlice t x y) (hg : o.guard = none) (hd : o.dst = some d) (hn : Nat.blt d n = true) (hx : ev σ x = some (.int k (l : Int))) (hy : ev σ y = some (.int k' (c : Int)))
    (ht : P.underlying t = some (.slice e)) (he : ElemT P e sz bytes z) (hlc : l ≤ c) (hb : bytes * c ≤ 281474976710656) (hc : c ≤ 9223372036854775807) (hS : St w0 M η w)
    (h : ∀ b w, St w0 M (η ++ [blk b e (madeCells z.cells (c * sz)).toList]) w → VL P ops Q rest n ds ((d, .slice (some ⟨b, 0, none⟩) l c) :: σ) w) : VL P ops Q (o :: rest) n ds σ w := by
  obtain ⟨i, hi, rfl, rfl, hz⟩ := he.ex
  obtain ⟨od, oop, oty, opos, oaf, og⟩ := o
  cases hop; cases hg; cases hd
  have hb' : (i.bytes : Int) * (c : Int) ≤ 281474976710656 := by
    have h : ((i.bytes * c : Nat) : Int) ≤ 281474976710656 := by omega
    rwa [Int.natCast_mul] at h
  have hr := run_make (P := P) w t e i z ht hi hz k k' (l : Int) (c : Int) (by omega) (by omega) hb' (by omega)
  simp only [Int.toNat_natCast] at hr
  refine VL_val rfl rfl hn (v := .slice (some ⟨w.heap.size, 0, none⟩) l c) (w' := w.alloc (.cells (madeCells z.cells (c * i.size)) e)) (fun ρ hρ => ?_) (h w.heap.size _ ?_)
  · simp [execOp, hρ x _ hx, hρ y _ hy, hr]
  · have := hS.alloc e (madeCells z.cells (c * i.size)).toList
    simpa using this

/-- The same at elements of one cell: a row of zeros. -/
theorem VL_make1 {t e : TypeId} {x y : Operand} {k k' : IntKind} {l c d bytes : Nat} {z : Value} (hop : o.op = .makeSlice t x y) (hg : o.guard = none) (hd : o.dst = some d) (hn : Nat.blt d n = true) (hx : ev σ x = some (.int k (l : Int))) (hy : ev σ y = some (.int k' (c : Int)))
    (ht : P.underlying t = some (.slice e)) (he : ElemT P e 1 bytes z) (hz : z.cells = #[z]) (hlc : l ≤ c) (hb : bytes * c ≤ 281474976710656) (hc : c ≤ 9223372036854775807) (hS : St w0 M η w)
    (h : ∀ b w, St w0 M (η ++ [blk b e (List.replicate c z)]) w → VL P ops Q rest n ds ((d, .slice (some ⟨b, 0, none⟩) l c) :: σ) w) : VL P ops Q (o :: rest) n ds σ w := by
  refine VL_make hop hg hd hn hx hy ht he hlc hb hc hS (fun b w hS => h b w ?_)
  rw [Nat.mul_one, madeCells_one z hz c] at hS
  exact hS

/-- new(T), a variable whose address is taken -/
theorem VL_alloc {e : TypeId} {d bytes sz : Nat} {z : Value} (hop : o.op = .alloc e) (hg : o.guard = none) (hd : o.dst = some d) (hn : Nat.blt d n = true) (he : ElemT P e sz bytes z) (hS : St w0 M η w)
    (h : ∀ b w, St w0 M (η ++ [blk b e z.cells.toList]) w → VL P ops Q rest n ds ((d, .pointer (some ⟨b, 0, none⟩)) :: σ) w) : VL P ops Q (o :: rest) n ds σ w := by
  obtain ⟨i, hi, rfl, rfl, hz⟩ := he.ex
  obtain ⟨od, oop, oty, opos, oaf, og⟩ := o
  cases hop; cases hg; cases hd
  refine VL_val rfl rfl hn (v := .pointer (some ⟨w.heap.size, 0, none⟩)) (w' := w.alloc (.cells z.cells e)) (fun ρ _ => ?_) (h w.heap.size _ ?_)
  · simp [execOp, Instr.alloc, zeroValue, typeInfo, hi, hz, newVar, newRow]
  · have := hS.alloc e z.cells.toList
    simpa using this

/-- &T{..} -/
theorem VL_box {e : TypeId} {x : Operand} {d : Nat} {v : Value} (hop : o.op = .box e x) (hg : o.guard = none) (hd : o.dst = some d) (hn : Nat.blt d n = true) (hx : ev σ x = some v) (hS : St w0 M η w)
    (h : ∀ b w, St w0 M (η ++ [blk b e v.cells.toList]) w → VL P ops Q rest n ds ((d, .pointer (some ⟨b, 0, none⟩)) :: σ) w) : VL P ops Q (o :: rest) n ds σ w := by
  obtain ⟨od, oop, oty, opos, oaf, og⟩ := o
  cases hop; cases hg; cases hd
  refine VL_val rfl rfl hn (v := .pointer (some ⟨w.heap.size, 0, none⟩)) (w' := w.alloc (.cells v.cells e)) (fun ρ hρ => ?_) (h w.heap.size _ ?_)
  · simp [execOp, Instr.box, hρ x _ hx, newVar, newRow]
  · have := hS.alloc e v.cells.toList
    simpa using this
end

/-! ### Calls -/
def Ret (R : Value → World → Prop) (e : Ending) (w : World) : Prop := ∃ v, e = .returned v ∧ R v w

structure CallT (P : Program) (f : FuncId) : Prop where
  ex : ∃ fn, P.funcs[f]? = some fn ∧ (fn.name == "runtime.NumGoroutine") = false ∧ fn.body.isNone = false
theorem CallT.of {P : Program} {f : FuncId} {fn : Func} (h1 : P.funcs[f]? = some fn) (h2 : (fn.name == "runtime.NumGoroutine") = false) (h3 : fn.body.isNone = false) : CallT P f := ⟨fn, h1, h2, h3⟩

def evs (σ : List (Nat × Value)) : List Operand → Option (List Value)
  | [] => some []
  | x :: r => match ev σ x, evs σ r with
    | some v, some vs => some (v :: vs)
    | _, _ => none
theorem evs_map {ρ : Operand → Value} {σ : List (Nat × Value)} (h : Agr ρ σ) : ∀ {l : List Operand} {vs : List Value}, evs σ l = some vs → l.map ρ = vs
  | [], vs, hv => by simp [evs] at hv; simp [hv]
  | x :: r, vs, hv => by
    unfold evs at hv
    split at hv
    · rename_i v us h1 h2
      cases hv
      simp [h x v h1, evs_map h h2]
    · cases hv

section
variable {P : Program} {σ : List (Nat × Value)} {w : World} {ops : Array Oper} {Q : Exit → Act → World → Prop} {rest : List Oper} {n : Nat} {ds : List Deferred} {o : Oper}
theorem run_call {f : FuncId} {l : List Operand} {ats : Array TypeId} {vs : List Value} {ρ : Operand → Value} (hop : o.op = .call { callee := .value (.func f), args := l.toArray, argTypes := ats }) (hf : CallT P f) (ha : evs σ l = some vs) (hρ : Agr ρ σ) :
    (execOp ρ o).run P w = .ok (.enter f vs.toArray) w := by
  obtain ⟨fn, h1, h2, h3⟩ := hf.ex
  have e := evs_map hρ ha
  have hfn : ρ (.func f) = .func (.func f) #[] #[] := hρ _ _ rfl
  have n2 : ¬ (fn.name = "runtime.NumGoroutine") := by simpa using h2
  have n3 : ¬ (fn.body = none) := by intro h; rw [h] at h3; cases h3
  simp [execOp, hop, resolve, hfn, Deferred.ofValue, invoke, callFunc, h1, n2, n3, e]
theorem VL_call {f : FuncId} {l : List Operand} {ats : Array TypeId} {vs : List Value} {d : Nat} {R : Value → World → Prop} (hop : o.op = .call { callee := .value (.func f), args := l.toArray, argTypes := ats }) (hg : o.guard = none) (hd : o.dst = some d) (hn : Nat.blt d n = true)
    (hf : CallT P f) (ha : evs σ l = some vs) (hc : Calls P f vs.toArray w (Ret R)) (h : ∀ v w', R v w' → VL P ops Q rest n ds ((d, v) :: σ) w') : VL P ops Q (o :: rest) n ds σ w := by
  intro a hF
  refine wpList_plain hg fun K hK => ?_
  unfold Oper.wp
  rw [run_call hop hf ha hF.agr]
  refine hc.mono ?_
  rintro e w' ⟨v, rfl, hR⟩
  show K (a.put o.dst v) w'
  rw [hd]
  exact hK _ _ (h v w' hR _ (hF.put hn v))
theorem VL_call_ {f : FuncId} {l : List Operand} {ats : Array TypeId} {vs : List Value} {R : Value → World → Prop} (hop : o.op = .call { callee := .value (.func f), args := l.toArray, argTypes := ats }) (hg : o.guard = none) (hd : o.dst = none)
    (hf : CallT P f) (ha : evs σ l = some vs) (hc : Calls P f vs.toArray w (Ret R)) (h : ∀ v w', R v w' → VL P ops Q rest n ds σ w') : VL P ops Q (o :: rest) n ds σ w := by
  intro a hF
  refine wpList_plain hg fun K hK => ?_
  unfold Oper.wp
  rw [run_call hop hf ha hF.agr]
  refine hc.mono ?_
  rintro e w' ⟨v, rfl, hR⟩
  show K (a.put o.dst v) w'
  rw [hd]
  exact hK _ _ (h v w' hR _ hF)

/-- The frame at a function's start. -/
theorem enter_fr {fn : Func} {args : List Value} {N : Nat} (hN : fn.ntmps = N) (hle : Nat.ble args.length N = true) : Fr { tmps := args.toArray ++ Array.replicate (fn.ntmps - args.toArray.size) undef, defers := [] } N [] ((args.zipIdx 0).map fun p => (p.2, p.1)) := by
  refine ⟨?_, rfl, ?_⟩
  · have := Nat.le_of_ble_eq_true hle
    simp [hN]; omega
  · have key : ∀ (l : List Value) (s k : Nat) (v : Value), lk ((l.zipIdx s).map fun p => (p.2, p.1)) k = some v → s ≤ k ∧ l[k - s]? = some v := by
      intro l
      induction l with
      | nil => intro s k v h; simp [lk] at h
      | cons x l ih =>
        intro s k v h
        simp only [List.zipIdx_cons, List.map_cons, lk] at h
        cases hb : Nat.beq s k with
        | true =>
          rw [hb] at h
          have e := Nat.eq_of_beq_eq_true hb
          subst e
          simp at h ⊢; exact h
        | false =>
          rw [hb] at h
          obtain ⟨h1, h2⟩ := ih (s + 1) k v h
          refine ⟨by omega, ?_⟩
          rw [show k - s = (k - (s + 1)) + 1 by omega]
          simpa using h2
    intro k v hk
    have := (key args 0 k v hk).2
    simp only [Nat.sub_zero] at this
    have hlt := (List.getElem?_eq_some_iff.1 this).1
    show (args.toArray ++ _)[k]? = some v
    rw [Array.getElem?_append_left (by simpa using hlt)]
    simpa using this
/-- A function's body, entered. -/
theorem V_enter {f : FuncId} {fn : Func} {c : Code} {args : List Value} {R : Value → World → Prop} {N : Nat} (hf : P.funcs[f]? = some fn) (hb : fn.body = some c) (hN : fn.ntmps = N) (hle : Nat.ble args.length N = true)
    (h : VC P c (bodyPost P fn (Ret R)) N [] ((args.zipIdx 0).map fun p => (p.2, p.1)) w) : Calls P f args.toArray w (Ret R) :=
  calls_of_wp hf hb (h _ (enter_fr hN hle))

/-- The end of a body: one result in a slot. -/
theorem VE_ret1 {fn : Func} {R : Value → World → Prop} {t : Tmp} {v : Value} (hr : fn.results = #[.tmp t]) (hv : lk σ t = some v) (h : R v w) : VE (bodyPost P fn (Ret R)) .ret n [] σ w := by
  intro a ha
  refine bodyPost_ret (v := v) ?_ ha.defers ⟨v, rfl, h⟩
  rw [results_tmp hr]
  simp [Array.getD_eq_getD_getElem?, ha.slot t v hv]
theorem VE_end1 {fn : Func} {R : Value → World → Prop} {t : Tmp} {v : Value} (hr : fn.results = #[.tmp t]) (hv : lk σ t = some v) (h : R v w) : VE (bodyPost P fn (Ret R)) .normal n [] σ w := by
  intro a ha
  refine bodyPost_end (v := v) ?_ ha.defers ⟨v, rfl, h⟩
  rw [results_tmp hr]
  simp [Array.getD_eq_getD_getElem?, ha.slot t v hv]
theorem VE_end0 {fn : Func} {R : Value → World → Prop} (hr : fn.results = #[]) (h : R (.tuple #[]) w) : VE (bodyPost P fn (Ret R)) .normal n [] σ w := by
  intro a ha
  exact bodyPost_end (v := .tuple #[]) (results_none hr _ _ _) ha.defers ⟨_, rfl, h⟩
theorem VE_ret0 {fn : Func} {R : Value → World → Prop} (hr : fn.results = #[]) (h : R (.tuple #[]) w) : VE (bodyPost P fn (Ret R)) .ret n [] σ w := by
  intro a ha
  exact bodyPost_ret (v := .tuple #[]) (results_none hr _ _ _) ha.defers ⟨_, rfl, h⟩
theorem VE_ret2 {fn : Func} {R : Value → World → Prop} {t u : Tmp} {v v' : Value} (hr : fn.results = #[.tmp t, .tmp u]) (hv : lk σ t = some v) (hv' : lk σ u = some v') (h : R (.tuple #[v, v']) w) : VE (bodyPost P fn (Ret R)) .ret n [] σ w := by
  intro a ha
  refine bodyPost_ret (v := .tuple #[v, v']) ?_ ha.defers ⟨_, rfl, h⟩
  rw [results_tmp2 hr]
  simp [Array.getD_eq_getD_getElem?, ha.slot t v hv, ha.slot u v' hv']
end
end Go.V
