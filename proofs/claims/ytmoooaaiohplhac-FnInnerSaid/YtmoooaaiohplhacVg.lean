/- Rows that are popped and stored into; structs stored whole. -/
import Derived.Test.YtmoooaaiohplhacVf
namespace Go.V
open Go

section
variable {P : Program} {σ : List (Nat × Value)} {w w0 : World} {M : Nat → Prop} {η : List Res} {d : Option Tmp} {ty : TypeId} {pos : String} {af : Array Edge} {gd : Option (Nat × Bool)}
  {ops : Array Oper} {Q : Exit → Act → World → Prop} {rest : List Oper} {n : Nat} {ds : List Deferred} {o : Oper}

theorem row_pop {b c len m sz : Nat} {e : TypeId} {xs : List Value} (h : (row (.slice (some ⟨b, 0, none⟩) len c) e sz len xs).holds w) (hm : m ≤ len) : (row (.slice (some ⟨b, 0, none⟩) m c) e sz m (xs.take (m * sz))).holds w := by
  obtain ⟨h1, h2⟩ := h
  have hle : m * sz ≤ len * sz := Nat.mul_le_mul_right _ hm
  refine ⟨by rw [List.length_take, h1]; omega, .inr ?_⟩
  rcases h2 with ⟨h, _⟩ | ⟨g, cap, cur, e1, hb, hg, hn, hc, hs, ht⟩
  · cases h
  · cases e1
    exact ⟨b, c, cur, rfl, hb, hg, by omega, hc, hs, by rw [← ht, List.take_take, Nat.min_eq_left hle]⟩
theorem St.pop (hS : St w0 M η w) (k : Nat) {b c len m sz : Nat} {e : TypeId} {xs : List Value} (hk : η[k]? = some (row (.slice (some ⟨b, 0, none⟩) len c) e sz len xs)) (hm : m ≤ len) :
    St w0 M (η.set k (row (.slice (some ⟨b, 0, none⟩) m c) e sz m (xs.take (m * sz)))) w :=
  hS.recast k hk (row_pop (hS.get k hk) hm) (fun _ hc => hc)
theorem row_set {b c len i sz : Nat} {e : TypeId} {xs : List Value} {v : Value} (h : (row (.slice (some ⟨b, 0, none⟩) len c) e sz len xs).holds w) (_hi : i < xs.length) :
    (row (.slice (some ⟨b, 0, none⟩) len c) e sz len (xs.set i v)).holds (w.setCell ⟨b, i, none⟩ v) ∧ w.frozen? ⟨b, i, none⟩ = false := by
  obtain ⟨h1, h2⟩ := h
  rcases h2 with ⟨h, _⟩ | ⟨g, cap, cur, e1, hb, hg, hn, hc, hs, ht⟩
  · cases h
  · cases e1
    refine ⟨⟨by simpa using h1, .inr ⟨b, c, cur.setIfInBounds i v, rfl, hb, ?_, hn, hc, by simpa using hs, ?_⟩⟩, by simp [World.frozen?, hg]⟩
    · simp [World.setCell, Array.getElem?_modify, hg]
    · rw [Array.toList_setIfInBounds, ← ht, List.take_set]
theorem St.storeR (hS : St w0 M η w) (k : Nat) {b c len i sz : Nat} {e : TypeId} {xs : List Value} {v : Value} (hk : η[k]? = some (row (.slice (some ⟨b, 0, none⟩) len c) e sz len xs)) (hi : i < xs.length) :
    St w0 M (η.set k (row (.slice (some ⟨b, 0, none⟩) len c) e sz len (xs.set i v))) (w.setCell ⟨b, i, none⟩ v) :=
  hS.upd (w' := w.setCell ⟨b, i, none⟩ v) (r' := row (.slice (some ⟨b, 0, none⟩) len c) e sz len (xs.set i v)) k hk ⟨rfl, rfl, rfl, by simp [World.setCell], fun q _ hq => RowKit.Below.heap_setCell w ⟨b, i, none⟩ v q (fun e => hq (by cases e; rfl))⟩ (row_set (hS.get k hk) hi).1 (fun _ hc => .inl hc)
theorem yu_storeR {t e : TypeId} {x y : Operand} {b i c len sz : Nat} {v : Value} {xs : List Value} (hx : ev σ x = some (.pointer (some ⟨b, i, none⟩))) (hy : ev σ y = some v) (ht : OneT P t) (hv : v.oneCell' = true)
    (hS : St w0 M η w) (k : Nat) (hk : η[k]? = some (row (.slice (some ⟨b, 0, none⟩) len c) e sz len xs)) (hi : i < xs.length) : Yu P σ w ⟨d, .store t x y, ty, pos, af, gd⟩ (w.setCell ⟨b, i, none⟩ v) := fun ρ hρ => by
  have hb := hS.get k hk
  have hc := row_cell hb (j := i) (u := xs[i]) (by simp [hi])
  simp [execOp, hρ x _ hx, hρ y _ hy, run_storeAt_one ht hv hc (row_set (v := v) hb hi).2]
theorem VL_storeR {t e : TypeId} {x y : Operand} {b i c len sz : Nat} {v : Value} {xs : List Value} (hop : o.op = .store t x y) (hg : o.guard = none) (hd : o.dst = none) (hx : ev σ x = some (.pointer (some ⟨b, i, none⟩))) (hy : ev σ y = some v) (ht : OneT P t) (hv : v.oneCell' = true)
    (hS : St w0 M η w) (k : Nat) (hk : η[k]? = some (row (.slice (some ⟨b, 0, none⟩) len c) e sz len xs)) (hi : i < xs.length)
    (h : ∀ w, St w0 M (η.set k (row (.slice (some ⟨b, 0, none⟩) len c) e sz len (xs.set i v))) w → VL P ops Q rest n ds σ w) : VL P ops Q (o :: rest) n ds σ w := by
  obtain ⟨od, oop, oty, opos, oaf, og⟩ := o
  cases hop; cases hg; cases hd
  exact VL_unit rfl rfl (yu_storeR hx hy ht hv hS k hk hi) (h _ (hS.storeR k hk hi))

/-- A struct stored whole into a block of ours. -/
theorem VL_storeN {t bt : TypeId} {x y : Operand} {b off : Nat} {cs vs : List Value} (hop : o.op = .store t x y) (hg : o.guard = none) (hd : o.dst = none) (hx : ev σ x = some (.pointer (some ⟨b, off, none⟩))) (hy : ev σ y = some (.agg cs.toArray)) (ht : AggT P t cs.length) (h1 : ∀ u ∈ cs, u.oneCell' = true)
    (hS : St w0 M η w) (k : Nat) (hk : η[k]? = some (blk b bt vs)) (hl : off + cs.length ≤ vs.length)
    (h : ∀ w, St w0 M (η.set k (blk b bt (vs.take off ++ cs ++ vs.drop (off + cs.length)))) w → VL P ops Q rest n ds σ w) : VL P ops Q (o :: rest) n ds σ w := by
  obtain ⟨od, oop, oty, opos, oaf, og⟩ := o
  cases hop; cases hg; cases hd
  have hb : w.heap[b]? = some (.cells vs.toArray bt (0, 0)) := hS.get k hk
  have hr := run_storeCells_at P b off bt cs 0 vs.toArray w hb (by simpa using hl) h1
  simp only [Nat.add_zero] at hr
  refine VL_unit rfl rfl (w' := w.setRow b (vs.take off ++ cs ++ vs.drop (off + cs.length)).toArray) (fun ρ hρ => ?_) (h _ ?_)
  · simp [execOp, hρ x _ hx, hρ y _ hy, Instr.storeAt, Instr.sureAddr, storeVar, run_sizeOf ht.sz, Value.cells, hr]
  · exact hS.upd (w' := w.setRow b (vs.take off ++ cs ++ vs.drop (off + cs.length)).toArray) k hk ⟨rfl, rfl, rfl, by simp [World.setRow], fun q _ hq => setRow_other w b q _ hq⟩ (r' := blk b bt (vs.take off ++ cs ++ vs.drop (off + cs.length))) (setRow_heap w b _ _ bt _ hb) (fun _ hc => .inl hc)

theorem yd_slice_lo {t e : TypeId} {x l : Operand} {b off len c m sz : Nat} {k : IntKind} (hx : ev σ x = some (.slice (some ⟨b, off, none⟩) len c)) (hl : ev σ l = some (.int k (m : Int))) (ht : P.underlying t = some (.slice e)) (he : (P.info? e).map (·.size) = some sz) (hm : m ≤ len) (hc : m < c) :
    Yd P σ w ⟨d, .slice t x (some l) none none, ty, pos, af, gd⟩ (.slice (some ⟨b, off + m * sz, none⟩) (len - m) (c - m)) w := fun ρ hρ => by
  have h1 : (0 : Int) ≤ (m : Int) ∧ (m : Int) ≤ (len : Int) := by omega
  have h2 : ¬ (c = m) := by omega
  simp [execOp, Instr.sliceAt, Instr.slice, run_underlying ht, hρ x _ hx, hρ l _ hl, Instr.sliceBounds, Instr.sliceBound, asIntOf, hm, run_sizeOf he, h2, add_plain]
theorem yd_slice_lohi {t e : TypeId} {x l h : Operand} {b off len c m m' sz : Nat} {k k' : IntKind} (hx : ev σ x = some (.slice (some ⟨b, off, none⟩) len c)) (hl : ev σ l = some (.int k (m : Int))) (hh : ev σ h = some (.int k' (m' : Int))) (ht : P.underlying t = some (.slice e)) (he : (P.info? e).map (·.size) = some sz) (hm : m ≤ m') (hm' : m' ≤ c) (hc : m < c) :
    Yd P σ w ⟨d, .slice t x (some l) (some h) none, ty, pos, af, gd⟩ (.slice (some ⟨b, off + m * sz, none⟩) (m' - m) (c - m)) w := fun ρ hρ => by
  have h1 : (0 : Int) ≤ (m : Int) ∧ (m : Int) ≤ (m' : Int) := by omega
  have h3 : (0 : Int) ≤ (m' : Int) ∧ (m' : Int) ≤ (c : Int) := by omega
  have h2 : ¬ (c = m) := by omega
  simp [execOp, Instr.sliceAt, Instr.slice, run_underlying ht, hρ x _ hx, hρ l _ hl, hρ h _ hh, Instr.sliceBounds, Instr.sliceBound, asIntOf, hm, hm', run_sizeOf he, h2, add_plain]

/-! ### Small things -/
theorem wi_sub1 {k : Nat} (h : k < 1000000) : IntKind.i64.wrap (((k + 1 : Nat) : Int) - 1) = (k : Int) := by rw [wi64 (by omega) (by omega)]; omega
theorem wi_add1 {k : Nat} (h : k < 1000000) : IntKind.i64.wrap ((k : Int) + 1) = ((k + 1 : Nat) : Int) := by rw [wi64 (by omega) (by omega)]; omega
theorem wi_nat {k : Nat} (h : k < 1000000) : IntKind.i64.wrap ((k : Nat) : Int) = (k : Int) := wi64 (by omega) (by omega)
theorem wi32_nat {k : Nat} (h : k < 1000000) : IntKind.i32.wrap ((k : Nat) : Int) = (k : Int) := wi32 (by omega) (by omega)
theorem row_le {b c len sz : Nat} {e : TypeId} {xs : List Value} (h : (row (.slice (some ⟨b, 0, none⟩) len c) e sz len xs).holds w) : len ≤ c := by
  obtain ⟨_, h2⟩ := h
  rcases h2 with ⟨h, _⟩ | ⟨g, cap, cur, e1, _, _, hn, _⟩
  · cases h
  · cases e1; exact hn
/-- The last cells of a row. -/
theorem row_tail {b c len sz q : Nat} {e : TypeId} {C L : List Value} (h : (row (.slice (some ⟨b, 0, none⟩) len c) e sz len (C ++ L)).holds w) (hq : C.length = q) : ∀ j v, L[j]? = some v → w.cell? ⟨b, q + j, none⟩ = some v := fun j v hj =>
  row_cell h (by rw [← hq, List.getElem?_append_right (Nat.le_add_right _ _), Nat.add_sub_cancel_left]; exact hj)
theorem one_cell {b i : Nat} {x : Value} (h : w.cell? ⟨b, i, none⟩ = some x) : ∀ j v, [x][j]? = some v → w.cell? ⟨b, i + j, none⟩ = some v := fun j v hj => by
  cases j with
  | zero => simp at hj; subst hj; exact h
  | succ j => simp at hj
theorem St.heap0 (hS : St w0 M0 η w) {b : Nat} {ob : Obj} (h : w0.heap[b]? = some ob) : w.heap[b]? = some ob := (hS.old b (Array.getElem?_eq_some_iff.1 h).1 (fun x => x)).trans h
/-- A block just made, as a row without elements. -/
theorem St.mkrow (hS : St w0 M η w) (k : Nat) {b c sz : Nat} {e : TypeId} {vs : List Value} (hk : η[k]? = some (blk b e vs)) (hl : vs.length = c * sz) (hc : c ≤ 9223372036854775807) : St w0 M (η.set k (row (.slice (some ⟨b, 0, none⟩) 0 c) e sz 0 [])) w :=
  hS.recast k hk ⟨by simp, .inr ⟨b, c, vs.toArray, rfl, Nat.zero_le _, hS.get k hk, Nat.zero_le _, hc, by simpa using hl, by simp⟩⟩ (fun q hq => by simp [row, Value.ownBlock] at hq; exact hq.symm)
def field0Of (P : Program) (s : TypeId) (f : Nat) : Option (Nat × Nat × Nat × Nat × Nat × Option Nat) :=
  match P.underlying s with
  | some (.struct fs) => match fs[f]? with
    | some fld => match P.info? fld.type with
      | some i => some (fld.offset, fld.byteOffset, i.size, P.cellsOf s, P.bytesOf s, byteOfCell P P.depth s 0)
      | none => none
    | none => none
  | _ => none
theorem Field0T.of {s : TypeId} {f k by_ q : Nat} (hk : Nat.blt 0 k = true) (h : field0Of P s f = some (k, by_, 0, k, q, some 0)) : Field0T P s f k by_ q := by
  unfold field0Of at h
  split at h
  · rename_i fs hfs
    split at h
    · rename_i fld hfld
      split at h
      · rename_i i hi
        simp only [Option.some.injEq, Prod.mk.injEq] at h
        exact ⟨⟨fs, fld, i, hfs, hfld, h.1, h.2.1, hi, h.2.2.1⟩, h.2.2.2.1, h.2.2.2.2.1, Nat.blt_eq.mp hk, h.2.2.2.2.2⟩
      · cases h
    · cases h
  · cases h
end
end Go.V
