/- The operations, one law each, over the slots' list. -/
import Derived.Test.YtmoooaaiohplhacVa
import Derived.Laws.MakeOwn
import Derived.Laws.OwnMore
import Derived.Great.BuildSlice
import Derived.LaidEql
namespace Go.V
open Go

/-! ### Facts on types -/
/-- Elements of type e: cells, bytes, zero value. -/
structure ElemT (P : Program) (e : TypeId) (sz bytes : Nat) (z : Value) : Prop where
  ex : ∃ i, P.info? e = some i ∧ i.size = sz ∧ i.bytes = bytes ∧ i.zero = some z
theorem ElemT.of {P : Program} {e : TypeId} {sz bytes : Nat} {z : Value} (h : (P.info? e).map (fun i => (i.zero, i.size, i.bytes)) = some (some z, sz, bytes)) : ElemT P e sz bytes z := by
  cases hi : P.info? e with
  | none => simp [hi] at h
  | some i => simp [hi] at h; exact ⟨i, hi, h.2.1, h.2.2, h.1⟩
/-- A type of one cell. -/
def oneDesc : TypeDesc → Bool
  | .struct _ | .array _ _ => false
  | _ => true
structure OneT (P : Program) (t : TypeId) : Prop where
  ex : ∃ d, P.underlying t = some d ∧ oneDesc d = true
  sz : (P.info? t).map (·.size) = some 1
/-- A type of several cells. -/
structure AggT (P : Program) (t : TypeId) (n : Nat) : Prop where
  ex : ∃ d, P.underlying t = some d ∧ oneDesc d = false
  sz : (P.info? t).map (·.size) = some n
/-- A struct's field: its place; its type has cells. -/
structure FieldT (P : Program) (s : TypeId) (f k : Nat) : Prop where
  ex : ∃ fs fld i, P.underlying s = some (.struct fs) ∧ fs[f]? = some fld ∧ fld.offset = k ∧ P.info? fld.type = some i ∧ i.size ≠ 0
def fieldOf (P : Program) (s : TypeId) (f : Nat) : Option (Nat × Bool) :=
  match P.underlying s with
  | some (.struct fs) => match fs[f]? with
    | some fld => match P.info? fld.type with
      | some i => some (fld.offset, i.size != 0)
      | none => none
    | none => none
  | _ => none
theorem FieldT.of {P : Program} {s : TypeId} {f k : Nat} (h : fieldOf P s f = some (k, true)) : FieldT P s f k := by
  unfold fieldOf at h
  split at h
  · rename_i fs hfs
    split at h
    · rename_i fld hfld
      split at h
      · rename_i i hi
        simp at h
        exact ⟨fs, fld, i, hfs, hfld, h.1, hi, h.2⟩
      · cases h
    · cases h
  · cases h

theorem run_isAgg_one {P : Program} {t : TypeId} (h : OneT P t) (w : World) : (isAgg t).run P w = .ok false w := by
  obtain ⟨d, hd, h1⟩ := h.ex
  unfold isAgg
  rw [Sem.run_bind, run_underlying hd, Result.andThen_ok]
  cases d <;> first | rfl | (simp [oneDesc] at h1)
theorem run_isAgg_agg {P : Program} {t : TypeId} {n : Nat} (h : AggT P t n) (w : World) : (isAgg t).run P w = .ok true w := by
  obtain ⟨d, hd, h1⟩ := h.ex
  unfold isAgg
  rw [Sem.run_bind, run_underlying hd, Result.andThen_ok]
  cases d <;> first | rfl | (simp [oneDesc] at h1)
theorem run_sizeOf {P : Program} {t : TypeId} {n : Nat} (h : (P.info? t).map (·.size) = some n) (w : World) : (sizeOf t).run P w = .ok n w := by
  cases hi : P.info? t with
  | none => simp [hi] at h
  | some i => simp [hi] at h; simp [sizeOf, typeInfo, hi, h]
theorem add_plain (b off n : Nat) : (⟨b, off, none⟩ : Addr).add n = ⟨b, off + n, none⟩ := by
  unfold Addr.add; split <;> simp_all

/-! ### Plain operations -/
section
variable {P : Program} {σ : List (Nat × Value)} {w : World} {d : Option Tmp} {ty : TypeId} {pos : String} {af : Array Edge} {gd : Option (Nat × Bool)}

theorem yd_move {x : Operand} {v : Value} (hx : ev σ x = some v) : Yd P σ w ⟨d, .move x, ty, pos, af, gd⟩ v w := fun ρ hρ => by
  simp only [execOp, Sem.run_pure, hρ x v hx]
theorem yd_assign {x : Operand} {v : Value} (hx : ev σ x = some v) : Yd P σ w ⟨d, .assign x, ty, pos, af, gd⟩ v w := fun ρ hρ => by
  simp only [execOp, Sem.run_pure, hρ x v hx]
theorem yd_pick_t {c x y : Operand} {v : Value} (hc : ev σ c = some (.bool true)) (hx : ev σ x = some v) : Yd P σ w ⟨d, .pick c x y, ty, pos, af, gd⟩ v w := fun ρ hρ => by
  simp [execOp, asBool, hρ c _ hc, hρ x v hx]
theorem yd_pick_f {c x y : Operand} {v : Value} (hc : ev σ c = some (.bool false)) (hy : ev σ y = some v) : Yd P σ w ⟨d, .pick c x y, ty, pos, af, gd⟩ v w := fun ρ hρ => by
  simp [execOp, asBool, hρ c _ hc, hρ y v hy]
theorem yd_not {t : TypeId} {x : Operand} {b : Bool} (hx : ev σ x = some (.bool b)) : Yd P σ w ⟨d, .unOp .not t x, ty, pos, af, gd⟩ (.bool (!b)) w := fun ρ hρ => by
  simp [execOp, Op.unary, hρ x _ hx]

theorem run_eqGuard_int (op : BinOp) (t : TypeId) (x y : Operand) (k k' : IntKind) (a b : Int) (w : World) : (eqGuard op t x y (.int k a) (.int k' b)).run P w = .ok () w := by
  unfold eqGuard; cases op <;> simp
theorem run_eqGuard_ptr (op : BinOp) (t : TypeId) (x y : Operand) (a b : Option Addr) (w : World) : (eqGuard op t x y (.pointer a) (.pointer b)).run P w = .ok () w := by
  unfold eqGuard; cases op <;> simp
theorem run_eqGuard_slice (op : BinOp) (t : TypeId) (x y : Operand) (a b : Option Addr) (n m c c' : Nat) (w : World) : (eqGuard op t x y (.slice a n c) (.slice b m c')).run P w = .ok () w := by
  unfold eqGuard; cases op <;> simp
theorem run_eqGuard_bool (op : BinOp) (t : TypeId) (x y : Operand) (a b : Bool) (w : World) : (eqGuard op t x y (.bool a) (.bool b)).run P w = .ok () w := by
  unfold eqGuard; cases op <;> simp

theorem yd_lss {t t' : TypeId} {x y : Operand} {k : IntKind} {a b : Int} (hx : ev σ x = some (.int k a)) (hy : ev σ y = some (.int k b)) : Yd P σ w ⟨d, .binOp .lss t x y t', ty, pos, af, gd⟩ (.bool (decide (a < b))) w := fun ρ hρ => by
  simp [execOp, run_eqGuard_int, binOp, Op.intCmp, hρ x _ hx, hρ y _ hy]
theorem yd_leq {t t' : TypeId} {x y : Operand} {k : IntKind} {a b : Int} (hx : ev σ x = some (.int k a)) (hy : ev σ y = some (.int k b)) : Yd P σ w ⟨d, .binOp .leq t x y t', ty, pos, af, gd⟩ (.bool (decide (a ≤ b))) w := fun ρ hρ => by
  simp [execOp, run_eqGuard_int, binOp, Op.intCmp, hρ x _ hx, hρ y _ hy]
theorem yd_gtr {t t' : TypeId} {x y : Operand} {k : IntKind} {a b : Int} (hx : ev σ x = some (.int k a)) (hy : ev σ y = some (.int k b)) : Yd P σ w ⟨d, .binOp .gtr t x y t', ty, pos, af, gd⟩ (.bool (decide (b < a))) w := fun ρ hρ => by
  simp [execOp, run_eqGuard_int, binOp, Op.intCmp, hρ x _ hx, hρ y _ hy]
theorem yd_geq {t t' : TypeId} {x y : Operand} {k : IntKind} {a b : Int} (hx : ev σ x = some (.int k a)) (hy : ev σ y = some (.int k b)) : Yd P σ w ⟨d, .binOp .geq t x y t', ty, pos, af, gd⟩ (.bool (decide (b ≤ a))) w := fun ρ hρ => by
  simp [execOp, run_eqGuard_int, binOp, Op.intCmp, hρ x _ hx, hρ y _ hy]
theorem yd_eql {t t' : TypeId} {x y : Operand} {k : IntKind} {a b : Int} (hx : ev σ x = some (.int k a)) (hy : ev σ y = some (.int k b)) : Yd P σ w ⟨d, .binOp .eql t x y t', ty, pos, af, gd⟩ (.bool (decide (a = b))) w := fun ρ hρ => by
  have e : (a == b) = decide (a = b) := rfl
  simp [execOp, run_eqGuard_int, binOp, Op.intCmp, hρ x _ hx, hρ y _ hy, e]
theorem yd_neq {t t' : TypeId} {x y : Operand} {k : IntKind} {a b : Int} (hx : ev σ x = some (.int k a)) (hy : ev σ y = some (.int k b)) : Yd P σ w ⟨d, .binOp .neq t x y t', ty, pos, af, gd⟩ (.bool (decide (a ≠ b))) w := fun ρ hρ => by
  have e : (a != b) = decide (a ≠ b) := by show (!(a == b)) = _; rw [show (a == b) = decide (a = b) from rfl]; simp
  simp only [execOp, hρ x _ hx, hρ y _ hy, Sem.run_bind, run_eqGuard_int, Result.andThen_ok, binOp, ne_eq, not_true_eq_false, if_false, Op.intCmp, Sem.run_pure, e]

theorem yd_add {t t' : TypeId} {x y : Operand} {k : IntKind} {a b : Int} (hx : ev σ x = some (.int k a)) (hy : ev σ y = some (.int k b)) (c : Int) (hc : k.wrap (a + b) = c) : Yd P σ w ⟨d, .binOp .add t x y t', ty, pos, af, gd⟩ (.int k c) w := fun ρ hρ => by
  simp [execOp, run_eqGuard_int, binOp, Op.intArith, hρ x _ hx, hρ y _ hy, hc]
theorem yd_sub {t t' : TypeId} {x y : Operand} {k : IntKind} {a b : Int} (hx : ev σ x = some (.int k a)) (hy : ev σ y = some (.int k b)) (c : Int) (hc : k.wrap (a - b) = c) : Yd P σ w ⟨d, .binOp .sub t x y t', ty, pos, af, gd⟩ (.int k c) w := fun ρ hρ => by
  simp [execOp, run_eqGuard_int, binOp, Op.intArith, hρ x _ hx, hρ y _ hy, hc]
theorem yd_mul {t t' : TypeId} {x y : Operand} {k : IntKind} {a b : Int} (hx : ev σ x = some (.int k a)) (hy : ev σ y = some (.int k b)) (c : Int) (hc : k.wrap (a * b) = c) : Yd P σ w ⟨d, .binOp .mul t x y t', ty, pos, af, gd⟩ (.int k c) w := fun ρ hρ => by
  simp [execOp, run_eqGuard_int, binOp, Op.intArith, hρ x _ hx, hρ y _ hy, hc]

theorem yd_conv {s t : TypeId} {x : Operand} {k k' : IntKind} {a : Int} (hx : ev σ x = some (.int k a)) (hs : ∃ u, P.underlying s = some u) (ht : P.underlying t = some (.int k')) (c : Int) (hc : k'.wrap a = c) :
    Yd P σ w ⟨d, .convert s t x, ty, pos, af, gd⟩ (.int k' c) w := fun ρ hρ => by
  obtain ⟨u, hu⟩ := hs
  simp only [execOp, hρ x _ hx, convert, Sem.run_bind, run_underlying hu, run_underlying ht, Result.andThen_ok]
  cases u <;> simp [Conv.intToInt, hc]

theorem yd_len {t e : TypeId} {x : Operand} {a : Option Addr} {n c : Nat} (hx : ev σ x = some (.slice a n c)) (ht : P.underlying t = some (.slice e)) :
    Yd P σ w ⟨d, .call { callee := .builtin .len, args := #[x], argTypes := #[t] }, ty, pos, af, gd⟩ (.int .i64 (n : Int)) w := fun ρ hρ => by
  simp [execOp, resolve, invoke, builtin, Builtin.len_, hρ x _ hx, run_underlying ht, goInt]

theorem yd_nilc {x : Operand} {a : Addr} (hx : ev σ x = some (.pointer (some a))) : Yd P σ w ⟨d, .nilCheck x, ty, pos, af, gd⟩ (.pointer (some a)) w := fun ρ hρ => by
  simp [execOp, hρ x _ hx]

/-- The address of a field. -/
theorem yd_field {s : TypeId} {x : Operand} {f k b off : Nat} (hx : ev σ x = some (.pointer (some ⟨b, off, none⟩))) (hf : FieldT P s f k) : Yd P σ w ⟨d, .fieldAddr s x f, ty, pos, af, gd⟩ (.pointer (some ⟨b, off + k, none⟩)) w := fun ρ hρ => by
  obtain ⟨fs, fld, i, h1, h2, h3, h4, h5⟩ := hf.ex
  simp [execOp, Instr.fieldAt, hρ x _ hx, run_underlying h1, h2, Instr.sureAddr, fieldPlace, sizeOf, typeInfo, h4, h5, h3, add_plain]

/-- The address of an element. -/
theorem yd_index {t e : TypeId} {x y : Operand} {k : IntKind} {b off i n c sz : Nat} (hx : ev σ x = some (.slice (some ⟨b, off, none⟩) n c)) (hy : ev σ y = some (.int k (i : Int)))
    (ht : P.underlying t = some (.slice e)) (he : (P.info? e).map (·.size) = some sz) (hi : i < n) (q : Nat) (hq : off + i * sz = q) : Yd P σ w ⟨d, .indexAddr t x y, ty, pos, af, gd⟩ (.pointer (some ⟨b, q, none⟩)) w := fun ρ hρ => by
  have h1 : (0 : Int) ≤ (i : Int) ∧ (i : Int) < (n : Int) := by omega
  simp [execOp, Instr.indexAt, hρ x _ hx, hρ y _ hy, asIntOf, run_underlying ht, h1, hi, run_sizeOf he, add_plain, hq]

/-- The address of an element of a slice of one-cell elements. -/
theorem yd_index1 {t e : TypeId} {x y : Operand} {k : IntKind} {b off i n c : Nat} (hx : ev σ x = some (.slice (some ⟨b, off, none⟩) n c)) (hy : ev σ y = some (.int k (i : Int)))
    (ht : P.underlying t = some (.slice e)) (he : (P.info? e).map (·.size) = some 1) (hi : i < n) : Yd P σ w ⟨d, .indexAddr t x y, ty, pos, af, gd⟩ (.pointer (some ⟨b, off + i, none⟩)) w :=
  yd_index hx hy ht he hi _ (by rw [Nat.mul_one])
theorem yd_index0 {t e : TypeId} {x y : Operand} {k : IntKind} {b i n c : Nat} (hx : ev σ x = some (.slice (some ⟨b, 0, none⟩) n c)) (hy : ev σ y = some (.int k (i : Int)))
    (ht : P.underlying t = some (.slice e)) (he : (P.info? e).map (·.size) = some 1) (hi : i < n) : Yd P σ w ⟨d, .indexAddr t x y, ty, pos, af, gd⟩ (.pointer (some ⟨b, i, none⟩)) w :=
  yd_index hx hy ht he hi _ (by rw [Nat.mul_one, Nat.zero_add])

theorem yd_load {t : TypeId} {x : Operand} {a : Addr} {v : Value} (hx : ev σ x = some (.pointer (some a))) (ht : OneT P t) (hc : w.cell? a = some v) : Yd P σ w ⟨d, .load t x, ty, pos, af, gd⟩ v w := fun ρ hρ => by
  simp [execOp, Instr.loadAt, Instr.sureAddr, hρ x _ hx, loadVar, run_isAgg_one ht, hc]

theorem run_loadCellsFrom (b off : Nat) : ∀ (cs : List Value) (i : Nat) (acc : Array Value) (_ : ∀ j v, cs[j]? = some v → w.cell? ⟨b, off + (i + j), none⟩ = some v),
    (loadCellsFrom ⟨b, off, none⟩ i cs.length acc).run P w = .ok (acc ++ cs.toArray) w
  | [], i, acc, _ => by simp [loadCellsFrom]
  | v :: cs, i, acc, h => by
    have h0 := h 0 v (by simp)
    simp only [Nat.add_zero] at h0
    have ih := run_loadCellsFrom b off cs (i + 1) (acc.push v) (fun j u hu => by
      have := h (j + 1) u (by simpa using hu)
      rw [show i + 1 + j = i + (j + 1) by omega]; exact this)
    simp only [List.length_cons, loadCellsFrom, Sem.run_bind, run_load, add_plain, h0, Result.andThen_ok, ih]
    simp

/-- A struct loaded whole. -/
theorem yd_loadn {t : TypeId} {x : Operand} {b off : Nat} (cs : List Value) (hx : ev σ x = some (.pointer (some ⟨b, off, none⟩))) (ht : AggT P t cs.length)
    (hc : ∀ j v, cs[j]? = some v → w.cell? ⟨b, off + j, none⟩ = some v) : Yd P σ w ⟨d, .load t x, ty, pos, af, gd⟩ (.agg cs.toArray) w := fun ρ hρ => by
  have h := run_loadCellsFrom (P := P) (w := w) b off cs 0 #[] (fun j v hj => by rw [Nat.zero_add]; exact hc j v hj)
  simp only [Array.empty_append] at h
  simp [execOp, Instr.loadAt, Instr.sureAddr, hρ x _ hx, loadVar, run_isAgg_agg ht, run_sizeOf ht.sz, loadCells, h]

theorem yd_extract {x : Operand} {i : Nat} {vs : Array Value} {v : Value} (hx : ev σ x = some (.tuple vs)) (hi : vs[i]? = some v) : Yd P σ w ⟨d, .extract x i, ty, pos, af, gd⟩ v w := fun ρ hρ => by
  simp [execOp, Instr.extract, hρ x _ hx, hi]

theorem yd_slice_hi {t e : TypeId} {x h : Operand} {b off n c m : Nat} {k : IntKind} (hx : ev σ x = some (.slice (some ⟨b, off, none⟩) n c)) (hh : ev σ h = some (.int k (m : Int))) (ht : P.underlying t = some (.slice e)) (he : ∃ s, (P.info? e).map (·.size) = some s) (hm : m ≤ c) :
    Yd P σ w ⟨d, .slice t x none (some h) none, ty, pos, af, gd⟩ (.slice (some ⟨b, off, none⟩) m c) w := fun ρ hρ => by
  obtain ⟨s, he⟩ := he
  have h1 : (0 : Int) ≤ (m : Int) ∧ (m : Int) ≤ (c : Int) := by omega
  simp [execOp, Instr.sliceAt, Instr.slice, run_underlying ht, hρ x _ hx, hρ h _ hh, Instr.sliceBounds, Instr.sliceBound, asIntOf, hm, run_sizeOf he, Addr.add]

/-- A block of cells none of which is frozen. -/
def IsC (w : World) (a : Option Addr) : Prop := ∀ p, a = some p → ∃ c t, w.heap[p.block]? = some (.cells c t (0, 0))

theorem run_equalIn_ptr {t el : TypeId} {a b : Option Addr} {s : Nat} (dd : Nat) (ht : P.underlying t = some (.pointer el)) (he : (P.info? el).map (·.size) = some s) (hs : s ≠ 0)
    (ha : IsC w a) (hb : IsC w b) : (Op.equalIn (dd + 1) t (.pointer a) (.pointer b)).run P w = .ok (decide (a = b)) w := by
  cases a with
  | none => cases b <;> simp [Op.equalIn, run_underlying ht]
  | some p =>
    cases b with
    | none => simp [Op.equalIn, run_underlying ht]
    | some q =>
      obtain ⟨ca, ta, ha⟩ := ha p rfl
      obtain ⟨cb, tb, hb⟩ := hb q rfl
      by_cases e : p = q
      · subst e
        simp [Op.equalIn, run_underlying ht, run_sizeOf he, run_sameAddr_same]
      · simp [Op.equalIn, run_underlying ht, run_sizeOf he, hs, run_sameAddr_other w e ha hb, e]
theorem run_equal_ptr {t el : TypeId} {a b : Option Addr} {s : Nat} (ht : P.underlying t = some (.pointer el)) (he : (P.info? el).map (·.size) = some s) (hs : s ≠ 0)
    (ha : IsC w a) (hb : IsC w b) : (Op.equal t (.pointer a) (.pointer b)).run P w = .ok (decide (a = b)) w := run_equalIn_ptr 9999 ht he hs ha hb
theorem yd_eqlp {t t' el : TypeId} {x y : Operand} {a b : Option Addr} {s : Nat} (hx : ev σ x = some (.pointer a)) (hy : ev σ y = some (.pointer b)) (ht : P.underlying t = some (.pointer el)) (he : (P.info? el).map (·.size) = some s) (hs : s ≠ 0)
    (ha : IsC w a) (hb : IsC w b) : Yd P σ w ⟨d, .binOp .eql t x y t', ty, pos, af, gd⟩ (.bool (decide (a = b))) w := fun ρ hρ => by
  have e : binOp .eql t (.pointer a) (.pointer b) = (do pure (.bool (← Op.equal t (.pointer a) (.pointer b)))) := rfl
  simp only [execOp, hρ x _ hx, hρ y _ hy, e, Sem.run_bind, run_eqGuard_ptr, Result.andThen_ok, run_equal_ptr ht he hs ha hb, Sem.run_pure]
theorem yd_neqp {t t' el : TypeId} {x y : Operand} {a b : Option Addr} {s : Nat} (hx : ev σ x = some (.pointer a)) (hy : ev σ y = some (.pointer b)) (ht : P.underlying t = some (.pointer el)) (he : (P.info? el).map (·.size) = some s) (hs : s ≠ 0)
    (ha : IsC w a) (hb : IsC w b) : Yd P σ w ⟨d, .binOp .neq t x y t', ty, pos, af, gd⟩ (.bool (decide (a ≠ b))) w := fun ρ hρ => by
  have e : binOp .neq t (.pointer a) (.pointer b) = (do pure (.bool (!(← Op.equal t (.pointer a) (.pointer b))))) := rfl
  have e2 : (!decide (a = b)) = decide (a ≠ b) := by simp
  simp only [execOp, hρ x _ hx, hρ y _ hy, e, Sem.run_bind, run_eqGuard_ptr, Result.andThen_ok, run_equal_ptr ht he hs ha hb, Sem.run_pure, e2]
theorem run_equal_slnil {t el : TypeId} {a : Option Addr} {n c : Nat} (ht : P.underlying t = some (.slice el)) : (Op.equal t (.slice a n c) (.slice none 0 0)).run P w = .ok a.isNone w := by
  show (Op.equalIn (9999 + 1) t (.slice a n c) (.slice none 0 0)).run P w = _
  generalize 9999 = m
  cases a <;> simp [Op.equalIn, run_underlying ht]
theorem yd_neqnil {t t' el : TypeId} {x : Operand} {a : Option Addr} {n c : Nat} (hx : ev σ x = some (.slice a n c)) (ht : P.underlying t = some (.slice el)) :
    Yd P σ w ⟨d, .binOp .neq t x (.const (.slice none 0 0)) t', ty, pos, af, gd⟩ (.bool a.isSome) w := fun ρ hρ => by
  have e : binOp .neq t (.slice a n c) (.slice none 0 0) = (do pure (.bool (!(← Op.equal t (.slice a n c) (.slice none 0 0))))) := rfl
  have e2 : (!a.isNone) = a.isSome := by cases a <;> rfl
  have hc : ρ (.const (.slice none 0 0)) = .slice none 0 0 := hρ _ _ rfl
  simp only [execOp, hρ x _ hx, hc, e, Sem.run_bind, run_eqGuard_slice, Result.andThen_ok, run_equal_slnil ht, Sem.run_pure, e2]
theorem run_equal_bool {t : TypeId} {a b : Bool} (ht : P.underlying t = some .bool) : (Op.equal t (.bool a) (.bool b)).run P w = .ok (decide (a = b)) w := by
  show (Op.equalIn (9999 + 1) t (.bool a) (.bool b)).run P w = _
  generalize 9999 = m
  simp only [Op.equalIn, Sem.run_bind, run_underlying ht, Result.andThen_ok, Sem.run_pure]
  cases a <;> cases b <;> rfl
theorem yd_eqlb {t t' : TypeId} {x y : Operand} {a b : Bool} (hx : ev σ x = some (.bool a)) (hy : ev σ y = some (.bool b)) (ht : P.underlying t = some .bool) : Yd P σ w ⟨d, .binOp .eql t x y t', ty, pos, af, gd⟩ (.bool (decide (a = b))) w := fun ρ hρ => by
  have e : binOp .eql t (.bool a) (.bool b) = (do pure (.bool (← Op.equal t (.bool a) (.bool b)))) := rfl
  simp only [execOp, hρ x _ hx, hρ y _ hy, e, Sem.run_bind, run_eqGuard_bool, Result.andThen_ok, run_equal_bool ht, Sem.run_pure]
theorem yd_neqb {t t' : TypeId} {x y : Operand} {a b : Bool} (hx : ev σ x = some (.bool a)) (hy : ev σ y = some (.bool b)) (ht : P.underlying t = some .bool) : Yd P σ w ⟨d, .binOp .neq t x y t', ty, pos, af, gd⟩ (.bool (decide (a ≠ b))) w := fun ρ hρ => by
  have e : binOp .neq t (.bool a) (.bool b) = (do pure (.bool (!(← Op.equal t (.bool a) (.bool b))))) := rfl
  have e2 : (!decide (a = b)) = decide (a ≠ b) := by simp
  simp only [execOp, hρ x _ hx, hρ y _ hy, e, Sem.run_bind, run_eqGuard_bool, Result.andThen_ok, run_equal_bool ht, Sem.run_pure, e2]
end
end Go.V
