/- Slice literals of one element, append, struct literals, empty structs, deferred calls. -/
import Derived.Test.YtmoooaaiohplhacVe
namespace Go.V
open Go

/-! ### fill -/
theorem foldl_set_list : ∀ (l : List Value) (k : Nat) (a : Array Value), k + l.length ≤ a.size →
    ((l.zipIdx k).foldl (fun cs p => cs.setIfInBounds p.2 p.1) a).toList = a.toList.take k ++ l ++ a.toList.drop (k + l.length)
  | [], k, a, _ => by simp
  | v :: l, k, a, h => by
    simp only [List.length_cons] at h
    rw [List.zipIdx_cons, List.foldl_cons, foldl_set_list l (k + 1) _ (by simp; omega)]
    simp only [Array.toList_setIfInBounds, List.length_cons]
    apply List.ext_getElem?
    intro i
    simp only [List.getElem?_append, List.length_take, List.length_set, Array.length_toList, List.length_append, List.getElem?_take, List.getElem?_set, List.getElem?_drop, List.length_cons, List.getElem?_cons]
    grind
theorem fill_one {v : Value} {cells : Array Value} {sz : Nat} (hs : v.cells.size = sz) (hc : cells.size = sz) : Instr.fill (fun i => some (i * sz, sz)) cells [(0, v)] = some v.cells := by
  have h : (v.cells.zipIdx.foldl (fun cs p => cs.setIfInBounds (0 + p.2) p.1) cells) = v.cells := by
    apply Array.ext'
    rw [← Array.foldl_toList, Array.toList_zipIdx]
    have := foldl_set_list v.cells.toList 0 cells (by simp; omega)
    simp only [Nat.zero_add, List.take_zero, List.nil_append, Array.length_toList] at this ⊢
    rw [this, List.drop_eq_nil_of_le (by simp; omega), List.append_nil]
  unfold Instr.fill
  simp only [Nat.zero_mul]
  rw [if_neg (by simp; omega)]
  unfold Instr.fill
  exact congrArg some h

section
variable {P : Program} {σ : List (Nat × Value)} {w w0 : World} {M : Nat → Prop} {η : List Res} {d : Option Tmp} {ty : TypeId} {pos : String} {af : Array Edge} {gd : Option (Nat × Bool)}
  {ops : Array Oper} {Q : Exit → Act → World → Prop} {rest : List Oper} {n : Nat} {ds : List Deferred} {o : Oper}

/-- []T{x} -/
theorem yr_bslice {t e : TypeId} {x : Operand} {v z : Value} {sz bytes : Nat} (hx : ev σ x = some v) (ht : P.underlying t = some (.slice e)) (he : ElemT P e sz bytes z) (hv : v.cells.size = sz) (hpos : 0 < sz) (hsm : sz ≤ 16777216) (hS : St w0 M η w) :
    Yr P σ w ⟨d, .buildSlice t 1 #[(0, x)], ty, pos, af, gd⟩ (fun u w' => ∃ b, u = .slice (some ⟨b, 0, none⟩) 1 1 ∧ St w0 M (η ++ [blk b e v.cells.toList]) w') := fun ρ hρ => by
  obtain ⟨i, hi, rfl, rfl, hz⟩ := he.ex
  have hf := fill_one (cells := (Array.range (1 * i.size)).map (z.cells[· % z.cells.size]!)) hv (by simp)
  have hr := run_buildSlice (P := P) w t e 1 #[(0, v)] v.cells i z ht hi hz (by omega) (by omega) hf
  refine ⟨.slice (some ⟨w.heap.size, 0, none⟩) 1 1, w.alloc (.cells v.cells e), ?_, w.heap.size, rfl, ?_⟩
  · simp [execOp, hρ x _ hx, hr]
  · have := hS.alloc e v.cells.toList
    simpa using this

/-- s = append(s, x), x laid in a row of its own -/
theorem yr_append {t e : TypeId} {x y : Operand} {v z : Value} {sz bytes m len c b : Nat} {xs news : List Value} (hx : ev σ x = some v) (hy : ev σ y = some (.slice (some ⟨b, 0, none⟩) m c)) (ht : P.underlying t = some (.slice e)) (he : ElemT P e sz bytes z) (hz : z.cells.size = sz) (hpos : 0 < sz)
    (hS : St w0 M η w) (k : Nat) (hk : η[k]? = some (row v e sz len xs)) (hbk : (blk b e news).holds w) (hn : news.length = m * sz) (h1 : ∀ u ∈ news, u.oneCell' = true) (hm : len + m ≤ 9223372036854775807) (hb : (len + m) * bytes ≤ 140737488355328) :
    Yr P σ w ⟨d, .call { callee := .builtin .append, args := #[x, y], argTypes := #[t, t] }, ty, pos, af, gd⟩ (fun u w' => St w0 M (η.set k (row u e sz (len + m) (xs ++ news))) w' ∧ (u = .slice none 0 0 ↔ v = .slice none 0 0 ∧ m = 0)) := fun ρ hρ => by
  obtain ⟨i, hi, rfl, rfl, hzz⟩ := he.ex
  have hown : w.ownsRow 0 e i.size v len xs := hS.get k hk
  have hnews : ∀ q u, news[q]? = some u → w.cell? ((⟨b, 0, none⟩ : Addr).add q) = some u := fun q u hq => by
    rw [add_plain, Nat.zero_add]; exact blk_cell hbk hq
  have key : ∃ v' w', (Builtin.append_ #[t, t] ty #[v, .slice (some ⟨b, 0, none⟩) m c]).run P w = .ok v' w' ∧ w'.ownsRow 0 e i.size v' (len + m) (xs ++ news) ∧ w.grownBy w' v.ownBlock ∧
      (v' = .slice none 0 0 ↔ v = .slice none 0 0 ∧ m = 0) ∧ ∀ q, v'.ownBlock = some q → v.ownBlock = some q ∨ w.heap.size ≤ q := by
    rcases hown.2 with ⟨rfl, rfl⟩ | ⟨g, cap, cur, rfl, hbg, hg, hnc, hcm, hcs, htake⟩
    · have hown' : w.ownsRow w.heap.size e i.size (.slice none 0 0) 0 xs := ⟨hown.1, .inl ⟨rfl, rfl⟩⟩
      obtain ⟨v', w', hr, h2, h3, h4⟩ := run_append_own (P := P) w w.heap.size t ty e i z i.size i.bytes ht hi hzz rfl rfl hz hpos _ 0 xs hown' ⟨b, 0, none⟩ m c news hn hnews h1 hm hb (Nat.le_refl _)
      refine ⟨v', w', hr, ⟨h2.1, ?_⟩, h3, h4, fun q hq => .inr (h2.lt q hq).1⟩
      rcases h2.2 with h | ⟨g, cap, cur, a1, a2, a3⟩
      · exact .inl h
      · exact .inr ⟨g, cap, cur, a1, Nat.zero_le _, a3⟩
    · by_cases hroom : len + m ≤ cap
      · have hfit : len * i.size + news.length ≤ cur.size := by rw [hn, hcs, ← Nat.add_mul]; exact Nat.mul_le_mul_right _ hroom
        have hr := run_append_room (P := P) w t ty e i ht hi g len cap cur hg ⟨b, 0, none⟩ m c news hn hnews h1 hroom hfit
        obtain ⟨v', w', hr', h2, h3, h4⟩ := run_append_own (P := P) w 0 t ty e i z i.size i.bytes ht hi hzz rfl rfl hz hpos _ len xs hown ⟨b, 0, none⟩ m c news hn hnews h1 hm hb (Nat.zero_le _)
        rw [hr] at hr'
        cases hr'
        exact ⟨_, _, hr, h2, h3, h4, fun q hq => .inl hq⟩
      · have holds : ∀ j u, xs[j]? = some u → w.cell? ((⟨g, 0, none⟩ : Addr).add j) = some u := hown.cells (g := g) rfl
        have hr := run_append_grow (P := P) w t ty e i z ht hi hzz ⟨g, 0, none⟩ len cap xs hown.1 holds ⟨b, 0, none⟩ m c news hn hnews (by omega) (by omega) (growslice_fits (by omega) hb)
        obtain ⟨v', w', hr', h2, h3, h4⟩ := run_append_own (P := P) w 0 t ty e i z i.size i.bytes ht hi hzz rfl rfl hz hpos _ len xs hown ⟨b, 0, none⟩ m c news hn hnews h1 hm hb (Nat.zero_le _)
        rw [hr] at hr'
        cases hr'
        exact ⟨_, _, hr, h2, h3, h4, fun q hq => by simp [Value.ownBlock] at hq; exact .inr (by omega)⟩
  obtain ⟨v', w', hr, h2, h3, h4, h5⟩ := key
  refine ⟨v', w', ?_, ?_, h4⟩
  · simp only [execOp, resolve, invoke, builtin, Sem.run_bind, Sem.run_pure, Result.andThen_ok, List.map_toArray, List.map_cons, List.map_nil, hρ x _ hx, hρ y _ hy, hr]
  · exact hS.upd k hk ⟨h3.os, h3.tape, h3.output, h3.size, fun c hc hne => h3.block c hc (fun e => hne e.symm)⟩ (r' := row v' e i.size (len + m) (xs ++ news)) h2 (fun c hc => h5 c hc)

/-- A slice that is no nil: where it lies. -/
theorem row_form {v : Value} {e : TypeId} {sz len : Nat} {xs : List Value} (h : (row v e sz len xs).holds w) (hne : v ≠ .slice none 0 0 ∨ 0 < len) : ∃ b c, v = .slice (some ⟨b, 0, none⟩) len c ∧ len ≤ c := by
  rcases h.2 with ⟨rfl, rfl⟩ | ⟨g, cap, cur, rfl, _, _, hc, _⟩
  · rcases hne with h | h
    · exact absurd rfl h
    · omega
  · exact ⟨g, cap, rfl, hc⟩
theorem row_cell {b c : Nat} {e : TypeId} {sz len : Nat} {xs : List Value} (h : (row (.slice (some ⟨b, 0, none⟩) len c) e sz len xs).holds w) {j : Nat} {u : Value} (hj : xs[j]? = some u) : w.cell? ⟨b, j, none⟩ = some u := by
  have := World.ownsRow.cells h (g := b) rfl j u hj
  rwa [add_plain, Nat.zero_add] at this

/-! ### Struct literals -/
def placesOf (P : Program) : List Field → Option (List (Nat × Nat))
  | [] => some []
  | f :: r => match P.info? f.type, placesOf P r with
    | some i, some l => some ((f.offset, i.size) :: l)
    | _, _ => none
theorem run_places : ∀ {fs : List Field} {pl : List (Nat × Nat)} (_ : placesOf P fs = some pl), (fs.mapM (m := Sem) fun f => do pure (f.offset, ← sizeOf f.type)).run P w = .ok pl w
  | [], pl, h => by simp [placesOf] at h; subst h; simp
  | f :: r, pl, h => by
    unfold placesOf at h
    split at h
    · rename_i i l hi hl
      cases h
      have ih := run_places hl
      simp only [List.mapM_cons, Sem.run_bind, sizeOf, typeInfo, run_program, Result.andThen_ok, hi, Sem.run_pure]
      simp only [sizeOf, typeInfo] at ih
      rw [ih]; simp
    · cases h
structure StructT (P : Program) (t : TypeId) (pl : List (Nat × Nat)) (z : List Value) : Prop where
  ex : ∃ fs : List Field, P.underlying t = some (.struct fs.toArray) ∧ placesOf P fs = some pl
  zero : ∃ i, P.info? t = some i ∧ i.zero = some (.agg z.toArray)
theorem yd_build {t : TypeId} {parts : List (Nat × Operand)} {pl : List (Nat × Nat)} {z : List Value} {vs : List (Nat × Value)} {cells : Array Value} (ht : StructT P t pl z) (hp : (parts.map fun p => (ev σ p.2).map fun v => (p.1, v)) = vs.map some)
    (hf : Instr.fill (fun i => pl.toArray[i]?) z.toArray vs = some cells) : Yd P σ w ⟨d, .build t parts.toArray, ty, pos, af, gd⟩ (.agg cells) w := fun ρ hρ => by
  obtain ⟨fs, hu, hpl⟩ := ht.ex
  obtain ⟨i, hi, hz⟩ := ht.zero
  have e : (parts.map fun p => (p.1, ρ p.2)) = vs := by
    clear hf
    induction parts generalizing vs with
    | nil => cases vs with
      | nil => rfl
      | cons a b => simp at hp
    | cons p r ih => cases vs with
      | nil => simp at hp
      | cons a b =>
        simp only [List.map_cons, List.cons.injEq] at hp ⊢
        refine ⟨?_, ih hp.2⟩
        cases hev : ev σ p.2 with
        | none => rw [hev] at hp; simp at hp
        | some v => rw [hev] at hp; simp at hp; rw [hρ _ _ hev, ← hp.1]
  have hr := run_places (P := P) (w := w) hpl
  have e2 : (parts.toArray.map fun p => (p.1, ρ p.2)) = vs.toArray := by rw [← e]; simp
  have hm : (fs.toArray.mapM (m := Sem) fun f => do pure (f.offset, ← sizeOf f.type)).run P w = .ok pl.toArray w := by
    rw [List.mapM_toArray]
    simp only [Sem.run_map, hr, Result.andThen_ok]
  simp only [execOp, Instr.build, zeroValue, typeInfo, Sem.run_bind, run_program, Result.andThen_ok, hi, Sem.run_pure, hz, Value.cells, run_underlying hu, hm, e2, hf]

/-- The address of a field that takes no cell: some address of that block. -/
structure Field0T (P : Program) (s : TypeId) (f k by_ q : Nat) : Prop where
  ex : ∃ fs fld i, P.underlying s = some (.struct fs) ∧ fs[f]? = some fld ∧ fld.offset = k ∧ fld.byteOffset = by_ ∧ P.info? fld.type = some i ∧ i.size = 0
  cells : P.cellsOf s = k
  bytes : P.bytesOf s = q
  pos : 0 < k
  b0 : byteOfCell P P.depth s 0 = some 0
theorem yd_field0 {s : TypeId} {x : Operand} {f k b by_ q : Nat} {cs : Array Value} {fr : Nat × Nat} (hx : ev σ x = some (.pointer (some ⟨b, 0, none⟩))) (hf : Field0T P s f k by_ q) (hb : w.heap[b]? = some (.cells cs s fr)) : Yd P σ w ⟨d, .fieldAddr s x f, ty, pos, af, gd⟩ (.pointer (some (if q = by_ then ⟨b, k, none⟩ else ⟨b, k, some by_⟩))) w := fun ρ hρ => by
  obtain ⟨fs, fld, i, h1, h2, h3, h4, h5, h6⟩ := hf.ex
  have hk : k ≠ 0 := by have := hf.pos; omega
  have hkk : k % k = 0 := Nat.mod_self k
  have hkd : k / k = 1 := Nat.div_self hf.pos
  simp [execOp, Instr.fieldAt, hρ x _ hx, run_underlying h1, h2, Instr.sureAddr, fieldPlace, sizeOf, typeInfo, h5, h6, h3, h4, partAt, byteOf, noView, viewAt, World.shape?, hb, hf.cells, hf.bytes, hf.b0, hk, hkk, hkd]
theorem yd_loadE {t : TypeId} {x : Operand} {a : Addr} (hx : ev σ x = some (.pointer (some a))) (ht : AggT P t 0) : Yd P σ w ⟨d, .load t x, ty, pos, af, gd⟩ (.agg #[]) w := fun ρ hρ => by
  simp [execOp, Instr.loadAt, Instr.sureAddr, hρ x _ hx, loadVar, run_isAgg_agg ht, run_sizeOf ht.sz, loadCells, loadCellsFrom]

theorem VS_store {S : World → Prop} {fuel i : Nat} {listed : Array Bool} {t bt : TypeId} {x y : Operand} {b j : Nat} {v : Value} {vs : List Value} (hi : ops[i]? = some o) (hw : ∀ a, Fr a n ds σ → Region.wanted o (yielded ops a.tmps) = true) (L' : Array Bool) (hL : listed.setIfInBounds i true = L')
    (hop : o.op = .store t x y) (hd : o.dst = none) (hx : ev σ x = some (.pointer (some ⟨b, j, none⟩))) (hy : ev σ y = some v) (ht : OneT P t) (hv : v.oneCell' = true)
    (hS : St w0 M η w) (k : Nat) (hk : η[k]? = some (blk b bt vs)) (hj : j < vs.length)
    (h : ∀ w, St w0 M (η.set k (blk b bt (vs.set j v))) w → VA P ops Q S fuel L' n ds σ w) : VS P ops Q S fuel listed i n ds σ w := by
  obtain ⟨od, oop, oty, opos, oaf, og⟩ := o
  cases hop; cases hd
  exact VS_unit hi hw L' hL rfl (yu_store hx hy ht hv hS k hk hj) (h _ (hS.store k hk j v))
/-! ### A deferred call -/
def dfr (f : FuncId) (vs : List Value) : Deferred := { target := .fn (.func f) #[], args := vs.toArray }
theorem VL_defer {f : FuncId} {l : List Operand} {ats : Array TypeId} {vs : List Value} (hop : o.op = .defer { callee := .value (.func f), args := l.toArray, argTypes := ats }) (hg : o.guard = none) (hd : o.dst = none) (ha : evs σ l = some vs)
    (h : VL P ops Q rest n (dfr f vs :: ds) σ w) : VL P ops Q (o :: rest) n ds σ w := by
  intro a hF
  refine wpList_plain hg fun K hK => ?_
  have e := evs_map hF.agr ha
  have hfn : a.eval (.func f) = .func (.func f) #[] #[] := hF.agr _ _ rfl
  unfold Oper.wp
  have hr : (execOp a.eval o).run P w = .ok (.defer (dfr f vs)) w := by
    simp [execOp, hop, resolve, hfn, Deferred.ofValue, e, dfr]
  rw [hr]
  show K ({ a with defers := dfr f vs :: a.defers }.put o.dst undef) w
  rw [hd]
  exact hK _ _ (h _ ⟨hF.size, by show _ :: a.defers = _; rw [hF.defers], hF.slot⟩)
/-- Deferred calls that return. -/
theorem leaves_one {fn : Func} {tmps : Array Value} {R : Ending → World → Prop} {f : FuncId} {vs : List Value} {ds : List Deferred} {T : World → Prop} (hf : CallT P f)
    (hc : CallsD P f vs.toArray .returning w fun e u w' => u = .returning ∧ Ret (fun _ w' => T w') e w') (h : ∀ w', T w' → Leaves P fn tmps R ds .returning w') : Leaves P fn tmps R (dfr f vs :: ds) .returning w := by
  obtain ⟨fn', h1, h2, h3⟩ := hf.ex
  have n2 : ¬ (fn'.name = "runtime.NumGoroutine") := by simpa using h2
  have n3 : ¬ (fn'.body = none) := by intro h; rw [h] at h3; cases h3
  refine ⟨by simp, .func f, #[], f, vs.toArray, rfl, by simp [dfr, invoke, callFunc, h1, n2, n3], hc.mono ?_⟩
  rintro e u w' ⟨rfl, v, rfl, hT⟩
  exact h w' hT
/-- No panic. -/
def NP (Q : Exit → Act → World → Prop) : Exit → Act → World → Prop
  | .panic _, _, _ => False
  | e, a, w => Q e a w
theorem V_enterD {f : FuncId} {fn : Func} {c : Code} {args : List Value} {R : Value → World → Prop} {N : Nat} (hf : P.funcs[f]? = some fn) (hb : fn.body = some c) (hN : fn.ntmps = N) (hle : Nat.ble args.length N = true)
    (h : VC P c (NP (bodyPostD P fn (Ret R))) N [] ((args.zipIdx 0).map fun p => (p.2, p.1)) w) : Calls P f args.toArray w (Ret R) :=
  calls_of_wp_defers hf hb (wp_mono (h _ (enter_fr hN hle)) (fun e a w hq => by cases e <;> first | exact hq | exact hq.elim))
theorem V_enterC {f : FuncId} {fn : Func} {c : Code} {args : List Value} {R : Value → World → Prop} {N : Nat} {u : FrameMode} (hf : P.funcs[f]? = some fn) (hb : fn.body = some c) (hN : fn.ntmps = N) (hle : Nat.ble args.length N = true)
    (h : VC P c (bodyPost P fn (Ret R)) N [] ((args.zipIdx 0).map fun p => (p.2, p.1)) w) : CallsD P f args.toArray u w fun e u' w' => u' = u ∧ Ret R e w' :=
  callsD_of_wp hf hb (h _ (enter_fr hN hle))
theorem VE_ret1D {fn : Func} {R : Value → World → Prop} {t : Tmp} {v : Value} (_hr : fn.results = #[.tmp t]) (hv : lk σ t = some v) (h : ∀ tmps : Array Value, tmps[t]? = some v → Leaves P fn tmps (Ret R) ds .returning w) : VE (NP (bodyPostD P fn (Ret R))) .ret n ds σ w := by
  intro a ha
  show Leaves P fn a.tmps (Ret R) a.defers .returning w
  rw [ha.defers]
  exact h _ (ha.slot t v hv)
theorem leaves_nil1 {fn : Func} {tmps : Array Value} {R : Value → World → Prop} {t : Tmp} {v : Value} (hr : fn.results = #[.tmp t]) (hv : tmps[t]? = some v) (h : R v w) : Leaves P fn tmps (Ret R) [] .returning w :=
  ⟨v, by rw [results_tmp hr]; simp [Array.getD_eq_getD_getElem?, hv], v, rfl, h⟩
end
end Go.V
