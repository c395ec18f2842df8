/- Function literals and their calls; four results; a result in a cell beside one in a slot. -/
import Derived.Test.YtmoooaaiohplhacVl
import Derived.Laws.ResultCell
namespace Go.V
open Go
section
variable {P : Program} {σ : List (Nat × Value)} {w : World} {ops : Array Oper} {Q : Exit → Act → World → Prop} {rest : List Oper} {n : Nat} {ds : List Deferred} {o : Oper} {d : Option Tmp} {ty : TypeId} {pos : String} {af : Array Edge} {gd : Option (Nat × Bool)}
theorem yd_mkfunc {f : FuncId} {x : Operand} {v : Value} (hx : ev σ x = some v) : Yd P σ w ⟨d, .makeFunc (.func f) #[] #[x], ty, pos, af, gd⟩ (.func (.func f) #[] #[v]) w := fun ρ hρ => by
  simp [execOp, Instr.makeFunc, hρ x _ hx]
theorem run_callC {f : FuncId} {x : Operand} {l : List Operand} {ats : Array TypeId} {vs cs : List Value} {ρ : Operand → Value} (hop : o.op = .call { callee := .value x, args := l.toArray, argTypes := ats }) (hx : ev σ x = some (.func (.func f) #[] cs.toArray)) (hf : CallT P f) (ha : evs σ l = some vs) (hρ : Agr ρ σ) :
    (execOp ρ o).run P w = .ok (.enter f (vs ++ cs).toArray) w := by
  obtain ⟨fn, h1, h2, h3⟩ := hf.ex
  have e := evs_map hρ ha
  have hfn := hρ x _ hx
  have n2 : ¬ (fn.name = "runtime.NumGoroutine") := by simpa using h2
  have n3 : ¬ (fn.body = none) := by intro h; rw [h] at h3; cases h3
  simp [execOp, hop, resolve, hfn, Deferred.ofValue, invoke, callFunc, h1, n2, n3, e]
theorem VS_callC {S : World → Prop} {fuel i d : Nat} {listed : Array Bool} {f : FuncId} {x : Operand} {l : List Operand} {ats : Array TypeId} {vs cs : List Value} {R : Value → World → Prop} (hi : ops[i]? = some o) (hw : ∀ a, Fr a n ds σ → Region.wanted o (yielded ops a.tmps) = true) (L' : Array Bool) (hL : listed.setIfInBounds i true = L')
    (hop : o.op = .call { callee := .value x, args := l.toArray, argTypes := ats }) (hd : o.dst = some d) (hn : Nat.blt d n = true) (hx : ev σ x = some (.func (.func f) #[] cs.toArray)) (hf : CallT P f) (ha : evs σ l = some vs) (hc : Calls P f (vs ++ cs).toArray w (Ret R))
    (h : ∀ v w', R v w' → VA P ops Q S fuel L' n ds ((d, v) :: σ) w') : VS P ops Q S fuel listed i n ds σ w := by
  refine VS_of hi hw L' hL fun a hF => ?_
  unfold Oper.wp
  rw [run_callC hop hx hf ha hF.agr]
  refine hc.mono ?_
  rintro e w' ⟨v, rfl, hR⟩
  show S w' ∧ wpAnyH P .any ops Q S fuel L' (a.put o.dst v) w'
  rw [hd]
  exact ⟨(h v w' hR).1, (h v w' hR).2 _ (hF.put hn v)⟩
theorem results_tmp4 {fn : Func} {t u v x : Tmp} (h : fn.results = #[.tmp t, .tmp u, .tmp v, .tmp x]) (tmps : Array Value) (P : Program) (w : World) :
    (results fn tmps).run P w = .ok (.tuple #[tmps.getD t undef, tmps.getD u undef, tmps.getD v undef, tmps.getD x undef]) w := by
  simp [results, h]
theorem VE_ret4 {fn : Func} {R : Value → World → Prop} {t1 t2 t3 t4 : Tmp} {v1 v2 v3 v4 : Value} (hr : fn.results = #[.tmp t1, .tmp t2, .tmp t3, .tmp t4]) (h1 : lk σ t1 = some v1) (h2 : lk σ t2 = some v2) (h3 : lk σ t3 = some v3) (h4 : lk σ t4 = some v4) (h : R (.tuple #[v1, v2, v3, v4]) w) : VE (bodyPost P fn (Ret R)) .ret n [] σ w := by
  intro a ha
  refine bodyPost_ret (v := .tuple #[v1, v2, v3, v4]) ?_ ha.defers ⟨_, rfl, h⟩
  rw [results_tmp4 hr]
  simp [Array.getD_eq_getD_getElem?, ha.slot t1 v1 h1, ha.slot t2 v2 h2, ha.slot t3 v3 h3, ha.slot t4 v4 h4]
theorem VE_retCT {fn : Func} {R : Value → World → Prop} {p u : Tmp} {ty bt : TypeId} {b : Nat} {cs : List Value} {v : Value} (hr : fn.results = #[.cell p ty, .tmp u]) (hp : lk σ p = some (.pointer (some ⟨b, 0, none⟩))) (hu : lk σ u = some v) (ht : AggT P ty cs.length) (hb : (blk b bt cs).holds w) (h : R (.tuple #[.agg cs.toArray, v]) w) : VE (bodyPost P fn (Ret R)) .ret n [] σ w := by
  intro a ha
  refine bodyPost_ret (v := .tuple #[.agg cs.toArray, v]) ?_ ha.defers ⟨_, rfl, h⟩
  obtain ⟨d, hd, hd'⟩ := ht.ex
  have e1 : a.tmps.getD p undef = .pointer (some ⟨b, 0, none⟩) := by simp [Array.getD_eq_getD_getElem?, ha.slot p _ hp]
  have e2 : a.tmps.getD u undef = v := by simp [Array.getD_eq_getD_getElem?, ha.slot u _ hu]
  have e3 := run_loadVar_row (P := P) w b bt ty cs.toArray (0, 0) d hb hd (by cases d <;> first | rfl | cases hd') (by rw [ht.sz]; simp)
  rw [results_cell_tmp hr, e1, e2]
  simp [asAddr, e3]
end
end Go.V
