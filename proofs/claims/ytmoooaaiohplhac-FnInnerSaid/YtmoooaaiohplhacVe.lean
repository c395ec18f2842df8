/- Regions that draw their order: what yields the same in every world that meets S is taken first; what acts stands alone. -/
import Derived.Test.YtmoooaaiohplhacVd
import Derived.OrdersHeld
namespace Go.V
open Go

def VA (P : Program) (ops : Array Oper) (Q : Exit → Act → World → Prop) (S : World → Prop) (fuel : Nat) (listed : Array Bool) (n : Nat) (ds : List Deferred) (σ : List (Nat × Value)) (w : World) : Prop :=
  S w ∧ ∀ a, Fr a n ds σ → wpAnyH P .any ops Q S fuel listed a w

theorem wpAnyH_weaken {P : Program} {md : Region.Mode} {ops : Array Oper} {Q : Exit → Act → World → Prop} {S S' : World → Prop} (hSS : ∀ w, S' w → S w) : ∀ (fuel : Nat) (listed : Array Bool) (a : Act) (w : World), wpAnyH P md ops Q S' fuel listed a w → wpAnyH P md ops Q S fuel listed a w
  | 0, _, _, _, h => h
  | fuel + 1, _, _, _, h => ⟨h.1, fun i hi => wpOp_mono (fun a' w' h' => ⟨hSS w' h'.1, wpAnyH_weaken hSS fuel _ a' w' h'.2⟩) (h.2 i hi)⟩

section
variable {P : Program} {ops : Array Oper} {Q : Exit → Act → World → Prop} {S S' : World → Prop} {fuel n : Nat} {listed : Array Bool} {ds : List Deferred} {σ : List (Nat × Value)} {w w' w0 : World} {M : Nat → Prop} {η : List Res} {o : Oper}

theorem VA.weaken (h : VA P ops Q S' fuel listed n ds σ w) (hSS : ∀ w, S' w → S w) : VA P ops Q S fuel listed n ds σ w :=
  ⟨hSS w h.1, fun a ha => wpAnyH_weaken hSS _ _ _ _ (h.2 a ha)⟩

/-- The beginning. -/
theorem VC_draw {id : Nat} {l : List Oper} (hm : P.follows .mixedOrders = true) (hS : St w0 M η w)
    (h : ∀ w, St w0 M η w → VA P l.toArray Q (fun w => St w0 M η w) l.length (Array.replicate l.length false) n ds σ w) : VC P (.region id l.toArray true) Q n ds σ w := by
  intro a ha
  have := (h _ (hS.drew (w.drawn + 1))).2 a ha
  exact wp_region_held (S := fun w => St w0 M η w) hm (by simpa using this)

theorem VA_take {i d : Nat} {v : Value} (hi : ops[i]? = some o) (hg : o.guard = none) (hd : o.dst = some d) (hn : Nat.blt d n = true) (hs : Region.noSelect ops = true) (hf : Region.free .any ops listed i = true) (hr : (Region.ready .any ops listed).contains i = true)
    (L' : Array Bool) (hL : listed.setIfInBounds i true = L') (hQ : ∀ v c a w, Q (.panic c) (a.put (some d) v) w → Q (.panic c) a w) (hy : ∀ w, S w → Yd P σ w o v w) (h : VA P ops Q S fuel L' n ds ((d, v) :: σ) w) : VA P ops Q S (fuel + 1) listed n ds σ w := by
  subst hL
  refine ⟨h.1, fun a ha => wpAnyH_take hi hs hf hr (v := v) (by rw [hd]; exact hQ v) (.inl ⟨by simp [Region.wanted, hg], fun w hw => hy w hw a.eval ha.agr⟩) h.1 ?_⟩
  rw [hd]
  exact h.2 _ (ha.put hn v)
theorem VA_takeG {i d j dj : Nat} {v : Value} {want : Bool} {oj : Oper} (hi : ops[i]? = some o) (hg : o.guard = some (j, want)) (hj : ops[j]? = some oj) (hdj : oj.dst = some dj) (hb : lk σ dj = some (.bool want)) (hd : o.dst = some d) (hn : Nat.blt d n = true) (hs : Region.noSelect ops = true) (hf : Region.free .any ops listed i = true) (hr : (Region.ready .any ops listed).contains i = true)
    (L' : Array Bool) (hL : listed.setIfInBounds i true = L') (hQ : ∀ v c a w, Q (.panic c) (a.put (some d) v) w → Q (.panic c) a w) (hy : ∀ w, S w → Yd P σ w o v w) (h : VA P ops Q S fuel L' n ds ((d, v) :: σ) w) : VA P ops Q S (fuel + 1) listed n ds σ w := by
  subst hL
  refine ⟨h.1, fun a ha => wpAnyH_take hi hs hf hr (v := v) (by rw [hd]; exact hQ v) (.inl ⟨by simp [Region.wanted, hg, yielded, hj, hdj, ha.slot dj _ hb], fun w hw => hy w hw a.eval ha.agr⟩) h.1 ?_⟩
  rw [hd]
  exact h.2 _ (ha.put hn v)
theorem VA_no {i d j dj : Nat} {b want : Bool} {oj : Oper} (hi : ops[i]? = some o) (hg : o.guard = some (j, want)) (hj : ops[j]? = some oj) (hdj : oj.dst = some dj) (hb : lk σ dj = some (.bool b)) (hne : (b == want) = false) (hd : o.dst = some d) (hn : Nat.blt d n = true) (hs : Region.noSelect ops = true) (hf : Region.free .any ops listed i = true) (hr : (Region.ready .any ops listed).contains i = true)
    (L' : Array Bool) (hL : listed.setIfInBounds i true = L') (hQ : ∀ v c a w, Q (.panic c) (a.put (some d) v) w → Q (.panic c) a w) (h : VA P ops Q S fuel L' n ds ((d, undef) :: σ) w) : VA P ops Q S (fuel + 1) listed n ds σ w := by
  subst hL
  refine ⟨h.1, fun a ha => wpAnyH_take hi hs hf hr (v := undef) (by rw [hd]; exact hQ undef) (.inr ⟨?_, rfl⟩) h.1 ?_⟩
  · simp only [Region.wanted, hg, yielded, hj, hdj, ha.slot dj _ hb, Option.bind_some]
    show (some b == some want) = false
    simpa using hne
  · rw [hd]
    exact h.2 _ (ha.put hn undef)
theorem VA_noU {i d j dj : Nat} {want : Bool} {oj : Oper} (hi : ops[i]? = some o) (hg : o.guard = some (j, want)) (hj : ops[j]? = some oj) (hdj : oj.dst = some dj) (hb : lk σ dj = some undef) (hd : o.dst = some d) (hn : Nat.blt d n = true) (hs : Region.noSelect ops = true) (hf : Region.free .any ops listed i = true) (hr : (Region.ready .any ops listed).contains i = true)
    (L' : Array Bool) (hL : listed.setIfInBounds i true = L') (hQ : ∀ v c a w, Q (.panic c) (a.put (some d) v) w → Q (.panic c) a w) (h : VA P ops Q S fuel L' n ds ((d, undef) :: σ) w) : VA P ops Q S (fuel + 1) listed n ds σ w := by
  subst hL
  refine ⟨h.1, fun a ha => wpAnyH_take hi hs hf hr (v := undef) (by rw [hd]; exact hQ undef) (.inr ⟨?_, rfl⟩) h.1 ?_⟩
  · simp only [Region.wanted, hg, yielded, hj, hdj, ha.slot dj _ hb, Option.bind_some]
    rfl
  · rw [hd]
    exact h.2 _ (ha.put hn undef)
theorem VL_noU {rest : List Oper} {j d k : Nat} {want : Bool} {oj : Oper} (hg : o.guard = some (j, want)) (hj : ops[j]? = some oj) (hdj : oj.dst = some d) (hb : lk σ d = some undef)
    (hd : o.dst = some k) (hn : Nat.blt k n = true) (h : VL P ops Q rest n ds ((k, undef) :: σ) w) : VL P ops Q (o :: rest) n ds σ w := by
  intro a ha
  have hw : Region.wanted o (yielded ops a.tmps) = false := by
    simp only [Region.wanted, hg, yielded, hj, hdj, ha.slot d _ hb, Option.bind_some]
    rfl
  refine wpList_skip hw ?_
  rw [hd]
  exact h _ (ha.put hn undef)
theorem Fr.boolSlot {a : Act} {d : Nat} {b c : Bool} (ha : Fr a n ds σ) (hb : lk σ d = some (.bool b)) (hc : b = c) : Fr a n ds ((d, .bool c) :: σ) := by
  refine ⟨ha.size, ha.defers, ?_⟩
  intro k v hk
  simp only [lk] at hk
  cases hbk : Nat.beq d k with
  | true =>
    rw [hbk] at hk
    simp only [cond_true, Option.some.injEq] at hk
    subst hk
    rw [← Nat.eq_of_beq_eq_true hbk, ← hc]
    exact ha.slot d _ hb
  | false =>
    rw [hbk] at hk
    exact ha.slot k v hk
theorem VA_split (d : Nat) {b : Bool} (hb : lk σ d = some (.bool b)) (ht : b = true → VA P ops Q S fuel listed n ds ((d, .bool true) :: σ) w) (hf : b = false → VA P ops Q S fuel listed n ds ((d, .bool false) :: σ) w) : VA P ops Q S fuel listed n ds σ w := by
  cases hc : b with
  | true => exact ⟨(ht hc).1, fun a ha => (ht hc).2 a (ha.boolSlot hb hc)⟩
  | false => exact ⟨(hf hc).1, fun a ha => (hf hc).2 a (ha.boolSlot hb hc)⟩
theorem VA_done (hr : Region.ready .any ops listed = []) (hS : S w) (h : VE Q .normal n ds σ w) : VA P ops Q S fuel listed n ds σ w :=
  ⟨hS, fun a ha => wpAnyH_done hr (h a ha) fuel⟩

/-- The beginning, with a condition of one's own. -/
theorem VC_drawS {id : Nat} {l : List Oper} (S : World → Prop) (hm : P.follows .mixedOrders = true) (hS : St w0 M η w)
    (h : ∀ w, St w0 M η w → VA P l.toArray Q S l.length (Array.replicate l.length false) n ds σ w) : VC P (.region id l.toArray true) Q n ds σ w := by
  intro a ha
  have := (h _ (hS.drew (w.drawn + 1))).2 a ha
  exact wp_region_held (S := S) hm (by simpa using this)

/-- One operation that comes up. -/
def VS (P : Program) (ops : Array Oper) (Q : Exit → Act → World → Prop) (S : World → Prop) (fuel : Nat) (listed : Array Bool) (i n : Nat) (ds : List Deferred) (σ : List (Nat × Value)) (w : World) : Prop :=
  ∀ a, Fr a n ds σ → wpOp P ops Q i (fun a' w' => S w' ∧ wpAnyH P .any ops Q S fuel (listed.setIfInBounds i true) a' w') a w
theorem VA_only {i : Nat} (hr : Region.ready .any ops listed = [i]) (hS : S w) (h : VS P ops Q S fuel listed i n ds σ w) : VA P ops Q S (fuel + 1) listed n ds σ w :=
  ⟨hS, fun a ha => wpAnyH_all hr (by simp) fun j hj => by simp at hj; subst hj; exact h a ha⟩
theorem VA_two {i j : Nat} (hr : Region.ready .any ops listed = [i, j]) (hS : S w) (h : VS P ops Q S fuel listed i n ds σ w) (h' : VS P ops Q S fuel listed j n ds σ w) : VA P ops Q S (fuel + 1) listed n ds σ w :=
  ⟨hS, fun a ha => wpAnyH_all hr (by simp) fun k hk => by
    simp at hk
    rcases hk with rfl | rfl
    · exact h a ha
    · exact h' a ha⟩
theorem VA_three {i j k : Nat} (hr : Region.ready .any ops listed = [i, j, k]) (hS : S w) (h : VS P ops Q S fuel listed i n ds σ w) (h' : VS P ops Q S fuel listed j n ds σ w) (h'' : VS P ops Q S fuel listed k n ds σ w) : VA P ops Q S (fuel + 1) listed n ds σ w :=
  ⟨hS, fun a ha => wpAnyH_all hr (by simp) fun q hq => by
    simp at hq
    rcases hq with rfl | rfl | rfl
    · exact h a ha
    · exact h' a ha
    · exact h'' a ha⟩
theorem VS_of {i : Nat} (hi : ops[i]? = some o) (hw : ∀ a, Fr a n ds σ → Region.wanted o (yielded ops a.tmps) = true) (L' : Array Bool) (hL : listed.setIfInBounds i true = L')
    (h : ∀ a, Fr a n ds σ → o.wp P a w (fun a' w' => S w' ∧ wpAnyH P .any ops Q S fuel L' a' w') Q) : VS P ops Q S fuel listed i n ds σ w := by
  subst hL
  intro a ha
  unfold wpOp
  simp only [hi, hw a ha, if_true]
  exact .inl (h a ha)
theorem wanted_none (hg : o.guard = none) : ∀ a, Fr a n ds σ → Region.wanted o (yielded ops a.tmps) = true := fun _ _ => by simp [Region.wanted, hg]
theorem wanted_yes {j dj : Nat} {want : Bool} {oj : Oper} (hg : o.guard = some (j, want)) (hj : ops[j]? = some oj) (hdj : oj.dst = some dj) (hb : lk σ dj = some (.bool want)) : ∀ a, Fr a n ds σ → Region.wanted o (yielded ops a.tmps) = true :=
  fun _ ha => by simp [Region.wanted, hg, yielded, hj, hdj, ha.slot dj _ hb]
theorem VS_call {i d : Nat} {f : FuncId} {l : List Operand} {ats : Array TypeId} {vs : List Value} {R : Value → World → Prop} (hi : ops[i]? = some o) (hw : ∀ a, Fr a n ds σ → Region.wanted o (yielded ops a.tmps) = true) (L' : Array Bool) (hL : listed.setIfInBounds i true = L')
    (hop : o.op = .call { callee := .value (.func f), args := l.toArray, argTypes := ats }) (hd : o.dst = some d) (hn : Nat.blt d n = true) (hf : CallT P f) (ha : evs σ l = some vs) (hc : Calls P f vs.toArray w (Ret R))
    (h : ∀ v w', R v w' → VA P ops Q S fuel L' n ds ((d, v) :: σ) w') : VS P ops Q S fuel listed i n ds σ w := by
  refine VS_of hi hw L' hL fun a hF => ?_
  unfold Oper.wp
  rw [run_call hop hf ha hF.agr]
  refine hc.mono ?_
  rintro e w' ⟨v, rfl, hR⟩
  show S w' ∧ wpAnyH P .any ops Q S fuel L' (a.put o.dst v) w'
  rw [hd]
  exact ⟨(h v w' hR).1, (h v w' hR).2 _ (hF.put hn v)⟩
theorem VS_rel {i d : Nat} {R : Value → World → Prop} (hi : ops[i]? = some o) (hw : ∀ a, Fr a n ds σ → Region.wanted o (yielded ops a.tmps) = true) (L' : Array Bool) (hL : listed.setIfInBounds i true = L')
    (hd : o.dst = some d) (hn : Nat.blt d n = true) (hy : Yr P σ w o R) (h : ∀ v w', R v w' → VA P ops Q S fuel L' n ds ((d, v) :: σ) w') : VS P ops Q S fuel listed i n ds σ w := by
  refine VS_of hi hw L' hL fun a hF => ?_
  obtain ⟨v, w', hr, hR⟩ := hy a.eval hF.agr
  unfold Oper.wp
  rw [hr]
  show S w' ∧ wpAnyH P .any ops Q S fuel L' (a.put o.dst v) w'
  rw [hd]
  exact ⟨(h v w' hR).1, (h v w' hR).2 _ (hF.put hn v)⟩
theorem VS_val {i d : Nat} {v : Value} (hi : ops[i]? = some o) (hw : ∀ a, Fr a n ds σ → Region.wanted o (yielded ops a.tmps) = true) (L' : Array Bool) (hL : listed.setIfInBounds i true = L')
    (hd : o.dst = some d) (hn : Nat.blt d n = true) (hy : Yd P σ w o v w') (h : VA P ops Q S fuel L' n ds ((d, v) :: σ) w') : VS P ops Q S fuel listed i n ds σ w :=
  VS_rel hi hw L' hL hd hn (R := fun u w1 => u = v ∧ w1 = w') (fun ρ hρ => ⟨v, w', hy ρ hρ, rfl, rfl⟩) (by rintro _ _ ⟨rfl, rfl⟩; exact h)
theorem VS_unit {i : Nat} (hi : ops[i]? = some o) (hw : ∀ a, Fr a n ds σ → Region.wanted o (yielded ops a.tmps) = true) (L' : Array Bool) (hL : listed.setIfInBounds i true = L')
    (hd : o.dst = none) (hy : Yu P σ w o w') (h : VA P ops Q S fuel L' n ds σ w') : VS P ops Q S fuel listed i n ds σ w := by
  refine VS_of hi hw L' hL fun a hF => ?_
  unfold Oper.wp
  rw [hy a.eval hF.agr]
  show S w' ∧ wpAnyH P .any ops Q S fuel L' (a.put o.dst undef) w'
  rw [hd]
  exact ⟨h.1, h.2 _ hF⟩
end
end Go.V
