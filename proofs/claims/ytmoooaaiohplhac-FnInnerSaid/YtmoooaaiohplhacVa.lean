/- Slots of a frame as a list, and the steps of a region over them. -/
import Derived.Calls
import Derived.Tactics
import Derived.Defers
import Derived.Below
import Derived.OwnWalk
import Derived.KernelRfl
namespace Go.V
open Go

/-! ### Slots -/
def lk : List (Nat × Value) → Nat → Option Value
  | [], _ => none
  | (d, v) :: r, k => cond (Nat.beq d k) (some v) (lk r k)

structure Fr (a : Act) (n : Nat) (ds : List Deferred) (σ : List (Nat × Value)) : Prop where
  size : a.tmps.size = n
  defers : a.defers = ds
  slot : ∀ k v, lk σ k = some v → a.tmps[k]? = some v

def ev (σ : List (Nat × Value)) : Operand → Option Value
  | .tmp t => lk σ t
  | .const v => some v
  | .global g => some (.pointer (some ⟨g, 0, none⟩))
  | .func f => some (.func (.func f) #[] #[])

/-- The operands that σ knows evaluate as σ says. -/
def Agr (ρ : Operand → Value) (σ : List (Nat × Value)) : Prop := ∀ x v, ev σ x = some v → ρ x = v

theorem Fr.agr {a : Act} {n : Nat} {ds : List Deferred} {σ : List (Nat × Value)} (h : Fr a n ds σ) : Agr a.eval σ := by
  intro x v hx
  cases x with
  | tmp t => simp only [Act.eval, Array.getD_eq_getD_getElem?, h.slot t v hx, Option.getD_some]
  | const c => simpa [ev, Act.eval] using hx
  | «global» g => simpa [ev, Act.eval] using hx
  | func f => simpa [ev, Act.eval] using hx

theorem Fr.put {a : Act} {n : Nat} {ds : List Deferred} {σ : List (Nat × Value)} (h : Fr a n ds σ) {d : Nat} (hd : Nat.blt d n = true) (v : Value) :
    Fr (a.put (some d) v) n ds ((d, v) :: σ) := by
  have hd' : d < n := Nat.blt_eq.mp hd
  refine ⟨by simp [Act.put, h.size], h.defers, ?_⟩
  intro k u hk
  simp only [lk] at hk
  show (a.tmps.setIfInBounds d v)[k]? = some u
  by_cases e : d = k
  · subst e
    have : Nat.beq d d = true := Nat.beq_refl d
    rw [this] at hk
    simp only [cond_true, Option.some.injEq] at hk
    subst hk
    rw [Array.getElem?_setIfInBounds_self_of_lt (by rw [h.size]; exact hd')]
  · have : Nat.beq d k = false := by
      cases hb : Nat.beq d k with
      | false => rfl
      | true => exact absurd (Nat.eq_of_beq_eq_true hb) e
    rw [this] at hk
    rw [Array.getElem?_setIfInBounds_ne e]
    exact h.slot k u hk

theorem Fr.puts {a : Act} {n : Nat} {ds : List Deferred} {σ : List (Nat × Value)} (h : Fr a n ds σ) (o : Option Nat) (v : Value)
    (hd : o = none ∨ ∃ d, o = some d ∧ Nat.blt d n = true) : Fr (a.put o v) n ds ((o.map fun d => [(d, v)]).getD [] ++ σ) := by
  rcases hd with rfl | ⟨d, rfl, hd⟩
  · exact h
  · exact h.put hd v

/-- Every slot of τ is known in σ. -/
def Sub (σ : List (Nat × Value)) : List (Nat × Value) → Prop
  | [] => True
  | (d, v) :: r => lk σ d = some v ∧ Sub σ r

theorem Sub.lk {σ : List (Nat × Value)} : ∀ {τ : List (Nat × Value)}, Sub σ τ → ∀ k v, V.lk τ k = some v → V.lk σ k = some v
  | [], _, k, v, h => by simp [V.lk] at h
  | (d, u) :: r, hs, k, v, h => by
    obtain ⟨h1, h2⟩ := hs
    simp only [V.lk] at h
    cases hb : Nat.beq d k with
    | true =>
      rw [hb] at h
      simp only [cond_true, Option.some.injEq] at h
      subst h
      rw [← Nat.eq_of_beq_eq_true hb]; exact h1
    | false =>
      rw [hb] at h
      exact Sub.lk h2 k v h

theorem Fr.sub {a : Act} {n : Nat} {ds : List Deferred} {σ τ : List (Nat × Value)} (h : Fr a n ds σ) (hs : Sub σ τ) : Fr a n ds τ :=
  ⟨h.size, h.defers, fun k v hk => h.slot k v (hs.lk k v hk)⟩

/-! ### Judgements -/
/-- A list of operations, over every frame that holds σ. -/
def VL (P : Program) (ops : Array Oper) (Q : Exit → Act → World → Prop) (l : List Oper) (n : Nat) (ds : List Deferred) (σ : List (Nat × Value)) (w : World) : Prop :=
  ∀ a, Fr a n ds σ → wpList P ops Q l a w

/-- A piece of code, over every frame that holds σ. -/
def VC (P : Program) (c : Code) (Q : Exit → Act → World → Prop) (n : Nat) (ds : List Deferred) (σ : List (Nat × Value)) (w : World) : Prop :=
  ∀ a, Fr a n ds σ → c.wp P Q a w

/-- What stands at an exit. -/
def VE (Q : Exit → Act → World → Prop) (e : Exit) (n : Nat) (ds : List Deferred) (σ : List (Nat × Value)) (w : World) : Prop :=
  ∀ a, Fr a n ds σ → Q e a w

section
variable {P : Program} {ops : Array Oper} {Q : Exit → Act → World → Prop} {l rest : List Oper} {n : Nat} {ds : List Deferred} {σ τ : List (Nat × Value)} {w w' : World} {o : Oper}

theorem VL.sub (hs : Sub σ τ) (h : VL P ops Q l n ds τ w) : VL P ops Q l n ds σ w := fun a ha => h a (ha.sub hs)
theorem VC.sub {c : Code} (hs : Sub σ τ) (h : VC P c Q n ds τ w) : VC P c Q n ds σ w := fun a ha => h a (ha.sub hs)

theorem VL_nil (h : VE Q .normal n ds σ w) : VL P ops Q [] n ds σ w := fun a ha => h a ha

theorem VC_seq {x y : Code} (h : VC P x (Exit.then (fun a w => y.wp P Q a w) Q) n ds σ w) : VC P (.seq x y) Q n ds σ w := fun a ha => wp_seq (h a ha)
theorem VE_then {y : Code} (h : VC P y Q n ds σ w) : VE (Exit.then (fun a w => y.wp P Q a w) Q) .normal n ds σ w := fun a ha => h a ha
theorem VC_region {id : Nat} {l : List Oper} (h : VL P l.toArray Q l n ds σ w) : VC P (.region id l.toArray false) Q n ds σ w := fun a ha => wp_region_lit (h a ha)
theorem VC_skip (h : VE Q .normal n ds σ w) : VC P .skip Q n ds σ w := fun a ha => wp_skip (h a ha)
theorem VC_exit {id : Nat} (h : VE Q (.exit id) n ds σ w) : VC P (.exit id) Q n ds σ w := fun a ha => wp_exit (h a ha)
theorem VC_ret (h : VE Q .ret n ds σ w) : VC P .ret Q n ds σ w := fun a ha => wp_ret (h a ha)
theorem VC_block {id : Nat} {c : Code} (h : VC P c (Exit.inBlock id Q) n ds σ w) : VC P (.block id c) Q n ds σ w := fun a ha => wp_block (h a ha)

theorem VE_then_exit {next : Act → World → Prop} {id : Nat} (h : VE Q (.exit id) n ds σ w) : VE (Exit.then next Q) (.exit id) n ds σ w := h
theorem VE_then_ret {next : Act → World → Prop} (h : VE Q .ret n ds σ w) : VE (Exit.then next Q) .ret n ds σ w := h
theorem VE_block_ret {id : Nat} (h : VE Q .ret n ds σ w) : VE (Exit.inBlock id Q) .ret n ds σ w := h
theorem VE_block_normal {id : Nat} (h : VE Q .normal n ds σ w) : VE (Exit.inBlock id Q) .normal n ds σ w := h
theorem VE_block_exit {id : Nat} (h : VE Q .normal n ds σ w) : VE (Exit.inBlock id Q) (.exit id) n ds σ w := fun a ha => by
  show (if id = id then Q .normal a w else Q (.exit id) a w)
  rw [if_pos rfl]; exact h a ha
theorem VE_block_past {id id' : Nat} (hne : Nat.beq id' id = false) (h : VE Q (.exit id') n ds σ w) : VE (Exit.inBlock id Q) (.exit id') n ds σ w := fun a ha => by
  show (if id' = id then Q .normal a w else Q (.exit id') a w)
  rw [if_neg (fun e => by subst e; rw [Nat.beq_refl] at hne; cases hne)]; exact h a ha

theorem VC_cond {c : Operand} {x y : Code} {t : Bool} (hc : ev σ c = some (.bool t)) (ht : t = true → VC P x Q n ds σ w) (hf : t = false → VC P y Q n ds σ w) :
    VC P (.cond c x y) Q n ds σ w := fun a ha =>
  wp_cond_split (ha.agr c _ hc) (fun h => ht h a ha) (fun h => hf h a ha)

/-- A loop: the ghost γ tells what the slots hold and what holds of the world. -/
theorem VC_loop {γ : Type} {c : Code} (σI : γ → List (Nat × Value)) (WI : γ → World → Prop) (μ : γ → Nat) (g : γ) (hs : ∀ a, Fr a n ds σ → Fr a n ds (σI g)) (hw : WI g w)
    (round : ∀ g w, WI g w → VC P c (Exit.then (fun a' w' => ∃ g', Fr a' n ds (σI g') ∧ WI g' w' ∧ μ g' < μ g) Q) n ds (σI g) w) :
    VC P (.loop c) Q n ds σ w := by
  intro a ha b k cs
  have key : ∀ m g a w, μ g = m → Fr a n ds (σI g) → WI g w →
      ∃ e a' w', Q e a' w' ∧ Arrives P (lone (b.at a (.code c :: .inLoop c :: k)) cs w) b k cs e a' w' := by
    intro m
    induction m using Nat.strongRecOn with
    | _ m ih =>
      intro g a w hm hF hI
      obtain ⟨e, a₁, w₁, hq, harr⟩ := round g w hI a hF b (.inLoop c :: k) cs
      cases e with
      | normal =>
        obtain ⟨g', hF', hI', hlt⟩ := hq
        obtain ⟨e₂, a₂, w₂, hq₂, harr₂⟩ := ih (μ g') (hm ▸ hlt) g' a₁ w₁ rfl hF' hI'
        exact ⟨e₂, a₂, w₂, hq₂, .of_steps (Steps.trans harr (.one step_inLoop)) harr₂⟩
      | exit id => exact ⟨_, a₁, w₁, hq, .pass (x := .inLoop c) rfl (fun _ _ => .inl (by simp)) harr⟩
      | goto l => exact ⟨_, a₁, w₁, hq, .pass (x := .inLoop c) rfl (fun _ _ => .inl (by simp)) harr⟩
      | ret => exact ⟨_, a₁, w₁, hq, .pass (x := .inLoop c) rfl (fun _ _ => .inl (by simp)) harr⟩
      | panic ch => exact ⟨_, a₁, w₁, hq, .pass (x := .inLoop c) rfl (fun _ _ => .inl (by simp)) harr⟩
      | outgrown => exact ⟨_, a₁, w₁, hq, .pass (x := .inLoop c) rfl (fun _ _ => .inl (by simp)) harr⟩
  obtain ⟨e, a', w', hq, harr⟩ := key _ g a w rfl (hs a ha) hw
  exact ⟨e, a', w', hq, .of_steps (.one step_loop) harr⟩

/-- The end of a round. -/
theorem VE_round {γ : Type} {σI : γ → List (Nat × Value)} {WI : γ → World → Prop} {μ : γ → Nat} {m : Nat} (g : γ) (hs : Sub σ (σI g)) (hw : WI g w) (hμ : μ g < m) :
    VE (Exit.then (fun a' w' => ∃ g', Fr a' n ds (σI g') ∧ WI g' w' ∧ μ g' < m) Q) .normal n ds σ w :=
  fun _ ha => ⟨g, ha.sub hs, hw, hμ⟩

/-- A cut: what holds behind a piece of code, on its normal way out. -/
theorem VC_cut {γ : Type} {x y : Code} (σJ : γ → List (Nat × Value)) (WJ : γ → World → Prop)
    (h : VC P x (Exit.then (fun a w => ∃ g, Fr a n ds (σJ g) ∧ WJ g w) Q) n ds σ w) (hk : ∀ g w, WJ g w → VC P y Q n ds (σJ g) w) :
    VC P (.seq x y) Q n ds σ w := by
  intro a ha
  refine wp_seq (wp_mono (h a ha) ?_)
  intro e a w hq
  cases e with
  | normal => obtain ⟨g, hF, hW⟩ := hq; exact hk g w hW a hF
  | _ => exact hq

theorem VE_cut {γ : Type} {σJ : γ → List (Nat × Value)} {WJ : γ → World → Prop} (g : γ) (hs : Sub σ (σJ g)) (hw : WJ g w) :
    VE (Exit.then (fun a w => ∃ g, Fr a n ds (σJ g) ∧ WJ g w) Q) .normal n ds σ w := fun _ ha => ⟨g, ha.sub hs, hw⟩

/-! ### One operation -/
/-- The operation yields v and leaves w'. -/
def Yd (P : Program) (σ : List (Nat × Value)) (w : World) (o : Oper) (v : Value) (w' : World) : Prop :=
  ∀ ρ, Agr ρ σ → (execOp ρ o).run P w = .ok (.value v) w'
/-- The operation yields nothing and leaves w'. -/
def Yu (P : Program) (σ : List (Nat × Value)) (w : World) (o : Oper) (w' : World) : Prop :=
  ∀ ρ, Agr ρ σ → (execOp ρ o).run P w = .ok .skip w'
/-- The operation yields something and leaves some world, of which R holds. -/
def Yr (P : Program) (σ : List (Nat × Value)) (w : World) (o : Oper) (R : Value → World → Prop) : Prop :=
  ∀ ρ, Agr ρ σ → ∃ v w', (execOp ρ o).run P w = .ok (.value v) w' ∧ R v w'

theorem VL_rel {d : Nat} (hg : o.guard = none) (hd : o.dst = some d) (hn : Nat.blt d n = true) {R : Value → World → Prop} (hy : Yr P σ w o R)
    (h : ∀ v w', R v w' → VL P ops Q rest n ds ((d, v) :: σ) w') : VL P ops Q (o :: rest) n ds σ w := by
  intro a ha
  refine wpList_plain hg fun K hK => ?_
  obtain ⟨v, w', hr, hR⟩ := hy a.eval ha.agr
  unfold Oper.wp
  rw [hr]
  show K (a.put o.dst v) w'
  rw [hd]
  exact hK _ _ (h v w' hR _ (ha.put hn v))

theorem VL_val {d : Nat} {v : Value} (hg : o.guard = none) (hd : o.dst = some d) (hn : Nat.blt d n = true) (hy : Yd P σ w o v w')
    (h : VL P ops Q rest n ds ((d, v) :: σ) w') : VL P ops Q (o :: rest) n ds σ w := by
  refine VL_rel hg hd hn (R := fun u w1 => u = v ∧ w1 = w') (fun ρ hρ => ⟨v, w', hy ρ hρ, rfl, rfl⟩) ?_
  rintro _ _ ⟨rfl, rfl⟩
  exact h

theorem VL_unit (hg : o.guard = none) (hd : o.dst = none) (hy : Yu P σ w o w') (h : VL P ops Q rest n ds σ w') : VL P ops Q (o :: rest) n ds σ w := by
  intro a ha
  refine wpList_plain hg fun K hK => ?_
  unfold Oper.wp
  rw [hy a.eval ha.agr]
  show K (a.put o.dst undef) w'
  rw [hd]
  exact hK _ _ (h _ ha)

/-- A guarded operation: the guard says yes. -/
theorem VL_yes {j d : Nat} {want : Bool} {oj : Oper} (hg : o.guard = some (j, want)) (hj : ops[j]? = some oj) (hdj : oj.dst = some d) (hb : lk σ d = some (.bool want))
    (h : VL P ops Q ({ o with guard := none } :: rest) n ds σ w) : VL P ops Q (o :: rest) n ds σ w := by
  intro a ha
  have hw : Region.wanted o (yielded ops a.tmps) = true := by
    simp [Region.wanted, hg, yielded, hj, hdj, ha.slot d _ hb]
  have h' := h a ha
  unfold wpList at h' ⊢
  rw [if_pos hw]
  rw [if_pos (by simp [Region.wanted])] at h'
  exact h'

/-- A guarded operation: the guard says no. -/
theorem VL_no {j d k : Nat} {want b : Bool} {oj : Oper} (hg : o.guard = some (j, want)) (hj : ops[j]? = some oj) (hdj : oj.dst = some d) (hb : lk σ d = some (.bool b)) (hne : (b == want) = false)
    (hd : o.dst = some k) (hn : Nat.blt k n = true) (h : VL P ops Q rest n ds ((k, undef) :: σ) w) : VL P ops Q (o :: rest) n ds σ w := by
  intro a ha
  have hw : Region.wanted o (yielded ops a.tmps) = false := by
    simp only [Region.wanted, hg, yielded, hj, hdj, ha.slot d _ hb, Option.bind_some]
    show (some b == some want) = false
    simpa using hne
  refine wpList_skip hw ?_
  rw [hd]
  exact h _ (ha.put hn undef)

/-- Part on a Bool that a slot holds: the slot then holds it written out. -/
theorem VL_split (d : Nat) {b : Bool} (hb : lk σ d = some (.bool b)) (ht : b = true → VL P ops Q l n ds ((d, .bool true) :: σ) w) (hf : b = false → VL P ops Q l n ds ((d, .bool false) :: σ) w) :
    VL P ops Q l n ds σ w := by
  intro a ha
  cases hc : b with
  | true => exact ht hc a (by
      refine ⟨ha.size, ha.defers, ?_⟩
      intro k v hk
      simp only [lk] at hk
      cases hbk : Nat.beq d k with
      | true =>
        rw [hbk] at hk
        simp only [cond_true, Option.some.injEq] at hk
        subst hk
        rw [← Nat.eq_of_beq_eq_true hbk, ← hc]
        exact ha.slot d _ hb
      | false =>
        rw [hbk] at hk
        exact ha.slot k v hk)
  | false => exact hf hc a (by
      refine ⟨ha.size, ha.defers, ?_⟩
      intro k v hk
      simp only [lk] at hk
      cases hbk : Nat.beq d k with
      | true =>
        rw [hbk] at hk
        simp only [cond_true, Option.some.injEq] at hk
        subst hk
        rw [← Nat.eq_of_beq_eq_true hbk, ← hc]
        exact ha.slot d _ hb
      | false =>
        rw [hbk] at hk
        exact ha.slot k v hk)
end
end Go.V
