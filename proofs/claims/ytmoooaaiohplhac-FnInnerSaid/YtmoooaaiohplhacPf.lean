/- The depth-first search of Lengauer's and Tarjan's road, step by step. No program here. -/
import Derived.Test.YtmoooaaiohplhacPe
namespace Go.PL

def nuL (vs : List Nat) (x : Nat) : Nat := if x ∈ vs then vs.idxOf x + 1 else 0
section
variable {vs : List Nat} {x y v : Nat}
theorem nuL_pos (h : x ∈ vs) : nuL vs x = vs.idxOf x + 1 := by simp [nuL, h]
theorem nuL_zero (h : x ∉ vs) : nuL vs x = 0 := by simp [nuL, h]
theorem nuL_ne : nuL vs x ≠ 0 ↔ x ∈ vs := by
  by_cases h : x ∈ vs
  · simp [nuL, h]
  · simp [nuL, h]
theorem nuL_le : nuL vs x ≤ vs.length := by
  by_cases h : x ∈ vs
  · rw [nuL_pos h]; exact List.idxOf_lt_length_of_mem h
  · rw [nuL_zero h]; exact Nat.zero_le _
theorem nuL_get (h : x ∈ vs) : vs[nuL vs x - 1]! = x := by
  rw [nuL_pos h, Nat.add_sub_cancel, getElem!_pos vs _ (List.idxOf_lt_length_of_mem h)]; exact List.getElem_idxOf _
theorem nuL_inj (h : nuL vs x = nuL vs y) (hx : nuL vs x ≠ 0) : x = y := by
  have hy : nuL vs y ≠ 0 := by omega
  rw [← nuL_get (nuL_ne.1 hx), h, nuL_get (nuL_ne.1 hy)]
theorem nuL_of (hnd : vs.Nodup) {i : Nat} (hi : i < vs.length) : nuL vs vs[i]! = i + 1 := by
  have hm : vs[i]! ∈ vs := by rw [getElem!_pos vs i hi]; exact List.getElem_mem hi
  have h1 := List.idxOf_lt_length_of_mem hm
  have h2 : vs[vs.idxOf vs[i]!]! = vs[i]! := by rw [getElem!_pos vs _ h1]; exact List.getElem_idxOf h1
  rw [nuL_pos hm]
  congr 1
  have key : ∀ j, j < vs.length → vs[j]! = vs[i]! → j = i := by
    intro j hj e
    rw [getElem!_pos vs j hj, getElem!_pos vs i hi] at e
    exact (List.getElem_inj (h₀ := hj) (h₁ := hi) hnd).1 e
  exact key _ h1 h2
theorem idx_snoc : ∀ {l : List Nat}, v ∉ l → (l ++ [v]).idxOf v = l.length ∧ ∀ x, x ∈ l → (l ++ [v]).idxOf x = l.idxOf x
  | [], _ => by simp
  | a :: l, h => by
    simp only [List.mem_cons, not_or] at h
    obtain ⟨h1, h2⟩ := idx_snoc (l := l) h.2
    refine ⟨?_, fun x hx => ?_⟩
    · rw [List.cons_append, List.idxOf_cons, h1]
      have : (a == v) = false := by simp; exact fun e => h.1 e.symm
      rw [this]; simp
    · rw [List.cons_append, List.idxOf_cons, List.idxOf_cons]
      by_cases e : a = x
      · subst e; simp
      · have hb : (a == x) = false := by simp [e]
        rw [hb, h2 x (by rcases List.mem_cons.1 hx with k | k; exact absurd k.symm e; exact k)]
theorem nuL_snoc (hv : v ∉ vs) : nuL (vs ++ [v]) x = if x = v then vs.length + 1 else nuL vs x := by
  by_cases e : x = v
  · subst e; rw [nuL_pos (by simp), if_pos rfl, (idx_snoc hv).1]
  · rw [if_neg e]
    by_cases hx : x ∈ vs
    · rw [nuL_pos (by simp [hx]), nuL_pos hx, (idx_snoc hv).2 x hx]
    · rw [nuL_zero (by simp [hx, e]), nuL_zero hx]
theorem nuL_snoc_ne (hv : v ∉ vs) (e : x ≠ v) : nuL (vs ++ [v]) x = nuL vs x := by rw [nuL_snoc hv, if_neg e]
theorem nuL_snoc_self (hv : v ∉ vs) : nuL (vs ++ [v]) v = vs.length + 1 := by rw [nuL_snoc hv, if_pos rfl]
end
def pset (pr : Nat → Nat) (w v : Nat) : Nat → Nat := fun x => if x = w then v else pr x
theorem pset_same (pr : Nat → Nat) (w v : Nat) : pset pr w v w = v := by simp [pset]
theorem pset_ne (pr : Nat → Nat) {w x : Nat} (v : Nat) (h : x ≠ w) : pset pr w v x = pr x := by simp [pset, h]

structure DI (G : Graph) (vs : List Nat) (pr : Nat → Nat) (stk : List (Nat × Nat)) (pend : Nat → Nat → Prop) : Prop where
  nd : vs.Nodup
  vlt : ∀ x ∈ vs, x < G.length
  zero : vs[0]? = some 0
  rc : ∀ x ∈ vs, Rc G 0 x
  par : ∀ x, x ≠ 0 → x ∈ vs → Ed G (pr x) x ∧ nuL vs (pr x) < nuL vs x ∧ pr x ∈ vs
  edge : ∀ x y, Ed G x y → x ∈ vs → nuL vs x < nuL vs y → An pr x y
  iv : ∀ a x y, An pr a x → x ∈ vs → nuL vs a ≤ nuL vs y → nuL vs y ≤ nuL vs x → An pr a y
  stk1 : ∀ e ∈ stk, e.2 ∈ vs ∧ Ed G e.2 e.1
  stk2 : stk.Pairwise (fun a b => An pr b.2 a.2)
  top : ∀ e ∈ stk, ∀ c, nuL vs c = vs.length → An pr e.2 c
  succ : ∀ u w, u ∈ vs → Ed G u w → w ∈ vs ∨ (w, u) ∈ stk ∨ pend u w
  lastp : ∀ l1 w p l2, stk = l1 ++ (w, p) :: l2 → (∀ e ∈ l1, e.1 ≠ w) → w ∉ vs → pr w = p

section
variable {G : Graph} {vs : List Nat} {pr : Nat → Nat} {stk rest : List (Nat × Nat)} {pend pend' : Nat → Nat → Prop}
theorem An.vis (hp : ∀ x, x ≠ 0 → x ∈ vs → pr x ∈ vs) {a x : Nat} (h : An pr a x) (hx : x ∈ vs) : a ∈ vs := by
  induction h with
  | refl => exact hx
  | up h0 _ ih => exact ih (hp _ h0 hx)
theorem An.cong {pr' : Nat → Nat} (hp : ∀ x, x ≠ 0 → x ∈ vs → pr x ∈ vs) (he : ∀ x ∈ vs, pr' x = pr x) {a x : Nat} (h : An pr a x) (hx : x ∈ vs) : An pr' a x := by
  induction h with
  | refl => exact .refl
  | up h0 _ ih => exact .up h0 (by rw [he _ hx]; exact ih (hp _ h0 hx))
theorem DI.prm (h : DI G vs pr stk pend) : ∀ x, x ≠ 0 → x ∈ vs → pr x ∈ vs := fun x h0 hx => (h.par x h0 hx).2.2
theorem DI.len (h : DI G vs pr stk pend) : vs.length ≤ G.length := nodup_len _ h.nd h.vlt
theorem DI.pos (h : DI G vs pr stk pend) : 0 < vs.length := by
  have := h.zero
  obtain ⟨h1, _⟩ := List.getElem?_eq_some_iff.1 this
  exact h1
/-- There is nothing to do for what is visited. -/
theorem DI.popv {w p : Nat} (h : DI G vs pr ((w, p) :: rest) pend) (hw : w ∈ vs) : DI G vs pr rest pend := by
  refine ⟨h.nd, h.vlt, h.zero, h.rc, h.par, h.edge, h.iv, fun e he => h.stk1 e (by simp [he]), (List.pairwise_cons.1 h.stk2).2, fun e he => h.top e (by simp [he]), fun u w' hu e => ?_, fun l1 w' p' l2 hs hn hv => ?_⟩
  · rcases h.succ u w' hu e with k | k | k
    · exact .inl k
    · rcases List.mem_cons.1 k with k | k
      · cases k; exact .inl hw
      · exact .inr (.inl k)
    · exact .inr (.inr k)
  · refine h.lastp ((w, p) :: l1) w' p' l2 (by rw [hs]; rfl) (fun e he => ?_) hv
    rcases List.mem_cons.1 he with rfl | he
    · exact fun e => hv (by rw [← e]; exact hw)
    · exact hn e he
theorem DI.weaken (h : DI G vs pr stk pend) (hp : ∀ u w, u ∈ vs → pend u w → w ∈ vs ∨ pend' u w) : DI G vs pr stk pend' := by
  refine ⟨h.nd, h.vlt, h.zero, h.rc, h.par, h.edge, h.iv, h.stk1, h.stk2, h.top, fun u w hu e => ?_, h.lastp⟩
  rcases h.succ u w hu e with k | k | k
  · exact .inl k
  · exact .inr (.inl k)
  · rcases hp u w hu k with k | k
    · exact .inl k
    · exact .inr (.inr k)
/-- The block v gets its number. -/
theorem DI.num {v p : Nat} (hg : Gd G) (h : DI G vs pr ((v, p) :: rest) (fun _ _ => False)) (hv : v ∉ vs) : DI G (vs ++ [v]) pr rest (fun u w => u = v ∧ Ed G v w) := by
  have hprv : pr v = p := h.lastp [] v p rest rfl (by simp) hv
  obtain ⟨hpm, hpe⟩ := h.stk1 (v, p) (by simp)
  have hpm : p ∈ vs := hpm
  have hpe : Ed G p v := hpe
  have hv0 : v ≠ 0 := fun e => hv (by subst e; exact List.mem_of_getElem? h.zero)
  have hvn := nuL_snoc_self hv
  have hne : ∀ {x}, x ∈ vs → x ≠ v := fun hx e => hv (by rw [← e]; exact hx)
  have hon : ∀ {x}, x ∈ vs → nuL (vs ++ [v]) x = nuL vs x := fun hx => nuL_snoc_ne hv (hne hx)
  have hle : ∀ x, nuL vs x ≤ vs.length := fun x => nuL_le
  have hpos := h.pos
  obtain ⟨c, hc⟩ : ∃ c, nuL vs c = vs.length := ⟨vs[vs.length - 1]!, by rw [nuL_of h.nd (by omega)]; omega⟩
  have hcm : c ∈ vs := nuL_ne.1 (by omega)
  have hpc : An pr p c := h.top (v, p) (by simp) c hc
  refine ⟨?_, ?_, ?_, ?_, ?_, ?_, ?_, ?_, ?_, ?_, ?_, ?_⟩
  · rw [List.nodup_append]; exact ⟨h.nd, by simp, fun a ha b hb => by rw [List.mem_singleton.1 hb]; exact hne ha⟩
  · intro x hx
    rcases List.mem_append.1 hx with hx | hx
    · exact h.vlt x hx
    · rw [List.mem_singleton.1 hx]; exact hpe.lt hg
  · rw [List.getElem?_append_left hpos]; exact h.zero
  · intro x hx
    rcases List.mem_append.1 hx with hx | hx
    · exact h.rc x hx
    · rw [List.mem_singleton.1 hx]; exact .step (h.rc p hpm) hpe
  · intro x h0 hx
    rcases List.mem_append.1 hx with hx | hx
    · obtain ⟨a, b, c⟩ := h.par x h0 hx
      exact ⟨a, by rw [hon hx, hon c]; exact b, by simp [c]⟩
    · rw [List.mem_singleton.1 hx, hprv]
      exact ⟨hpe, by rw [hvn, hon hpm]; have := hle p; omega, by simp [hpm]⟩
  · intro x y e hx hlt
    rcases List.mem_append.1 hx with hx1 | hx
    · have hx := hx1
      by_cases hy : y = v
      · subst hy
        have hxp : An pr x p := by
          rcases h.succ x y hx1 e with k | k | k
          · exact absurd k hv
          · rcases List.mem_cons.1 k with k | k
            · cases k; exact .refl
            · exact (List.pairwise_cons.1 h.stk2).1 _ k
          · exact k.elim
        exact .up hv0 (by rw [hprv]; exact hxp)
      · rw [hon hx, nuL_snoc_ne hv hy] at hlt
        exact h.edge x y e hx hlt
    · have : nuL (vs ++ [v]) y ≤ (vs ++ [v]).length := nuL_le
      rw [List.mem_singleton.1 hx, hvn] at hlt
      simp at this; omega
  · intro a x y ha hx h1 h2
    rcases List.mem_append.1 hx with hx | hx
    · have ham := An.vis h.prm ha hx
      rw [hon ham] at h1; rw [hon hx] at h2
      have hyv : y ≠ v := fun e => by subst e; rw [hvn] at h2; have := hle x; omega
      rw [nuL_snoc_ne hv hyv] at h1 h2
      exact h.iv a x y ha hx h1 h2
    · rw [List.mem_singleton.1 hx] at ha h2
      by_cases hyv : y = v
      · subst hyv; exact ha
      · rw [nuL_snoc_ne hv hyv] at h1
        cases ha with
        | refl => rw [hvn] at h1; have := hle y; omega
        | up _ ha =>
          rw [hprv] at ha
          have ham := An.vis h.prm ha hpm
          rw [hon ham] at h1
          exact h.iv a c y (ha.trans hpc) hcm h1 (by rw [hc]; exact hle y)
  · intro e he
    obtain ⟨a, b⟩ := h.stk1 e (by simp [he])
    exact ⟨by simp [a], b⟩
  · exact (List.pairwise_cons.1 h.stk2).2
  · intro e he c' hc'
    have hcv : c' = v := by
      by_cases hn : c' = v
      · exact hn
      · rw [nuL_snoc_ne hv hn] at hc'; have := hle c'; simp at hc'; omega
    subst hcv
    exact .up hv0 (by rw [hprv]; exact (List.pairwise_cons.1 h.stk2).1 _ he)
  · intro u w hu e
    rcases List.mem_append.1 hu with hu | hu
    · rcases h.succ u w hu e with k | k | k
      · exact .inl (by simp [k])
      · rcases List.mem_cons.1 k with k | k
        · cases k; exact .inl (by simp)
        · exact .inr (.inl k)
      · exact k.elim
    · rw [List.mem_singleton.1 hu] at e ⊢; exact .inr (.inr ⟨rfl, e⟩)
  · intro l1 w p' l2 hs hn hw
    refine h.lastp ((v, p) :: l1) w p' l2 (by rw [hs]; rfl) (fun e he => ?_) (fun k => hw (by simp [k]))
    rcases List.mem_cons.1 he with rfl | he
    · exact fun e => hw (by simp [← e])
    · exact hn e he
/-- The first block. -/
theorem DI.first (hg : Gd G) (pr : Nat → Nat) : DI G [0] pr [] (fun u w => u = 0 ∧ Ed G 0 w) := by
  have h1 : ∀ {x}, x ∈ [0] → x = 0 := fun h => List.mem_singleton.1 h
  have hn : nuL [0] 0 = 1 := by simp [nuL]
  refine ⟨by simp, fun x hx => by rw [h1 hx]; exact hg.pos, rfl, fun x hx => by rw [h1 hx]; exact .refl _, fun x h0 hx => absurd (h1 hx) h0, fun x y e hx hlt => ?_, fun a x y ha hx k1 k2 => ?_, by simp, by simp, by simp, fun u w hu e => .inr (.inr ⟨h1 hu, by rw [h1 hu] at e; exact e⟩), fun l1 w p l2 hs => by simp at hs⟩
  · have : nuL [0] y ≤ 1 := nuL_le
    rw [h1 hx, hn] at hlt; omega
  · have hx0 := h1 hx
    subst hx0
    cases ha with
    | refl =>
      have hy : nuL [0] y ≠ 0 := by omega
      have := h1 (nuL_ne.1 hy)
      subst this; exact .refl
    | up h0 => exact absurd rfl h0
/-- A successor is pushed. -/
theorem DI.push {v w : Nat} (h : DI G vs pr stk pend) (hv : nuL vs v = vs.length) (e : Ed G v w) (hw : w ∉ vs) (hp : ∀ u x, pend u x → (u = v ∧ x = w) ∨ pend' u x) : DI G vs (pset pr w v) ((w, v) :: stk) pend' := by
  have hpos := h.pos
  have hvm : v ∈ vs := nuL_ne.1 (by omega)
  have hsame : ∀ x ∈ vs, pset pr w v x = pr x := fun x hx => pset_ne _ _ (fun e => hw (by rw [← e]; exact hx))
  have hc : ∀ {a x}, An pr a x → x ∈ vs → An (pset pr w v) a x := fun ha hx => An.cong h.prm hsame ha hx
  have hc' : ∀ {a x}, An (pset pr w v) a x → x ∈ vs → An pr a x := fun ha hx => An.cong (fun x h0 hx => by rw [hsame x hx]; exact h.prm x h0 hx) (fun x hx => (hsame x hx).symm) ha hx
  refine ⟨h.nd, h.vlt, h.zero, h.rc, fun x h0 hx => by rw [hsame x hx]; exact h.par x h0 hx, fun x y e hx hlt => ?_, fun a x y ha hx h1 h2 => ?_, ?_, ?_, ?_, ?_, ?_⟩
  · exact hc (h.edge x y e hx hlt) (nuL_ne.1 (by omega))
  · have ha' := hc' ha hx
    have ham := An.vis h.prm ha' hx
    have := nuL_ne.2 ham
    exact hc (h.iv a x y ha' hx h1 h2) (nuL_ne.1 (by omega))
  · intro x hx
    rcases List.mem_cons.1 hx with rfl | hx
    · exact ⟨hvm, e⟩
    · exact h.stk1 x hx
  · rw [List.pairwise_cons]
    refine ⟨fun b hb => hc (h.top b hb v hv) hvm, ?_⟩
    exact h.stk2.imp_of_mem (fun ha hb k => hc k (h.stk1 _ ha).1)
  · intro x hx c hcn
    have hcm : c ∈ vs := nuL_ne.1 (by omega)
    rcases List.mem_cons.1 hx with rfl | hx
    · have : c = v := nuL_inj (vs := vs) (by omega) (by omega)
      subst this; exact .refl
    · exact hc (h.top x hx c hcn) hcm
  · intro u x hu eu
    rcases h.succ u x hu eu with k | k | k
    · exact .inl k
    · exact .inr (.inl (by simp [k]))
    · rcases hp u x k with ⟨rfl, rfl⟩ | k
      · exact .inr (.inl (by simp))
      · exact .inr (.inr k)
  · intro l1 x p l2 hs hn hx
    cases l1 with
    | nil => simp at hs; obtain ⟨⟨rfl, rfl⟩, _⟩ := hs; exact pset_same _ _ _
    | cons a l1 =>
      simp only [List.cons_append, List.cons.injEq] at hs
      obtain ⟨rfl, hs⟩ := hs
      have hxw : x ≠ w := fun e => hn (w, v) (by simp) e.symm
      rw [pset_ne _ _ hxw]
      exact h.lastp l1 x p l2 hs (fun e he => hn e (by simp [he])) hx
/-- The end. -/
theorem DI.done (h : DI G vs pr [] (fun _ _ => False)) : DT G (nuL vs) pr := by
  have hcl : ∀ u w, u ∈ vs → Ed G u w → w ∈ vs := by
    intro u w hu e
    rcases h.succ u w hu e with k | k | k
    · exact k
    · simp at k
    · exact k.elim
  have hz : 0 ∈ vs := List.mem_of_getElem? h.zero
  refine ⟨?_, fun x => ?_, fun x y e hx => nuL_inj e hx, fun x h0 hx => ?_, fun x y e hx hlt => h.edge x y e (nuL_ne.1 hx) hlt, fun a x y ha hx h1 h2 => h.iv a x y ha (nuL_ne.1 hx) h1 h2⟩
  · have := nuL_of h.nd h.pos
    have e : vs[0]! = 0 := by rw [getElem!_def, h.zero]
    rw [e] at this; omega
  · rw [nuL_ne]
    refine ⟨h.rc x, fun hr => ?_⟩
    induction hr with
    | refl => exact hz
    | step _ e _ ih => exact hcl _ _ ih e
  · obtain ⟨a, b, c⟩ := h.par x h0 (nuL_ne.1 hx)
    exact ⟨a, b, nuL_ne.2 c⟩
end
end Go.PL
