/- Dominators by their definition. No program in sight. -/
import Derived.Test.YtmoooaaiohplhacPb
namespace Go.PL

/-- x dominates y: as the reference has it. -/
def Dm (G : Graph) (x y : Nat) : Prop := Rc G 0 y ∧ (x = y ∨ ¬ (((0 : Nat) : Int) ≠ (x : Int) ∧ Rch G (x : Int) 0 y))

/-- A way from the first block: its blocks, the last one first. -/
inductive Pth (G : Graph) : List Nat → Nat → Prop
  | nil : Pth G [0] 0
  | step {π : List Nat} {p y : Nat} : Pth G π p → Ed G p y → Pth G (y :: π) y

section
variable {G : Graph} {x y z : Nat} {π : List Nat}
theorem Pth.mem (h : Pth G π y) : y ∈ π := by cases h <;> simp
theorem Pth.zero (h : Pth G π y) : 0 ∈ π := by
  induction h with
  | nil => simp
  | step _ _ ih => exact List.mem_cons_of_mem _ ih
theorem Pth.rc (h : Pth G π y) : Rc G 0 y := by
  induction h with
  | nil => exact .refl 0
  | step _ e ih => exact Rc.step ih e
theorem pth_of_rc (h : Rc G 0 y) : ∃ π, Pth G π y := by
  induction h with
  | refl => exact ⟨_, .nil⟩
  | step _ e _ ih => obtain ⟨π, h⟩ := ih; exact ⟨_, .step h e⟩
theorem pth_avoid : (((0 : Nat) : Int) ≠ (x : Int) ∧ Rch G (x : Int) 0 y) ↔ ∃ π, Pth G π y ∧ x ∉ π := by
  constructor
  · rintro ⟨h0, h⟩
    induction h with
    | refl => exact ⟨[0], .nil, by simp; omega⟩
    | step _ e hz ih =>
      obtain ⟨π, h1, h2⟩ := ih
      exact ⟨_, .step h1 e, by simp [h2]; omega⟩
  · rintro ⟨π, h1, h2⟩
    induction h1 with
    | nil => simp at h2; exact ⟨by omega, .refl 0⟩
    | step _ e ih =>
      simp at h2
      obtain ⟨h3, h4⟩ := ih h2.2
      exact ⟨h3, .step h4 e (by omega)⟩
theorem dm_iff : Dm G x y ↔ (∃ π, Pth G π y) ∧ ∀ π, Pth G π y → x ∈ π := by
  constructor
  · rintro ⟨h1, h2⟩
    refine ⟨pth_of_rc h1, fun π hp => ?_⟩
    rcases h2 with rfl | h2
    · exact hp.mem
    · by_cases hm : x ∈ π
      · exact hm
      · exact absurd (pth_avoid.2 ⟨π, hp, hm⟩) h2
  · rintro ⟨⟨π, hp⟩, h⟩
    exact ⟨hp.rc, .inr fun ha => by obtain ⟨π, h1, h2⟩ := pth_avoid.1 ha; exact h2 (h π h1)⟩
theorem Pth.splice {zs t : List Nat} : ∀ {y}, Pth G (zs ++ x :: t) y → Pth G (x :: t) x ∧ ∀ π, Pth G π x → Pth G (zs ++ π) y := by
  induction zs with
  | nil =>
    intro y h
    have e : y = x := by cases h <;> rfl
    subst e
    exact ⟨h, fun π hp => hp⟩
  | cons a zs ih =>
    intro y h
    rw [List.cons_append] at h
    generalize hl : zs ++ x :: t = l at h
    cases h with
    | nil => simp at hl
    | step h e =>
      subst hl
      obtain ⟨h1, h2⟩ := ih h
      exact ⟨h1, fun π hp => .step (h2 π hp) e⟩
theorem Pth.split (h : Pth G π y) (hx : x ∈ π) : ∃ zs t, π = zs ++ x :: t ∧ Pth G (x :: t) x := by
  obtain ⟨zs, t, rfl⟩ := List.append_of_mem hx
  exact ⟨zs, t, rfl, h.splice.1⟩
theorem Pth.lt (hg : Gd G) (h : Pth G π y) : ∀ x ∈ π, x < G.length := by
  induction h with
  | nil => intro x hx; simp at hx; subst hx; exact hg.pos
  | step _ e ih =>
    intro x hx
    rcases List.mem_cons.1 hx with rfl | hx
    · exact e.lt hg
    · exact ih x hx
theorem Dm.rc (h : Dm G x y) : Rc G 0 y := h.1
theorem Dm.rcl (h : Dm G x y) : Rc G 0 x := by
  obtain ⟨⟨π, hp⟩, h2⟩ := dm_iff.1 h
  obtain ⟨_, _, _, h3⟩ := hp.split (h2 π hp)
  exact h3.rc
theorem Dm.lt (hg : Gd G) (h : Dm G x y) : x < G.length ∧ y < G.length := ⟨Rch.lt hg hg.pos h.rcl, Rch.lt hg hg.pos h.rc⟩
theorem dm_refl (h : Rc G 0 y) : Dm G y y := ⟨h, .inl rfl⟩
theorem dm_zero (h : Rc G 0 y) : Dm G 0 y := dm_iff.2 ⟨pth_of_rc h, fun _ hp => hp.zero⟩
theorem Dm.trans (h1 : Dm G x y) (h2 : Dm G y z) : Dm G x z := by
  rw [dm_iff] at h1 h2 ⊢
  refine ⟨h2.1, fun π hp => ?_⟩
  obtain ⟨zs, t, rfl, h3⟩ := hp.split (h2.2 π hp)
  exact List.mem_append_right _ (h1.2 _ h3)
theorem Dm.antisymm (h1 : Dm G x y) (h2 : Dm G y x) : x = y := by
  rw [dm_iff] at h1 h2
  by_cases e : x = y
  · exact e
  · exfalso
    have key : ∀ n π, π.length = n → Pth G π y → False := by
      intro n
      induction n using Nat.strongRecOn with
      | _ n ih =>
        intro π hn hp
        obtain ⟨zs, t, rfl, h3⟩ := hp.split (h1.2 π hp)
        obtain ⟨zs', t', e', h4⟩ := h3.split (h2.2 _ h3)
        have hlt : (y :: t').length < (zs ++ x :: t).length := by
          have hl : (x :: t).length = (zs' ++ y :: t').length := by rw [e']
          have : zs' ≠ [] := by
            intro hz; subst hz; simp at e'; exact e e'.1
          have : 0 < zs'.length := List.length_pos_iff.2 this
          simp only [List.length_append, List.length_cons] at hl ⊢
          omega
        exact ih _ (hn ▸ hlt) _ rfl h4
    obtain ⟨π, hp⟩ := h1.1
    exact key _ π rfl hp
/-- The last one of two blocks on a way. -/
theorem last_of {l : List Nat} (hx : x ∈ l) : (∃ zs t, l = zs ++ x :: t ∧ x ∉ zs ∧ y ∉ zs) ∨ (∃ zs t, l = zs ++ y :: t ∧ x ∉ zs ∧ y ∉ zs) := by
  induction l with
  | nil => cases hx
  | cons a l ih =>
    by_cases h1 : a = x
    · subst h1; exact .inl ⟨[], l, rfl, by simp, by simp⟩
    · by_cases h2 : a = y
      · subst h2; exact .inr ⟨[], l, rfl, by simp, by simp⟩
      · have hx' : x ∈ l := by
          rcases List.mem_cons.1 hx with h | h
          · exact absurd h.symm h1
          · exact h
        rcases ih hx' with ⟨zs, t, rfl, h3, h4⟩ | ⟨zs, t, rfl, h3, h4⟩
        · exact .inl ⟨a :: zs, t, rfl, by simp [h3, Ne.symm h1], by simp [h4, Ne.symm h2]⟩
        · exact .inr ⟨a :: zs, t, rfl, by simp [h3, Ne.symm h1], by simp [h4, Ne.symm h2]⟩
theorem Dm.total (h1 : Dm G x z) (h2 : Dm G y z) : Dm G x y ∨ Dm G y x := by
  by_cases a : Dm G x y
  · exact .inl a
  · by_cases b : Dm G y x
    · exact .inr b
    · exfalso
      have hx := h1.rcl
      have hy := h2.rcl
      rw [dm_iff] at h1 h2
      have a' : ∃ π, Pth G π y ∧ x ∉ π := by
        by_cases h : ∃ π, Pth G π y ∧ x ∉ π
        · exact h
        · exact absurd (dm_iff.2 ⟨pth_of_rc hy, fun π hp => Classical.byContradiction fun hn => h ⟨π, hp, hn⟩⟩) a
      have b' : ∃ π, Pth G π x ∧ y ∉ π := by
        by_cases h : ∃ π, Pth G π x ∧ y ∉ π
        · exact h
        · exact absurd (dm_iff.2 ⟨pth_of_rc hx, fun π hp => Classical.byContradiction fun hn => h ⟨π, hp, hn⟩⟩) b
      obtain ⟨p1, q1, r1⟩ := a'
      obtain ⟨p2, q2, r2⟩ := b'
      obtain ⟨π, hp⟩ := h1.1
      rcases last_of (y := y) (h1.2 π hp) with ⟨zs, t, rfl, h3, h4⟩ | ⟨zs, t, rfl, h3, h4⟩
      · have := h2.2 _ (hp.splice.2 p2 q2)
        rcases List.mem_append.1 this with h | h
        · exact h4 h
        · exact r2 h
      · have := h1.2 _ (hp.splice.2 p1 q1)
        rcases List.mem_append.1 this with h | h
        · exact h3 h
        · exact r1 h
theorem Dm.pred {p : Nat} (h : Dm G x y) (hne : x ≠ y) (e : Ed G p y) (hp : Rc G 0 p) : Dm G x p := by
  rw [dm_iff] at h ⊢
  refine ⟨pth_of_rc hp, fun π hπ => ?_⟩
  rcases List.mem_cons.1 (h.2 _ (.step hπ e)) with h1 | h1
  · exact absurd h1 hne
  · exact h1
theorem dm_of_preds (hy : Rc G 0 y) (hy0 : y ≠ 0) (h : ∀ p, Ed G p y → Rc G 0 p → Dm G x p) : Dm G x y := by
  refine dm_iff.2 ⟨pth_of_rc hy, fun π hp => ?_⟩
  cases hp with
  | nil => exact absurd rfl hy0
  | step h1 e => exact List.mem_cons_of_mem _ ((dm_iff.1 (h _ e h1.rc)).2 _ h1)
theorem dm_zero_only (h : Dm G x 0) : x = 0 := by
  have := (dm_iff.1 h).2 [0] .nil
  simpa using this

/-- The immediate dominator. -/
def IsIdom (G : Graph) (x y : Nat) : Prop := x ≠ y ∧ Dm G x y ∧ ∀ z, z ≠ y → Dm G z y → Dm G z x
def IdomSpec (G : Graph) (y : Nat) (o : Option Nat) : Prop := (∀ x, o = some x → IsIdom G x y) ∧ (o = none → y = 0 ∨ ¬ Rc G 0 y)
theorem IsIdom.unique {x' : Nat} (h : IsIdom G x y) (h' : IsIdom G x' y) : x = x' := Dm.antisymm (h'.2.2 x h.1 h.2.1) (h.2.2 x' h'.1 h'.2.1)
theorem IsIdom.ne_zero (h : IsIdom G x y) : y ≠ 0 := fun e => by subst e; exact h.1 (dm_zero_only h.2.1)
theorem IdomSpec.unique {o o' : Option Nat} (h : IdomSpec G y o) (h' : IdomSpec G y o') : o = o' := by
  cases o with
  | none => cases o' with
    | none => rfl
    | some x' =>
      have hi := h'.1 x' rfl
      rcases h.2 rfl with e | e
      · exact absurd e hi.ne_zero
      · exact absurd hi.2.1.rc e
  | some x => cases o' with
    | none =>
      have hi := h.1 x rfl
      rcases h'.2 rfl with e | e
      · exact absurd e hi.ne_zero
      · exact absurd hi.2.1.rc e
    | some x' => rw [(h.1 x rfl).unique (h'.1 x' rfl)]
end
/-- The immediate dominators of all blocks. -/
structure IdomsOK (G : Graph) (L : List (Option Nat)) : Prop where
  len : L.length = G.length
  spec : ∀ y, y < G.length → IdomSpec G y L[y]!
theorem IdomsOK.unique {G : Graph} {L L' : List (Option Nat)} (h : IdomsOK G L) (h' : IdomsOK G L') : L = L' := by
  refine List.ext_getElem (by rw [h.len, h'.len]) fun y h1 h2 => ?_
  have := (h.spec y (by rw [← h.len]; exact h1)).unique (h'.spec y (by rw [← h.len]; exact h1))
  rwa [getElem!_pos L y h1, getElem!_pos L' y h2] at this
theorem IdomsOK.lt {G : Graph} (hg : Gd G) {L : List (Option Nat)} (h : IdomsOK G L) {y x : Nat} (hy : y < G.length) (e : L[y]! = some x) : x < G.length := ((h.spec y hy).1 x e).2.1.lt hg |>.1
/-- Same ways, same dominators. -/
theorem rch_congr {G G' : Graph} (he : ∀ x y, Ed G x y → Ed G' x y) {wo : Int} {x y : Nat} (h : Rch G wo x y) : Rch G' wo x y := by
  induction h with
  | refl => exact .refl _
  | step _ e hz ih => exact .step ih (he _ _ e) hz
theorem dm_congr {G G' : Graph} (he : ∀ x y, Ed G x y ↔ Ed G' x y) {x y : Nat} : Dm G x y ↔ Dm G' x y := by
  unfold Dm
  have h1 : ∀ {wo : Int} {a b : Nat}, Rch G wo a b ↔ Rch G' wo a b := ⟨rch_congr (fun x y h => (he x y).1 h), rch_congr (fun x y h => (he x y).2 h)⟩
  rw [show Rc G 0 y ↔ Rc G' 0 y from h1, h1]
theorem idoms_congr {G G' : Graph} (hl : G.length = G'.length) (hd : ∀ x y, Dm G x y ↔ Dm G' x y) {L : List (Option Nat)} (h : IdomsOK G L) : IdomsOK G' L := by
  have hr : ∀ y, Rc G 0 y ↔ Rc G' 0 y := fun y => ⟨fun h => ((hd y y).1 (dm_refl h)).rc, fun h => ((hd y y).2 (dm_refl h)).rc⟩
  refine ⟨h.len.trans hl, fun y hy => ?_⟩
  have := h.spec y (hl ▸ hy)
  refine ⟨fun x e => ?_, fun e => ?_⟩
  · obtain ⟨a, b, c⟩ := this.1 x e
    exact ⟨a, (hd x y).1 b, fun z hz hd' => (hd z x).1 (c z hz ((hd z y).2 hd'))⟩
  · rcases this.2 e with h | h
    · exact .inl h
    · exact .inr (fun h' => h ((hr y).2 h'))
end Go.PL
