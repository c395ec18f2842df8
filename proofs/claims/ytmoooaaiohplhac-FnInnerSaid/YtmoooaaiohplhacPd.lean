/- The simple road to immediate dominators (Cooper, Harvey, Kennedy), as plain mathematics: the map D that the loops turn, what holds of it at every step, why the loops end, and that at the end it tells the immediate dominators. -/
import Derived.Test.YtmoooaaiohplhacPc
namespace Go.PL

/-- The place of a block in the postorder. -/
def ps (G : Graph) (x : Nat) : Nat := (postL G).idxOf x
section
variable {G : Graph}
theorem ps_lt {x : Nat} (h : x ∈ postL G) : ps G x < (postL G).length := List.idxOf_lt_length_of_mem h
theorem ps_get {x : Nat} (h : x ∈ postL G) : (postL G)[ps G x]! = x := by
  rw [getElem!_pos (postL G) _ (ps_lt h)]; exact List.getElem_idxOf (ps_lt h)
theorem ps_of (hg : Gd G) {i : Nat} (hi : i < (postL G).length) : ps G (postL G)[i]! = i := by
  have hm : (postL G)[i]! ∈ postL G := by rw [getElem!_pos (postL G) i hi]; exact List.getElem_mem hi
  have h1 := ps_get hm
  have hnd := (postL_ok hg).nd'
  rcases Nat.lt_trichotomy (ps G (postL G)[i]!) i with h | h | h
  · exact absurd h1 (hnd _ _ h hi)
  · exact h
  · exact absurd h1.symm (hnd _ _ h (ps_lt hm))
theorem ps_inj {x y : Nat} (hx : x ∈ postL G) (hy : y ∈ postL G) (h : ps G x = ps G y) : x = y := by rw [← ps_get hx, h, ps_get hy]
theorem zero_mem (hg : Gd G) : 0 ∈ postL G := ((postL_ok hg).mem 0).2 (.refl 0)
theorem ps_zero (hg : Gd G) : ps G 0 + 1 = (postL G).length := by
  obtain ⟨l, h⟩ := (postL_ok hg).last
  have h1 : (postL G)[l.length]! = 0 := by rw [h]; simp
  have h2 := ps_of hg (i := l.length) (by rw [h]; simp)
  rw [h1] at h2; rw [h2, h]; simp
theorem ps_par (hg : Gd G) {x : Nat} (hx : x ∈ postL G) (h0 : x ≠ 0) : ∃ q, Ed G q x ∧ q ∈ postL G ∧ ps G x < ps G q := by
  obtain ⟨q, j, e, h1, h2, h3⟩ := (postL_ok hg).par (ps G x) (ps_lt hx) (by rw [ps_get hx]; exact h0)
  rw [ps_get hx] at e
  have := ps_of hg h2
  rw [h3] at this
  exact ⟨q, e, by rw [← h3, getElem!_pos (postL G) j h2]; exact List.getElem_mem h2, by omega⟩
theorem ps_le_zero (hg : Gd G) {x : Nat} (hx : x ∈ postL G) : ps G x ≤ ps G 0 := by have := ps_zero hg; have := ps_lt hx; omega
end

/-! ### Chains -/
inductive Up (D : Nat → Option Nat) : Nat → Nat → Prop
  | refl (x : Nat) : Up D x x
  | step {x d z : Nat} : x ≠ 0 → D x = some d → Up D d z → Up D x z
theorem Up.trans {D : Nat → Option Nat} {x y z : Nat} (h : Up D x y) (h' : Up D y z) : Up D x z := by
  induction h with
  | refl => exact h'
  | step h0 h1 _ ih => exact .step h0 h1 (ih h')
/-- On from d to x over blocks whose places lie below b. -/
inductive Lw (G : Graph) (b d : Nat) : Nat → Prop
  | refl : Lw G b d d
  | step {y z : Nat} : Lw G b d y → Ed G y z → ps G z < b → Lw G b d z
theorem Lw.mono {G : Graph} {b b' d x : Nat} (h : Lw G b d x) (hb : b ≤ b') : Lw G b' d x := by
  induction h with
  | refl => exact .refl
  | step _ e h ih => exact .step ih e (by omega)
theorem Lw.trans {G : Graph} {b d x y : Nat} (h : Lw G b d x) (h' : Lw G b x y) : Lw G b d y := by
  induction h' with
  | refl => exact h
  | step _ e hz ih => exact .step ih e hz
theorem Lw.ext {G : Graph} {b d x : Nat} (h : Lw G b d x) {π : List Nat} (hp : Pth G π d) : ∃ zs, Pth G (zs ++ π) x ∧ ∀ u ∈ zs, ps G u < b := by
  induction h with
  | refl => exact ⟨[], hp, by simp⟩
  | step _ e hz ih =>
    obtain ⟨zs, h1, h2⟩ := ih
    refine ⟨_ :: zs, .step h1 e, fun u hu => ?_⟩
    rcases List.mem_cons.1 hu with rfl | hu
    · exact hz
    · exact h2 u hu
theorem Lw.dm {G : Graph} {b d x z : Nat} (h : Lw G b d x) (hd : Rc G 0 d) (hz : b ≤ ps G z) (hm : Dm G z x) : Dm G z d := by
  refine dm_iff.2 ⟨pth_of_rc hd, fun π hp => ?_⟩
  obtain ⟨zs, h1, h2⟩ := h.ext hp
  rcases List.mem_append.1 ((dm_iff.1 hm).2 _ h1) with h3 | h3
  · have := h2 z h3; omega
  · exact h3

/-! ### What holds of the map at every step -/
structure CI (G : Graph) (D : Nat → Option Nat) : Prop where
  zero : D 0 = some 0
  live : ∀ x d, D x = some d → x ∈ postL G
  up : ∀ x d, x ≠ 0 → D x = some d → ps G x < ps G d ∧ D d ≠ none
  low : ∀ x d, x ≠ 0 → D x = some d → Lw G (ps G d) d x
  dom : ∀ x z, D x ≠ none → Dm G z x → Up D x z

section
variable {G : Graph} {D : Nat → Option Nat}
theorem CI.some' (h : CI G D) {x : Nat} (hx : D x ≠ none) : x ∈ postL G := by
  cases e : D x with
  | none => exact absurd e hx
  | some d => exact h.live x d e
theorem CI.upd_ne (h : CI G D) {x z : Nat} (hu : Up D x z) (hx : D x ≠ none) : D z ≠ none := by
  induction hu with
  | refl => exact hx
  | step h0 h1 _ ih => exact ih (h.up _ _ h0 h1).2
theorem CI.ps_le (h : CI G D) {x z : Nat} (hu : Up D x z) : ps G x ≤ ps G z := by
  induction hu with
  | refl => exact Nat.le_refl _
  | step h0 h1 _ ih => have := (h.up _ _ h0 h1).1; omega
theorem CI.ps_ne (h : CI G D) {x z : Nat} (hu : Up D x z) (hne : x ≠ z) : ps G x < ps G z := by
  cases hu with
  | refl => exact absurd rfl hne
  | step h0 h1 h2 => have := (h.up _ _ h0 h1).1; have := h.ps_le h2; omega
theorem CI.lw (h : CI G D) {x z : Nat} (hu : Up D x z) : Lw G (ps G z) z x := by
  induction hu with
  | refl => exact .refl
  | step h0 h1 h2 ih => exact ih.trans ((h.low _ _ h0 h1).mono (h.ps_le h2))
theorem CI.antisymm (h : CI G D) {x z : Nat} (h1 : Up D x z) (h2 : Up D z x) : x = z := by
  by_cases e : x = z
  · exact e
  · have := h.ps_ne h1 e; have := h.ps_ne h2 (Ne.symm e); omega
/-- Of what lies above x, what lies above both b and c: e. -/
def IsNca (D : Nat → Option Nat) (b c e : Nat) : Prop := Up D b e ∧ Up D c e ∧ ∀ z, Up D b z → Up D c z → Up D e z
/-- A step of intersect. -/
theorem CI.nca_left (h : CI G D) {b c d z : Nat} (hlt : ps G b < ps G c) (hd : D b = some d) (hb : Up D b z) (hc : Up D c z) : Up D d z := by
  cases hb with
  | refl => have := h.ps_le hc; omega
  | step h0 h1 h2 => rw [hd] at h1; cases h1; exact h2
/-- What the loop over the ways into a block has found. -/
def FoldOK (D : Nat → Option Nat) (l : List Nat) (o : Option Nat) : Prop :=
  (o = none ∧ ∀ p ∈ l, D p = none) ∨ ∃ d, o = some d ∧ (∃ p ∈ l, D p ≠ none) ∧ (∀ p ∈ l, D p ≠ none → Up D p d) ∧ ∀ z, (∀ p ∈ l, D p ≠ none → Up D p z) → Up D d z
theorem fold_nil : FoldOK D [] none := .inl ⟨rfl, by simp⟩
theorem FoldOK.skip {l : List Nat} {o : Option Nat} {p : Nat} (h : FoldOK D l o) (hp : D p = none) : FoldOK D (l ++ [p]) o := by
  have key : ∀ q, q ∈ l ++ [p] → D q ≠ none → q ∈ l := by
    intro q hq hn
    rcases List.mem_append.1 hq with h | h
    · exact h
    · simp at h; subst h; exact absurd hp hn
  rcases h with ⟨h1, h2⟩ | ⟨d, h1, ⟨q, hq, hq'⟩, h3, h4⟩
  · refine .inl ⟨h1, fun q hq => ?_⟩
    rcases List.mem_append.1 hq with h | h
    · exact h2 q h
    · simp at h; subst h; exact hp
  · exact .inr ⟨d, h1, ⟨q, List.mem_append_left _ hq, hq'⟩, fun q hq hn => h3 q (key q hq hn) hn, fun z hz => h4 z (fun q hq hn => hz q (List.mem_append_left _ hq) hn)⟩
theorem FoldOK.first {l : List Nat} {p : Nat} (h : FoldOK D l none) (hp : D p ≠ none) : FoldOK D (l ++ [p]) (some p) := by
  rcases h with ⟨_, h2⟩ | ⟨d, h1, _⟩
  · refine .inr ⟨p, rfl, ⟨p, by simp, hp⟩, fun q hq hn => ?_, fun z hz => hz p (by simp) hp⟩
    rcases List.mem_append.1 hq with h | h
    · exact absurd (h2 q h) hn
    · simp at h; subst h; exact .refl _
  · cases h1
theorem FoldOK.meet {l : List Nat} {d p e : Nat} (h : FoldOK D l (some d)) (hp : D p ≠ none) (he : IsNca D d p e) : FoldOK D (l ++ [p]) (some e) := by
  rcases h with ⟨h1, _⟩ | ⟨d', h1, ⟨q, hq, hq'⟩, h3, h4⟩
  · cases h1
  · cases h1
    refine .inr ⟨e, rfl, ⟨p, by simp, hp⟩, fun q hq hn => ?_, fun z hz => ?_⟩
    · rcases List.mem_append.1 hq with h | h
      · exact (h3 q h hn).trans he.1
      · simp at h; subst h; exact he.2.1
    · exact he.2.2 z (h4 z (fun q hq hn => hz q (List.mem_append_left _ hq) hn)) (hz p (by simp) hp)
theorem FoldOK.some {l : List Nat} {o : Option Nat} (h : FoldOK D l o) (hp : ∃ p ∈ l, D p ≠ none) : ∃ d, o = some d ∧ (∀ p ∈ l, D p ≠ none → Up D p d) ∧ ∀ z, (∀ p ∈ l, D p ≠ none → Up D p z) → Up D d z := by
  rcases h with ⟨_, h2⟩ | ⟨d, h1, _, h3, h4⟩
  · obtain ⟨p, hp, hn⟩ := hp; exact absurd (h2 p hp) hn
  · exact ⟨d, h1, h3, h4⟩

/-! ### The map turned at one block -/
def set1 (D : Nat → Option Nat) (b : Nat) (d : Nat) : Nat → Option Nat := fun x => if x = b then some d else D x
theorem set1_same {b d : Nat} : set1 D b d b = some d := by simp [set1]
theorem set1_ne {b d x : Nat} (h : x ≠ b) : set1 D b d x = D x := by simp [set1, h]
theorem set1_some {b d x : Nat} (h : D x ≠ none) : set1 D b d x ≠ none := by unfold set1; split <;> simp_all

/-- What a step of the loops gives: d, above all ways into b. -/
structure StepOK (G : Graph) (D : Nat → Option Nat) (b d : Nat) : Prop where
  mem : b ∈ postL G
  ne0 : b ≠ 0
  lt : ps G b < ps G d
  dn : D d ≠ none
  pre : ∃ p, Ed G p b ∧ D p ≠ none
  up : ∀ p, Ed G p b → D p ≠ none → Up D p d
  low : ∀ z, (∀ p, Ed G p b → D p ≠ none → Up D p z) → Up D d z
theorem stepOK (hg : Gd G) (h : CI G D) {b : Nat} (hb : b ∈ postL G) (h0 : b ≠ 0) {l : List Nat} (hl : ∀ p, p ∈ l ↔ Ed G p b) (hv : ∀ x, x ∈ postL G → ps G b < ps G x → D x ≠ none) {o : Option Nat} (hf : FoldOK D l o) : ∃ d, o = some d ∧ StepOK G D b d := by
  obtain ⟨q, e, hq, hlt⟩ := ps_par hg hb h0
  have hqn := hv q hq hlt
  obtain ⟨d, h1, h2, h3⟩ := hf.some ⟨q, (hl q).2 e, hqn⟩
  have hqd := h2 q ((hl q).2 e) hqn
  have := h.ps_le hqd
  exact ⟨d, h1, hb, h0, by omega, h.upd_ne hqd hqn, ⟨q, e, hqn⟩, fun p e hn => h2 p ((hl p).2 e) hn, fun z hz => h3 z (fun p hp hn => hz p ((hl p).1 hp) hn)⟩
/-- Above d nothing turns. -/
theorem StepOK.keep (h : CI G D) {b d u z : Nat} (hu : ps G b < ps G u) (h1 : Up D u z) : Up (set1 D b d) u z := by
  induction h1 with
  | refl => exact .refl _
  | step h0 h2 _ ih =>
    have := (h.up _ _ h0 h2).1
    refine .step h0 (by rw [set1_ne (by intro e; subst e; omega)]; exact h2) (ih (by omega))
theorem StepOK.back (h : CI G D) {b d u z : Nat} (hu : ps G b < ps G u) (h1 : Up (set1 D b d) u z) : Up D u z := by
  induction h1 with
  | refl => exact .refl _
  | step h0 h2 _ ih =>
    rw [set1_ne (by intro e; subst e; omega)] at h2
    have := (h.up _ _ h0 h2).1
    exact .step h0 h2 (ih (by omega))
theorem StepOK.part (s : ∀ x, D x = D x) {b d x z : Nat} (h1 : Up D x z) : Up (set1 D b d) x z ∨ (Up (set1 D b d) x b ∧ Up D b z) := by
  induction h1 with
  | refl => exact .inl (.refl _)
  | @step x d' z h0 h2 h3 ih =>
    by_cases e : x = b
    · subst e; exact .inr ⟨.refl _, .step h0 h2 h3⟩
    · have h4 : set1 D b d x = some d' := by rw [set1_ne e]; exact h2
      rcases ih with h | ⟨h, h'⟩
      · exact .inl (.step h0 h4 h)
      · exact .inr ⟨.step h0 h4 h, h'⟩
theorem StepOK.part' {b d x z : Nat} (h1 : Up (set1 D b d) x z) : Up D x z ∨ (Up D x b ∧ Up (set1 D b d) b z) := by
  induction h1 with
  | refl => exact .inl (.refl _)
  | @step x d' z h0 h2 h3 ih =>
    by_cases e : x = b
    · subst e; exact .inr ⟨.refl _, .step h0 h2 h3⟩
    · rw [set1_ne e] at h2
      rcases ih with h | ⟨h, h'⟩
      · exact .inl (.step h0 h2 h)
      · exact .inr ⟨.step h0 h2 h, h'⟩
theorem CI.step (hg : Gd G) (h : CI G D) {b d : Nat} (s : StepOK G D b d) : CI G (set1 D b d) := by
  have hP := postL_ok hg
  have hb : ∀ z, Dm G z b → Up (set1 D b d) b z := by
    intro z hz
    by_cases e : z = b
    · subst e; exact .refl _
    · refine .step s.ne0 set1_same (StepOK.keep h s.lt (s.low z fun p e' hn => h.dom p z hn ?_))
      exact hz.pred e e' ((hP.mem p).1 (h.some' hn))
  refine ⟨?_, ?_, ?_, ?_, ?_⟩
  · rw [set1_ne (Ne.symm s.ne0)]; exact h.zero
  · intro x d' e
    by_cases hx : x = b
    · subst hx; exact s.mem
    · rw [set1_ne hx] at e; exact h.live x d' e
  · intro x d' h0 e
    by_cases hx : x = b
    · subst hx; rw [set1_same] at e; cases e; exact ⟨s.lt, set1_some s.dn⟩
    · rw [set1_ne hx] at e; have := h.up x d' h0 e; exact ⟨this.1, set1_some this.2⟩
  · intro x d' h0 e
    by_cases hx : x = b
    · subst hx; rw [set1_same] at e; cases e
      obtain ⟨p, e', hn⟩ := s.pre
      exact .step (h.lw (s.up p e' hn)) e' s.lt
    · rw [set1_ne hx] at e; exact h.low x d' h0 e
  · intro x z hx hz
    by_cases e : x = b
    · subst e; exact hb z hz
    · rw [set1_ne e] at hx
      rcases StepOK.part (b := b) (d := d) (fun _ => rfl) (h.dom x z hx hz) with h1 | ⟨h1, h2⟩
      · exact h1
      · by_cases ez : z = b
        · subst ez; exact h1
        · refine h1.trans (hb z ?_)
          have hxb : Up D x b := by
            rcases StepOK.part' h1 with h3 | ⟨h3, _⟩ <;> exact h3
          refine (h.lw hxb).dm ((hP.mem b).1 s.mem) ?_ hz
          have := h.ps_ne h2 (Ne.symm ez); omega

/-! ### Why the loops end -/
/-- A way with r steps that do not lead down in postorder. -/
inductive PR (G : Graph) : Nat → List Nat → Nat → Prop
  | nil : PR G 0 [0] 0
  | adv {r p y : Nat} {π : List Nat} : PR G r π p → Ed G p y → ps G y < ps G p → PR G r (y :: π) y
  | ret {r p y : Nat} {π : List Nat} : PR G r π p → Ed G p y → ps G p ≤ ps G y → PR G (r + 1) (y :: π) y
theorem PR.pth {r x : Nat} {π : List Nat} (h : PR G r π x) : Pth G π x := by
  induction h with
  | nil => exact .nil
  | adv _ e _ ih => exact .step ih e
  | ret _ e _ ih => exact .step ih e
theorem PR.of {x : Nat} {π : List Nat} (h : Pth G π x) : ∃ r, PR G r π x ∧ r + 1 ≤ π.length := by
  induction h with
  | nil => exact ⟨0, .nil, by simp⟩
  | @step π p y _ e ih =>
    obtain ⟨r, h1, h2⟩ := ih
    rcases Nat.lt_or_ge (ps G y) (ps G p) with h3 | h3
    · exact ⟨r, .adv h1 e h3, by simp; omega⟩
    · exact ⟨r + 1, .ret h1 e h3, by simp; omega⟩
theorem PR.pre {r x b : Nat} {π : List Nat} (h : PR G r π x) (hb : b ∈ π) : ∃ r' π', PR G r' π' b ∧ r' ≤ r ∧ ∀ u ∈ π', u ∈ π := by
  induction h with
  | nil => simp at hb; subst hb; exact ⟨0, [0], .nil, Nat.le_refl _, fun _ h => h⟩
  | adv h1 e h2 ih =>
    rcases List.mem_cons.1 hb with rfl | hb
    · exact ⟨_, _, .adv h1 e h2, Nat.le_refl _, fun _ h => h⟩
    · obtain ⟨r', π', a1, a2, a3⟩ := ih hb
      exact ⟨r', π', a1, a2, fun u hu => List.mem_cons_of_mem _ (a3 u hu)⟩
  | ret h1 e h2 ih =>
    rcases List.mem_cons.1 hb with rfl | hb
    · exact ⟨_, _, .ret h1 e h2, Nat.le_refl _, fun _ h => h⟩
    · obtain ⟨r', π', a1, a2, a3⟩ := ih hb
      exact ⟨r', π', a1, by omega, fun u hu => List.mem_cons_of_mem _ (a3 u hu)⟩
/-- A way without repetition within a way. -/
theorem pth_simple {x : Nat} {π : List Nat} (h : Pth G π x) : ∃ π', Pth G π' x ∧ π'.Nodup ∧ ∀ u ∈ π', u ∈ π := by
  induction h with
  | nil => exact ⟨[0], .nil, by simp, fun _ h => h⟩
  | @step π p y _ e ih =>
    obtain ⟨π', h1, h2, h3⟩ := ih
    by_cases hy : y ∈ π'
    · obtain ⟨zs, t, rfl, h4⟩ := h1.split hy
      refine ⟨y :: t, h4, (List.nodup_append.1 h2).2.1, fun u hu => List.mem_cons_of_mem _ (h3 u (List.mem_append_right _ hu))⟩
    · refine ⟨y :: π', .step h1 e, List.nodup_cons.2 ⟨hy, h2⟩, fun u hu => ?_⟩
      rcases List.mem_cons.1 hu with rfl | hu
      · exact List.mem_cons_self
      · exact List.mem_cons_of_mem _ (h3 u hu)
/-- In round j, the blocks from place i on done. -/
def TI (G : Graph) (D : Nat → Option Nat) (j i : Nat) : Prop :=
  ∀ x r π z, D x ≠ none → PR G r π x → (r + 1 ≤ j ∨ (r ≤ j ∧ i ≤ ps G x)) → Up D x z → z ∈ π
theorem TI.next {j : Nat} (h : CI G D) (t : TI G D j 0) : TI G D (j + 1) (postL G).length := by
  intro x r π z hx hp hc hu
  refine t x r π z hx hp (.inr ⟨?_, Nat.zero_le _⟩) hu
  rcases hc with hc | ⟨_, hc⟩
  · omega
  · have := ps_lt (h.some' hx); omega
theorem TI.step (h : CI G D) {b d j : Nat} (s : StepOK G D b d) (hv : ∀ x, x ∈ postL G → ps G b < ps G x → D x ≠ none) (hall : 1 ≤ j → ∀ x, x ∈ postL G → D x ≠ none) (hg : Gd G) (t : TI G D j (ps G b + 1)) : TI G (set1 D b d) j (ps G b) := by
  have hP := postL_ok hg
  have hb : ∀ r π z, PR G r π b → r ≤ j → Up (set1 D b d) b z → z ∈ π := by
    intro r π z hp hr hu
    cases hu with
    | refl => exact hp.pth.mem
    | step h0 h1 h2 =>
      rw [set1_same] at h1; cases h1
      have h3 := StepOK.back h s.lt h2
      cases hp with
      | nil => exact absurd rfl h0
      | adv hp e hlt =>
        have hpn := hv _ ((hP.mem _).2 hp.pth.rc) hlt
        exact List.mem_cons_of_mem _ (t _ _ _ z hpn hp (.inr ⟨hr, hlt⟩) ((s.up _ e hpn).trans h3))
      | ret hp e hlt =>
        have hpn := hall (by omega) _ ((hP.mem _).2 hp.pth.rc)
        exact List.mem_cons_of_mem _ (t _ _ _ z hpn hp (.inl hr) ((s.up _ e hpn).trans h3))
  intro x r π z hx hp hc hu
  by_cases e : x = b
  · subst e; exact hb r π z hp (by omega) hu
  · rw [set1_ne e] at hx
    have hxm := h.some' hx
    have hne : ps G x ≠ ps G b := fun h => e (ps_inj hxm s.mem h)
    have hc' : r + 1 ≤ j ∨ (r ≤ j ∧ ps G b + 1 ≤ ps G x) := by omega
    rcases StepOK.part' hu with h1 | ⟨h1, h2⟩
    · exact t x r π z hx hp hc' h1
    · have hbm := t x r π b hx hp hc' h1
      obtain ⟨r', π', a1, a2, a3⟩ := hp.pre hbm
      exact a3 z (hb r' π' z a1 (by omega) h2)
/-- After twelve rounds the chains are the dominators. -/
theorem TI.exact (hg : Gd G) {i : Nat} (t : TI G D 13 i) {x z : Nat} (hx : D x ≠ none) (hr : Rc G 0 x) (hu : Up D x z) : Dm G z x := by
  refine dm_iff.2 ⟨pth_of_rc hr, fun π hp => ?_⟩
  obtain ⟨π', h1, h2, h3⟩ := pth_simple hp
  obtain ⟨r, h4, h5⟩ := PR.of h1
  have h6 := nodup_len _ h2 (h1.lt hg)
  have := hg.le
  exact h3 z (t x r π' z hx h4 (.inl (by omega)) hu)
/-- Then a step finds what is there. -/
theorem StepOK.same (hg : Gd G) (h : CI G D) {b d d0 i : Nat} (s : StepOK G D b d) (t : TI G D 13 i) (hall : ∀ x, x ∈ postL G → D x ≠ none) (hd : D b = some d0) : d = d0 := by
  have hP := postL_ok hg
  have hbr := (hP.mem b).1 s.mem
  have hbn : D b ≠ none := by rw [hd]; simp
  have h1 : Dm G d b := dm_of_preds hbr s.ne0 fun p e hp => t.exact hg (hall p ((hP.mem p).2 hp)) hp (s.up p e (hall p ((hP.mem p).2 hp)))
  have h2 : Up D d0 d := by
    cases h.dom b d hbn h1 with
    | refl => have := s.lt; omega
    | step _ e h3 => rw [hd] at e; cases e; exact h3
  have h3 : Dm G d0 b := t.exact hg hbn hbr (.step s.ne0 hd (.refl _))
  have h4 : Up D d d0 := s.low d0 fun p e hn => h.dom p d0 hn (h3.pred (fun e => by subst e; have := (h.up _ _ s.ne0 hd).1; omega) e ((hP.mem p).1 (h.some' hn)))
  exact h.antisymm h4 h2

/-! ### The end -/
/-- Where a step at any block finds what is there, the chains are the dominators. -/
theorem CI.final (hg : Gd G) (h : CI G D) (hall : ∀ x, x ∈ postL G → D x ≠ none) (hfix : ∀ b, b ∈ postL G → b ≠ 0 → ∃ d, D b = some d ∧ StepOK G D b d) {y : Nat} (hy : y ∈ postL G) (h0 : y ≠ 0) : ∃ d, D y = some d ∧ IsIdom G d y := by
  have hP := postL_ok hg
  have key : ∀ π x, Pth G π x → ∀ z, Up D x z → z ∈ π := by
    intro π x hp
    induction hp with
    | nil => intro z hu; cases hu with
      | refl => simp
      | step h0 => exact absurd rfl h0
    | @step π p x hp e ih =>
      intro z hu
      have hx : x ∈ postL G := (hP.mem x).2 (Rc.step hp.rc e)
      cases hu with
      | refl => exact List.mem_cons_self
      | step h0 h1 h2 =>
        obtain ⟨d, h3, s⟩ := hfix x hx h0
        rw [h1] at h3; cases h3
        exact List.mem_cons_of_mem _ (ih z ((s.up p e (hall p ((hP.mem p).2 hp.rc))).trans h2))
  have hup : ∀ x z, x ∈ postL G → Up D x z → Dm G z x := fun x z hx hu => dm_iff.2 ⟨pth_of_rc ((hP.mem x).1 hx), fun π hp => key π x hp z hu⟩
  obtain ⟨d, h1, s⟩ := hfix y hy h0
  have hdm : d ∈ postL G := h.some' s.dn
  refine ⟨d, h1, fun e => by subst e; have := s.lt; omega, hup y d hy (.step h0 h1 (.refl _)), fun z hz hd => ?_⟩
  cases h.dom y z (hall y hy) hd with
  | refl => exact absurd rfl hz
  | step _ e h2 => rw [h1] at e; cases e; exact hup d z hdm h2
end
end Go.PL
