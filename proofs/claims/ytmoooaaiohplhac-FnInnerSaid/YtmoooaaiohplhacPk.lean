/- Loops by their definition; what forward ways tell of them. No program in sight. -/
import Derived.Test.YtmoooaaiohplhacPj
import Derived.Test.YtmoooaaiohplhacPh
namespace Go.PL
set_option linter.unusedVariables false

/-- There is a way back to h. -/
def Hdr (G : Graph) (h : Nat) : Prop := ∃ x, Ed G x h ∧ Dm G h x
/-- x is in the loop of h. -/
inductive Lp (G : Graph) (h : Nat) : Nat → Prop
  | head : Hdr G h → Lp G h h
  | back {x : Nat} : Ed G x h → Dm G h x → Lp G h x
  | step {x y : Nat} : Ed G x y → y ≠ h → Lp G h y → Rc G 0 x → Lp G h x
/-- Forward ways lead from y to a way back to h. -/
def Dd (G : Graph) (h y : Nat) : Prop := Dm G h y ∧ ∃ u, FR G y u ∧ Ed G u h ∧ Dm G h u

section
variable {G : Graph} {h s x y z : Nat}
theorem Hdr.rc (e : Hdr G h) : Rc G 0 h := by obtain ⟨x, _, hd⟩ := e; exact hd.rcl
theorem Lp.hdr (l : Lp G h x) : Hdr G h := by
  induction l with
  | head e => exact e
  | back e d => exact ⟨_, e, d⟩
  | step _ _ _ _ ih => exact ih
theorem Lp.dm (l : Lp G h x) : Dm G h x := by
  induction l with
  | head e => exact dm_refl e.rc
  | back _ d => exact d
  | step e hne _ hr ih => exact ih.pred (fun e => hne e.symm) e hr
theorem Lp.trans (l : Lp G s y) (l' : Lp G h s) : Lp G h y := by
  by_cases e : h = s
  · subst e; exact l
  · induction l with
    | head _ => exact l'
    | back ed d => exact .step ed (fun e2 => e e2.symm) l' d.rc
    | step ed hne l2 hr ih =>
      refine .step ed (fun e2 => ?_) ih hr
      subst e2
      exact e (Dm.antisymm l'.dm l2.dm)
theorem fr_of_dm (hg : Gd G) (hd : Dm G h y) : FR G h y := by
  have key : ∀ m y, y ∈ postL G → (postL G).length - ps G y = m → ∃ π, Pth G π y ∧ ∀ u ∈ π, FR G u y := by
    intro m
    induction m using Nat.strongRecOn with
    | _ m ih =>
      intro y hy hm
      by_cases h0 : y = 0
      · subst h0; exact ⟨[0], .nil, fun u hu => by rw [List.mem_singleton.1 hu]; exact .refl _⟩
      · obtain ⟨q, e, hq, hlt⟩ := ps_par hg hy h0
        have := ps_lt hq
        obtain ⟨π, h1, h2⟩ := ih ((postL G).length - ps G q) (by omega) q hq rfl
        refine ⟨_, .step h1 e, fun u hu => ?_⟩
        rcases List.mem_cons.1 hu with rfl | hu
        · exact .refl _
        · exact .step (h2 u hu) (fe_of_ps hg e hlt)
  obtain ⟨π, h1, h2⟩ := key _ y (((postL_ok hg).mem y).2 hd.rc) rfl
  exact h2 h ((dm_iff.1 hd).2 π h1)
theorem FR.rc (r : FR G x y) (hx : Rc G 0 x) : Rc G 0 y := by
  induction r with
  | refl => exact hx
  | step _ e ih => exact Rc.step ih e.1
/-- Forward ways to a block that h dominates: all dominated by h, or they come to h. -/
theorem fr_region (r : FR G x y) (hx : Rc G 0 x) (hd : Dm G h y) : Dm G h x ∨ FR G x h := by
  induction r with
  | refl => exact .inl hd
  | step r e ih =>
    rename_i y z
    by_cases e2 : h = z
    · subst e2; exact .inr (.step r e)
    · exact ih (hd.pred e2 e.1 (r.rc hx))
/-- The first way. -/
theorem dd_next (hr : Red G) (hg : Gd G) (hd : Dm G h y) (e : FE G y z) {u : Nat} (r : FR G z u) (hu : Dm G h u) : Dm G h z ∧ z ≠ h := by
  have hz : Rc G 0 z := Rc.step hd.rc e.1
  refine ⟨?_, fun e2 => e.2 (by rw [e2]; exact hd)⟩
  rcases fr_region r hz hu with h1 | h1
  · exact h1
  · exact absurd (h1.trans (fr_of_dm hg hd)) (hr y z e)
theorem Dd.lp (hr : Red G) (hg : Gd G) (d : Dd G h y) : Lp G h y := by
  obtain ⟨hd, u, r, eu, hu⟩ := d
  generalize hm : ps G y = m
  induction m using Nat.strongRecOn generalizing y with
  | _ m ih =>
    rcases r.cases' with rfl | ⟨z, e, r2⟩
    · exact .back eu hu
    · obtain ⟨h1, h2⟩ := dd_next hr hg hd e r2 hu
      have hlt := hr.fe_ps hg e (((postL_ok hg).mem y).2 hd.rc)
      exact .step e.1 h2 (ih _ (by rw [← hm]; exact hlt) h1 r2 rfl) hd.rc
theorem Hdr.dd (hg : Gd G) (e : Hdr G h) : Dd G h h := by
  have hrc := e.rc
  obtain ⟨u, eu, hu⟩ := e
  exact ⟨dm_refl hrc, u, fr_of_dm hg hu, eu, hu⟩
/-- What contributes: one way out of y. -/
theorem Dd.cases (hr : Red G) (hg : Gd G) (d : Dd G h y) : Ed G y h ∨ ∃ z, FE G y z ∧ Dd G h z := by
  obtain ⟨hd, u, r, eu, hu⟩ := d
  rcases r.cases' with rfl | ⟨z, e, r2⟩
  · exact .inl eu
  · exact .inr ⟨z, e, (dd_next hr hg hd e r2 hu).1, u, r2, eu, hu⟩
/-- From way back to way back. -/
inductive Cl (G : Graph) (h : Nat) : Nat → Prop
  | one {y : Nat} : Dd G h y → Cl G h y
  | up {s y : Nat} : Dd G s y → Cl G h s → Cl G h y
theorem Lp.cl (hg : Gd G) (l : Lp G h y) : Cl G h y := by
  induction l with
  | head e => exact .one (e.dd hg)
  | back e d => exact .one ⟨d, _, .refl _, e, d⟩
  | step e hne l2 hrx ih =>
    rename_i x z
    have hdx : Dm G h x := l2.dm.pred (fun e => hne e.symm) e hrx
    by_cases hb : Dm G z x
    · exact .up ⟨hb, x, .refl _, e, hb⟩ ih
    · have hfe : FE G x z := ⟨e, hb⟩
      clear hne l2
      generalize hz : z = q at ih
      induction ih with
      | one d =>
        subst hz
        obtain ⟨_, u, r, eu, hu⟩ := d
        exact .one ⟨hdx, u, FR.head hfe r, eu, hu⟩
      | up d c ih2 =>
        subst hz
        rename_i s
        by_cases hs : Dm G s x
        · obtain ⟨_, u, r, eu, hu⟩ := d
          exact .up ⟨hs, u, FR.head hfe r, eu, hu⟩ c
        · have hzs : z = s := by
            by_cases e2 : s = z
            · exact e2.symm
            · exact absurd (d.1.pred e2 e hrx) hs
          exact ih2 hzs
/-- Two loops around a block: the inner header is in the outer loop. -/
theorem lp_nest (hg : Gd G) (l : Lp G h y) (hs : Dm G s y) (hd : Dm G h s) (hne : h ≠ s) : Lp G h s := by
  have r := fr_of_dm hg hs
  induction r with
  | refl => exact l
  | step r e ih =>
    rename_i b z
    by_cases e2 : s = z
    · subst e2; exact l
    · have hsb : Dm G s b := hs.pred e2 e.1 (r.rc hs.rcl)
      refine ih (.step e.1 (fun e3 => ?_) l hsb.rc) hsb
      subst e3
      exact hne (Dm.antisymm hd hs)
theorem drk_dm (hg : Gd G) (hd : Dm G h s) (hne : h ≠ s) : drk G h < drk G s := by
  unfold drk
  refine countP_lt (fun z _ hz => ?_) ⟨h, by simpa using (hd.lt hg).1, ?_, by simp⟩
  · have hz := @of_decide_eq_true _ (Classical.propDecidable _) hz
    refine @decide_eq_true _ (Classical.propDecidable _) ⟨fun e => ?_, hz.2.trans hd⟩
    subst e
    exact hne (Dm.antisymm hd hz.2)
  · exact @decide_eq_true _ (Classical.propDecidable _) ⟨hne, hd⟩
end

/-! ### The nest: loops named by their headers, O tells the loop around -/
/-- What may stand around what. -/
structure Phi (G : Graph) (φ : Nat → Nat → Prop) : Prop where
  ne : ∀ h s, φ h s → h ≠ s
  dm : ∀ h s, φ h s → Dm G h s
  nest : ∀ h o s, φ h s → φ o s → h ≠ o → Dm G h o → φ h o
/-- The loops made so far, and what stands around them. -/
structure OI (φ : Nat → Nat → Prop) (hs : List Nat) (O : Nat → Option Nat) : Prop where
  ok : ∀ s h, O s = some h → s ∈ hs ∧ h ∈ hs ∧ φ h s
def ost (O : Nat → Option Nat) (i o : Nat) : Nat → Option Nat := fun s => if s = i then some o else O s
theorem ost_same (O : Nat → Option Nat) (i o : Nat) : ost O i o i = some o := by simp [ost]
theorem ost_ne (O : Nat → Option Nat) {i s : Nat} (o : Nat) (h : s ≠ i) : ost O i o s = O s := by simp [ost, h]
section
variable {G : Graph} {φ : Nat → Nat → Prop} {hs : List Nat} {O O' : Nat → Option Nat}
theorem OI.rank (hg : Gd G) (hφ : Phi G φ) (h : OI φ hs O) (y p : Nat) (e : O y = some p) : drk G p < drk G y := by
  have := (h.ok y p e).2.2; exact drk_dm hg (hφ.dm _ _ this) (hφ.ne _ _ this)
theorem OI.dm (hφ : Phi G φ) (h : OI φ hs O) {a b : Nat} (ha : Abv O a b) (hb : Rc G 0 b) : Dm G a b := by
  induction ha with
  | refl => exact dm_refl hb
  | step e _ ih =>
    have hd := hφ.dm _ _ (h.ok _ _ e).2.2
    exact (ih hd.rcl).trans hd
theorem OI.mem (h : OI φ hs O) {a b : Nat} (ha : Abv O a b) (hb : b ∈ hs) : a ∈ hs := by
  induction ha with
  | refl => exact hb
  | step e _ ih => exact ih (h.ok _ _ e).2.1
/-- All that stands around s may stand around it. -/
theorem OI.phi (h : OI φ hs O) (htr : ∀ a b c, φ a b → φ b c → φ a c) {a b : Nat} (ha : Abv O a b) : a = b ∨ φ a b := by
  induction ha with
  | refl => exact .inl rfl
  | step e _ ih =>
    right
    have h1 := (h.ok _ _ e).2.2
    rcases ih with rfl | h2
    · exact h1
    · exact htr _ _ _ h2 h1
/-- What outerinner(ou, inn) leaves. -/
structure OuterOK (G : Graph) (φ : Nat → Nat → Prop) (hs : List Nat) (O O' : Nat → Option Nat) (ou inn : Nat) : Prop where
  oi : OI φ hs O'
  mono : ∀ a b, Abv O a b → Abv O' a b
  abv : Abv O' ou inn
  frame : ∀ s, ¬ Dm G s inn → O' s = O s
theorem OuterOK.refl (h : OI φ hs O) {ou inn : Nat} (ha : Abv O ou inn) : OuterOK G φ hs O O ou inn := ⟨h, fun _ _ h => h, ha, fun _ _ => rfl⟩
/-- The last link set, with nothing behind it. -/
theorem OuterOK.link0 (hg : Gd G) (hφ : Phi G φ) (h : OI φ hs O) {ou inn i : Nat} (hi : Abv O i inn) (hil : Rc G 0 inn) (hn : O i = none) (his : i ∈ hs) (hos : ou ∈ hs) (hp : φ ou i) : OuterOK G φ hs O (ost O i ou) ou inn := by
  have hmono : ∀ a b, Abv O a b → Abv (ost O i ou) a b := by
    intro a b ha
    induction ha with
    | refl => exact .refl _
    | step e _ ih => exact .step (by rw [ost_ne _ _ (fun e2 => by subst e2; rw [hn] at e; cases e)]; exact e) ih
  refine ⟨⟨fun s h2 e => ?_⟩, hmono, Abv.trans (.step (ost_same _ _ _) (.refl _)) (hmono _ _ hi), fun s hs2 => ?_⟩
  · by_cases e2 : s = i
    · subst e2; rw [ost_same] at e; cases e; exact ⟨his, hos, hp⟩
    · rw [ost_ne _ _ e2] at e; exact h.ok s h2 e
  · exact ost_ne _ _ (fun e => by subst e; exact hs2 (h.dm hφ hi hil))
/-- The last link set, behind the recursion. -/
theorem OuterOK.link1 (hg : Gd G) (hφ : Phi G φ) (h : OI φ hs O) {ou inn i oo : Nat} {O1 : Nat → Option Nat} (hi : Abv O i inn) (hil : Rc G 0 inn) (hn : O i = some oo) (hos : ou ∈ hs) (hp : φ ou i) (r : OuterOK G φ hs O O1 oo ou) : OuterOK G φ hs O (ost O1 i ou) ou inn := by
  have hdi : Dm G ou i := hφ.dm _ _ hp
  have hii : ¬ Dm G i ou := fun h2 => hφ.ne _ _ hp (Dm.antisymm hdi h2)
  have hO1i : O1 i = some oo := by rw [r.frame i hii, hn]
  have hup : ∀ a b, Abv O1 a b → Dm G b ou → Abv (ost O1 i ou) a b := by
    intro a b ha
    induction ha with
    | refl => intro _; exact .refl _
    | step e _ ih =>
      rename_i p y _
      intro hd
      have hne : y ≠ i := fun e2 => by subst e2; exact hii hd
      refine .step (by rw [ost_ne _ _ hne]; exact e) (ih ((hφ.dm _ _ (r.oi.ok _ _ e).2.2).trans hd))
  have hoo : Abv (ost O1 i ou) oo ou := hup _ _ r.abv (dm_refl hdi.rcl)
  have hoi : Abv (ost O1 i ou) ou i := .step (ost_same _ _ _) (.refl _)
  have hmono1 : ∀ a b, Abv O1 a b → Abv (ost O1 i ou) a b := by
    intro a b ha
    induction ha with
    | refl => exact .refl _
    | step e _ ih =>
      rename_i p y _
      by_cases e2 : y = i
      · subst e2
        rw [hO1i] at e; cases e
        exact ih.trans (hoo.trans hoi)
      · exact .step (by rw [ost_ne _ _ e2]; exact e) ih
  refine ⟨⟨fun s h2 e => ?_⟩, fun a b ha => hmono1 _ _ (r.mono a b ha), hoi.trans (hmono1 _ _ (r.mono _ _ hi)), fun s hs2 => ?_⟩
  · by_cases e2 : s = i
    · subst e2; rw [ost_same] at e; cases e; exact ⟨(h.ok _ _ hn).1, hos, hp⟩
    · rw [ost_ne _ _ e2] at e; exact r.oi.ok s h2 e
  · have hdi2 : Dm G i inn := h.dm hφ hi hil
    rw [ost_ne _ _ (fun e => by subst e; exact hs2 hdi2)]
    exact r.frame s (fun h2 => hs2 (h2.trans (hdi.trans hdi2)))
end
end Go.PL
