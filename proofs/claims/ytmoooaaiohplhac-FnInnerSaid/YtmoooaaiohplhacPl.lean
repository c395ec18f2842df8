/- The nest of loops as loopnestfor finds it, step by step. No program in sight. -/
import Derived.Test.YtmoooaaiohplhacPk
import Derived.Test.YtmoooaaiohplhacPi
namespace Go.PL
set_option linter.unusedVariables false

/-- What may stand around what, here. -/
def phi (G : Graph) (h s : Nat) : Prop := h ≠ s ∧ Dm G h s ∧ (Red G → Lp G h s)
theorem phi_ok {G : Graph} (hg : Gd G) : Phi G (phi G) :=
  ⟨fun h s p => p.1, fun h s p => p.2.1, fun h o s p q hne hd => ⟨hne, hd, fun hr => lp_nest hg (p.2.2 hr) q.2.1 hd hne⟩⟩
theorem phi_trans {G : Graph} (a b c : Nat) (p : phi G a b) (q : phi G b c) : phi G a c :=
  ⟨fun e => by subst e; exact p.1 (Dm.antisymm p.2.1 q.2.1), p.2.1.trans q.2.1, fun hr => (q.2.2 hr).trans (p.2.2 hr)⟩
def bset (B : Nat → Option Nat) (y s : Nat) : Nat → Option Nat := fun x => if x = y then some s else B x
theorem bset_same (B : Nat → Option Nat) (y s : Nat) : bset B y s y = some s := by simp [bset]
theorem bset_ne (B : Nat → Option Nat) {y x : Nat} (s : Nat) (h : x ≠ y) : bset B y s x = B x := by simp [bset, h]
/-- What holds when k blocks of the postorder are done. -/
structure LI (G : Graph) (k : Nat) (hs : List Nat) (O B : Nat → Option Nat) : Prop where
  nd : hs.Nodup
  hdr : ∀ h ∈ hs, Hdr G h
  oi : OI (phi G) hs O
  bm : ∀ y s, B y = some s → s ∈ hs
  un : ∀ y, y < G.length → k ≤ ps G y → (B y = none ∧ y ∉ hs) ∨ (B y = some y ∧ y ∈ hs)
  bl : Red G → ∀ y s, B y = some s → Lp G s y
  c2 : Red G → ∀ y, y ∈ postL G → ps G y < k → ∀ h, Dd G h y → ∃ s, B y = some s ∧ Abv O h s
/-- The way from b to z tells that b is in the loop of h. -/
def Contr (G : Graph) (h b z : Nat) : Prop := (z = h ∧ Dm G h b) ∨ (FE G b z ∧ Dd G h z ∧ Dm G h b)
/-- What holds of the innermost loop behind j ways out of b. -/
structure IL (G : Graph) (b j : Nat) (hs : List Nat) (O : Nat → Option Nat) (i : Option Nat) : Prop where
  im : ∀ s, i = some s → s ∈ hs ∧ (Red G → Lp G s b)
  ic : Red G → ∀ q, q < j → ∀ h, Contr G h b G[b]![q]! → ∃ s, i = some s ∧ Abv O h s
/-- What one way tells. -/
structure LL (G : Graph) (b z : Nat) (hs : List Nat) (O : Nat → Option Nat) (l : Option Nat) : Prop where
  lm : ∀ o, l = some o → o ∈ hs ∧ (Red G → Lp G o b)
  lc : Red G → ∀ h, Contr G h b z → ∃ o, l = some o ∧ Abv O h o
section
variable {G : Graph} {k b z j : Nat} {hs : List Nat} {O O' B : Nat → Option Nat} {i l : Option Nat}
theorem LI.live (h : LI G k hs O B) : ∀ x ∈ hs, Rc G 0 x := fun x hx => (h.hdr x hx).rc
theorem li_init (hg : Gd G) : LI G 0 [] (fun _ => none) (fun _ => none) :=
  ⟨by simp, by simp, ⟨fun s h e => (by cases e)⟩, fun y s e => (by cases e), fun y _ _ => .inl ⟨rfl, by simp⟩, fun _ y s e => (by cases e), fun _ y _ h => absurd h (Nat.not_lt_zero _)⟩
theorem il_init (b : Nat) (hs : List Nat) (O : Nat → Option Nat) : IL G b 0 hs O none := ⟨fun s e => (by cases e), fun _ q hq => absurd hq (Nat.not_lt_zero _)⟩
theorem OI.more {φ : Nat → Nat → Prop} (h : OI φ hs O) (z : Nat) : OI φ (hs ++ [z]) O :=
  ⟨fun s p e => ⟨List.mem_append_left _ (h.ok s p e).1, List.mem_append_left _ (h.ok s p e).2.1, (h.ok s p e).2.2⟩⟩
/-- A loop more. -/
theorem LI.make (hg : Gd G) (h : LI G k hs O B) (e : Ed G b z) (hd : Dm G z b) (hb : k ≤ ps G b) (hn : B z = none) : LI G k (hs ++ [z]) O (bset B z z) ∧ z ∉ hs := by
  have hk : k ≤ ps G z := Nat.le_trans hb (dm_ps hg hd)
  have hz := (hd.lt hg).1
  have hzn : z ∉ hs := by
    rcases h.un z hz hk with h1 | h1
    · exact h1.2
    · rw [hn] at h1; cases h1.1
  refine ⟨⟨?_, ?_, h.oi.more z, ?_, ?_, ?_, ?_⟩, hzn⟩
  · rw [List.nodup_append]; exact ⟨h.nd, by simp, fun a ha c hc e => by rw [List.mem_singleton.1 hc] at e; subst e; exact hzn ha⟩
  · intro x hx
    rcases List.mem_append.1 hx with hx | hx
    · exact h.hdr x hx
    · rw [List.mem_singleton.1 hx]; exact ⟨b, e, hd⟩
  · intro y s he
    by_cases e2 : y = z
    · subst e2; rw [bset_same] at he; cases he; simp
    · rw [bset_ne _ _ e2] at he; exact List.mem_append_left _ (h.bm y s he)
  · intro y hy hky
    by_cases e2 : y = z
    · subst e2; rw [bset_same]; exact .inr ⟨rfl, by simp⟩
    · rw [bset_ne _ _ e2]
      rcases h.un y hy hky with h1 | h1
      · exact .inl ⟨h1.1, by simp [h1.2, e2]⟩
      · exact .inr ⟨h1.1, by simp [h1.2]⟩
  · intro hr y s he
    by_cases e2 : y = z
    · subst e2; rw [bset_same] at he; cases he; exact .head ⟨b, e, hd⟩
    · rw [bset_ne _ _ e2] at he; exact h.bl hr y s he
  · intro hr y hy hlt p hp
    have e2 : y ≠ z := fun e => by subst e; omega
    rw [bset_ne _ _ e2]; exact h.c2 hr y hy hlt p hp
theorem IL.more (h : IL G b j hs O i) (z : Nat) : IL G b j (hs ++ [z]) O i := ⟨fun s e => ⟨List.mem_append_left _ (h.im s e).1, (h.im s e).2⟩, h.ic⟩
/-- A way back. -/
theorem ll_back (e : Ed G b z) (hd : Dm G z b) (hz : z ∈ hs) : LL G b z hs O (some z) := by
  refine ⟨fun o ho => by cases ho; exact ⟨hz, fun _ => .back e hd⟩, fun _ h c => ?_⟩
  rcases c with ⟨rfl, _⟩ | ⟨hf, _⟩
  · exact ⟨z, rfl, .refl _⟩
  · exact absurd hd hf.2
/-- A way that tells of a circle without a way back. -/
theorem not_red (hg : Gd G) (hb : b ∈ postL G) (e : Ed G b z) (hd : ¬ Dm G z b) (hv : ¬ ps G z < ps G b) : ¬ Red G := fun hr => hv (hr.fe_ps hg ⟨e, hd⟩ hb)
theorem ll_bad (hn : ¬ Red G) (hbm : ∀ o, l = some o → o ∈ hs) : LL G b z hs O l := ⟨fun o ho => ⟨hbm o ho, fun hr => absurd hr hn⟩, fun hr => absurd hr hn⟩
theorem ll_none (h : LI G k hs O B) (hb : b ∈ postL G) (hbk : ps G b = k) (e : Ed G b z) (hd : ¬ Dm G z b) (hz : z ∈ postL G) (hv : ps G z < k) (hn : B z = none) : LL G b z hs O none := by
  refine ⟨fun o ho => (by cases ho), fun hr p c => ?_⟩
  rcases c with ⟨rfl, hdp⟩ | ⟨_, hdd, _⟩
  · exact absurd hdp hd
  · obtain ⟨s, h1, _⟩ := h.c2 hr z hz hv p hdd
    rw [hn] at h1; cases h1
theorem lp_step (h : LI G k hs O B) (hb : b ∈ postL G) (hbk : ps G b = k) (e : Ed G b z) (hd : ¬ Dm G z b) (hz : z ∈ postL G) (hv : ps G z < k) (hg : Gd G) (hr : Red G) {q : Nat} (hl : Lp G q z) (hq : Dm G q b) : Lp G q b := .step e (fun e2 => by subst e2; exact hd hq) hl (((postL_ok hg).mem b).1 hb)
theorem ll_same (h : LI G k hs O B) (hb : b ∈ postL G) (hbk : ps G b = k) (e : Ed G b z) (hd : ¬ Dm G z b) (hz : z ∈ postL G) (hv : ps G z < k) (hg : Gd G) {s : Nat} (hs2 : B z = some s) (hds : Dm G s b) : LL G b z hs O (some s) := by
  refine ⟨fun o ho => by cases ho; exact ⟨h.bm z _ hs2, fun hr => lp_step h hb hbk e hd hz hv hg hr (h.bl hr z _ hs2) hds⟩, fun hr p c => ?_⟩
  rcases c with ⟨rfl, hdp⟩ | ⟨_, hdd, _⟩
  · exact absurd hdp hd
  · obtain ⟨s', h1, h2⟩ := h.c2 hr z hz hv p hdd
    rw [hs2] at h1; cases h1
    exact ⟨s, rfl, h2⟩
theorem ll_near (h : LI G k hs O B) (hb : b ∈ postL G) (hbk : ps G b = k) (e : Ed G b z) (hd : ¬ Dm G z b) (hz : z ∈ postL G) (hv : ps G z < k) (hg : Gd G) {s : Nat} (hs2 : B z = some s) (hds : ¬ Dm G s b) (h1 : ∀ q, l = some q → Abv O q s ∧ q ≠ s ∧ Dm G q b) (h2 : ∀ q, Abv O q s → q ≠ s → Dm G q b → ∃ p, l = some p ∧ Abv O q p) : LL G b z hs O l := by
  refine ⟨fun o ho => ?_, fun hr p c => ?_⟩
  · obtain ⟨a1, a2, a3⟩ := h1 o ho
    refine ⟨h.oi.mem a1 (h.bm z s hs2), fun hr => lp_step h hb hbk e hd hz hv hg hr ((h.bl hr z s hs2).trans ?_) a3⟩
    rcases h.oi.phi phi_trans a1 with e2 | e2
    · exact absurd e2 a2
    · exact e2.2.2 hr
  · rcases c with ⟨rfl, hdp⟩ | ⟨_, hdd, hdp⟩
    · exact absurd hdp hd
    · obtain ⟨s', h3, h4⟩ := h.c2 hr z hz hv p hdd
      rw [hs2] at h3; cases h3
      exact h2 p h4 (fun e2 => by subst e2; exact hds hdp) hdp
theorem all_lt_succ {p : Nat → Prop} (h : ∀ q, q < j → p q) (hj : p j) : ∀ q, q < j + 1 → p q := fun q hq => by
  rcases Nat.lt_or_ge q j with h1 | h1
  · exact h q h1
  · obtain rfl : q = j := by omega
    exact hj
/-- The innermost loop stays. -/
theorem IL.stay (h : IL G b j hs O i) (hl : LL G b G[b]![j]! hs O l) (he : l = none ∨ i = l) : IL G b (j + 1) hs O i := by
  refine ⟨h.im, fun hr => all_lt_succ (h.ic hr) fun p c => ?_⟩
  obtain ⟨o, h1, h2⟩ := hl.lc hr p c
  rcases he with e | e
  · rw [e] at h1; cases h1
  · exact ⟨o, by rw [e]; exact h1, h2⟩
theorem IL.first (h : IL G b j hs O none) (hl : LL G b G[b]![j]! hs O l) : IL G b (j + 1) hs O l := by
  refine ⟨hl.lm, fun hr => all_lt_succ (fun q hq p c => ?_) (hl.lc hr)⟩
  obtain ⟨s, h1, _⟩ := h.ic hr q hq p c
  cases h1
theorem il_phi (hg : Gd G) {s o : Nat} (h : IL G b j hs O (some s)) (hl : LL G b z hs O (some o)) (hne : s ≠ o) (hd : Dm G s o) : phi G s o :=
  ⟨hne, hd, fun hr => lp_nest hg ((h.im s rfl).2 hr) ((hl.lm o rfl).2 hr).dm hd hne⟩
theorem il_phi' (hg : Gd G) {s o : Nat} (h : IL G b j hs O (some s)) (hl : LL G b z hs O (some o)) (hne : o ≠ s) (hd : Dm G o s) : phi G o s :=
  ⟨hne, hd, fun hr => lp_nest hg ((hl.lm o rfl).2 hr) ((h.im s rfl).2 hr).dm hd hne⟩
/-- The new one is the inner one. -/
theorem IL.inner {s o : Nat} (h : IL G b j hs O (some s)) (hl : LL G b G[b]![j]! hs O (some o)) (r : OuterOK G (phi G) hs O O' s o) : IL G b (j + 1) hs O' (some o) := by
  refine ⟨hl.lm, fun hr => all_lt_succ (fun q hq p c => ?_) fun p c => ?_⟩
  · obtain ⟨s', h1, h2⟩ := h.ic hr q hq p c
    cases h1
    exact ⟨o, rfl, (r.mono _ _ h2).trans r.abv⟩
  · obtain ⟨o', h1, h2⟩ := hl.lc hr p c
    cases h1
    exact ⟨o, rfl, r.mono _ _ h2⟩
/-- The new one is the outer one. -/
theorem IL.outer {s o : Nat} (h : IL G b j hs O (some s)) (hl : LL G b G[b]![j]! hs O (some o)) (r : OuterOK G (phi G) hs O O' o s) : IL G b (j + 1) hs O' (some s) := by
  refine ⟨h.im, fun hr => all_lt_succ (fun q hq p c => ?_) fun p c => ?_⟩
  · obtain ⟨s', h1, h2⟩ := h.ic hr q hq p c
    cases h1
    exact ⟨s, rfl, r.mono _ _ h2⟩
  · obtain ⟨o', h1, h2⟩ := hl.lc hr p c
    cases h1
    exact ⟨s, rfl, (r.mono _ _ h2).trans r.abv⟩
/-- Neither: then a circle has no way back. -/
theorem IL.apart {s o : Nat} (h : IL G b j hs O (some s)) (hl : LL G b G[b]![j]! hs O (some o)) (hne : s ≠ o) (h1 : ¬ Dm G s o) (h2 : ¬ Dm G o s) : IL G b (j + 1) hs O (some s) := by
  have hn : ¬ Red G := fun hr => by
    rcases Dm.total ((h.im s rfl).2 hr).dm ((hl.lm o rfl).2 hr).dm with h3 | h3
    · exact h1 h3
    · exact h2 h3
  exact ⟨fun q e => ⟨(h.im q e).1, fun hr => absurd hr hn⟩, fun hr => absurd hr hn⟩
theorem LI.outer (h : LI G k hs O B) {ou inn : Nat} (r : OuterOK G (phi G) hs O O' ou inn) : LI G k hs O' B :=
  ⟨h.nd, h.hdr, r.oi, h.bm, h.un, h.bl, fun hr y hy hlt p hp => by obtain ⟨s, h1, h2⟩ := h.c2 hr y hy hlt p hp; exact ⟨s, h1, r.mono _ _ h2⟩⟩
theorem il_all (hg : Gd G) (hi : IL G b G[b]!.length hs O i) (hr : Red G) {p : Nat} (hp : Dd G p b) : ∃ s, i = some s ∧ Abv O p s := by
  rcases hp.cases hr hg with e | ⟨z, hf, hdz⟩
  · obtain ⟨q, hq, e2⟩ := e.idx
    exact hi.ic hr q hq p (by rw [e2]; exact .inl ⟨rfl, hp.1⟩)
  · obtain ⟨q, hq, e2⟩ := hf.1.idx
    exact hi.ic hr q hq p (by rw [e2]; exact .inr ⟨hf, hdz, hp.1⟩)
/-- A block is done, in a loop. -/
theorem LI.done (hg : Gd G) (h : LI G k hs O B) (hb : b ∈ postL G) (hbk : ps G b = k) {s : Nat} (hi : IL G b G[b]!.length hs O (some s)) : LI G (k + 1) hs O (bset B b s) := by
  refine ⟨h.nd, h.hdr, h.oi, fun y p e => ?_, fun y hy hky => ?_, fun hr y p e => ?_, fun hr y hy hlt p hp => ?_⟩
  · by_cases e2 : y = b
    · subst e2; rw [bset_same] at e; cases e; exact (hi.im _ rfl).1
    · rw [bset_ne _ _ e2] at e; exact h.bm y p e
  · have e2 : y ≠ b := fun e => by subst e; omega
    rw [bset_ne _ _ e2]; exact h.un y hy (by omega)
  · by_cases e2 : y = b
    · subst e2; rw [bset_same] at e; cases e; exact (hi.im _ rfl).2 hr
    · rw [bset_ne _ _ e2] at e; exact h.bl hr y p e
  · by_cases e2 : y = b
    · subst e2; rw [bset_same]; exact il_all hg hi hr hp
    · rw [bset_ne _ _ e2]
      have : ps G y ≠ ps G b := fun e3 => e2 (ps_inj hy hb e3)
      exact h.c2 hr y hy (by omega) p hp
/-- A block is done, in no loop. -/
theorem LI.done0 (hg : Gd G) (h : LI G k hs O B) (hb : b ∈ postL G) (hbk : ps G b = k) (hi : IL G b G[b]!.length hs O none) : LI G (k + 1) hs O B := by
  refine ⟨h.nd, h.hdr, h.oi, h.bm, fun y hy hky => h.un y hy (by omega), h.bl, fun hr y hy hlt p hp => ?_⟩
  by_cases e2 : y = b
  · subst e2; obtain ⟨s, h1, _⟩ := il_all hg hi hr hp; cases h1
  · have : ps G y ≠ ps G b := fun e3 => e2 (ps_inj hy hb e3)
    exact h.c2 hr y hy (by omega) p hp
/-- A header is done in its own loop. -/
theorem LI.nohdr (hg : Gd G) (hr : Red G) (hi : IL G b G[b]!.length hs O none) : ¬ Hdr G b := fun hh => by
  obtain ⟨s, h1, _⟩ := il_all hg hi hr (hh.dd hg); cases h1

/-! ### The end -/
/-- The nest is that by definition. -/
structure Nest (G : Graph) (hs : List Nat) (O B : Nat → Option Nat) : Prop where
  hdr : ∀ h, h ∈ hs ↔ Hdr G h
  up : ∀ h s, s ∈ hs → (Abv O h s ↔ Lp G h s)
  inn : ∀ y s, y < G.length → B y = some s → Lp G s y ∧ ∀ h, Lp G h y → Lp G h s
  non : ∀ y, y < G.length → B y = none → ∀ h, ¬ Lp G h y
theorem LI.nest (hg : Gd G) (hw : ∀ x, x < G.length → Rc G 0 x) (hr : Red G) (h : LI G (postL G).length hs O B) : Nest G hs O B := by
  have hm := (postL_ok hg).mem
  have hc2 : ∀ y, y < G.length → ∀ p, Dd G p y → ∃ s, B y = some s ∧ Abv O p s := fun y hy p hp => h.c2 hr y ((hm y).2 (hw y hy)) (ps_lt ((hm y).2 (hw y hy))) p hp
  have hself : ∀ s, Hdr G s → B s = some s := by
    intro s hs2
    obtain ⟨q, h1, h2⟩ := hc2 s (Rch.lt hg hg.pos hs2.rc) s (hs2.dd hg)
    have h3 := h.bl hr s q h1
    have h4 := h.oi.dm (phi_ok hg) h2 (h.live q (h.bm s q h1))
    rw [h1, Dm.antisymm h4 h3.dm]
  have hcl : ∀ p y, Cl G p y → y < G.length → ∃ s, B y = some s ∧ Abv O p s := by
    intro p y c
    induction c with
    | one d => intro hy; exact hc2 _ hy _ d
    | up d c ih =>
      rename_i s y
      intro hy
      obtain ⟨q, h1, h2⟩ := hc2 y hy s d
      have hsd : Hdr G s := by obtain ⟨_, u, _, eu, hu⟩ := d; exact ⟨u, eu, hu⟩
      obtain ⟨q2, h3, h4⟩ := ih (d.1.lt hg).1
      rw [hself s hsd] at h3; cases h3
      exact ⟨q, h1, h4.trans h2⟩
  have hup : ∀ p s, s ∈ hs → Abv O p s → Lp G p s := by
    intro p s hs2 ha
    rcases h.oi.phi phi_trans ha with e | e
    · subst e; exact .head (h.hdr _ hs2)
    · exact e.2.2 hr
  refine ⟨fun p => ⟨h.hdr p, fun hp => h.bm p p (hself p hp)⟩, fun p s hs2 => ⟨hup p s hs2, fun l => ?_⟩, fun y s hy e => ⟨h.bl hr y s e, fun p l => ?_⟩, fun y hy e p l => ?_⟩
  · obtain ⟨q, h1, h2⟩ := hcl p s (l.cl hg) (l.dm.lt hg).2
    rw [hself s (h.hdr s hs2)] at h1; cases h1
    exact h2
  · obtain ⟨q, h1, h2⟩ := hcl p y (l.cl hg) hy
    rw [e] at h1; cases h1
    exact hup p _ (h.bm y _ e) h2
  · obtain ⟨q, h1, _⟩ := hcl p y (l.cl hg) hy
    rw [e] at h1; cases h1

/-! ### Depths -/
/-- How many loops stand around s, with it. -/
noncomputable def clv (O : Nat → Option Nat) (n s : Nat) : Nat := (List.range n).countP fun a => @decide (Abv O a s) (Classical.propDecidable _)
theorem countP_one {α : Type} {p q : α → Bool} {a : α} : ∀ {l : List α}, l.Nodup → a ∈ l → q a = true → p a = false → (∀ x, x ≠ a → q x = p x) → l.countP q = l.countP p + 1
  | [], _, h, _, _, _ => by cases h
  | x :: l, hn, hm, hq, hp, ho => by
    have hn' := List.nodup_cons.1 hn
    rw [List.countP_cons, List.countP_cons]
    rcases List.mem_cons.1 hm with rfl | hm
    · have e : l.countP q = l.countP p := List.countP_congr fun y hy => by rw [ho y (fun e => hn'.1 (e ▸ hy))]
      rw [e, if_pos hq, if_neg (by rw [hp]; simp)]
    · have := countP_one hn'.2 hm hq hp ho
      have e : q x = p x := ho x (fun e => hn'.1 (e ▸ hm))
      rw [this, e]; omega
theorem clv_none {n s : Nat} (hs : s < n) (h : O s = none) : clv O n s = 1 := by
  unfold clv
  have := countP_one (p := fun _ => false) (q := fun a => @decide (Abv O a s) (Classical.propDecidable _)) (a := s) (l := List.range n) List.nodup_range (by simpa using hs) (by simp; exact .refl _) rfl (fun x hx => by
    simp only [decide_eq_false_iff_not]
    intro ha
    cases ha with
    | refl => exact hx rfl
    | step e _ => rw [h] at e; cases e)
  rw [this]; simp
theorem clv_some {n s p : Nat} {r : Nat → Nat} (hr : ∀ y p, O y = some p → r p < r y) (hs : s < n) (h : O s = some p) : clv O n s = clv O n p + 1 := by
  unfold clv
  refine countP_one (a := s) List.nodup_range (by simpa using hs) (by simp; exact .refl _) ?_ (fun x hx => ?_)
  · simp only [decide_eq_false_iff_not]
    intro ha
    have := ha.rk hr
    have := hr s p h
    omega
  · refine decide_eq_decide.2 ⟨fun ha => ?_, fun ha => .step h ha⟩
    cases ha with
    | refl => exact absurd rfl hx
    | step e ha => rw [h] at e; cases e; exact ha
theorem clv_le {n s : Nat} : clv O n s ≤ n := by
  have := List.countP_le_length (p := fun a => @decide (Abv O a s) (Classical.propDecidable _)) (l := List.range n)
  rw [List.length_range] at this; exact this
theorem clv_pos {n s : Nat} (hs : s < n) : 1 ≤ clv O n s := List.countP_pos_iff.2 ⟨s, by simpa using hs, by simp; exact .refl _⟩
end
end Go.PL
