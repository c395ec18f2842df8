/- The postorder and forward ways: a way that does not lead ahead in postorder comes from a block to which forward ways lead. No program in sight. -/
import Derived.Test.YtmoooaaiohplhacPd
namespace Go.PL

/-- b stands before a in l. -/
def Bf (l : List Nat) (a b : Nat) : Prop := [b, a].Sublist l
/-- Ways each of which leads ahead in l. -/
inductive Dp (G : Graph) (l : List Nat) : Nat → Nat → Prop
  | refl (x : Nat) : Dp G l x x
  | step {x y z : Nat} : Dp G l x y → Ed G y z → Bf l y z → Dp G l x z
section
variable {G : Graph} {l l' : List Nat}
theorem Dp.mono (h : List.Sublist l l') {x y : Nat} (d : Dp G l x y) : Dp G l' x y := by
  induction d with
  | refl => exact .refl _
  | step _ e b ih => exact .step ih e (b.trans h)
structure DInv2 (G : Graph) (s : DS) : Prop where
  chain : s.stk.Pairwise fun p q => Dp G s.all q.1 p.1
  edge : ∀ i, i < s.ord.length → ∀ y, Ed G s.ord[i]! y → (∃ j, j < i ∧ s.ord[j]! = y) ∨ Dp G s.all y s.ord[i]!
theorem dinv2_init : DInv2 G dinit := ⟨by simp [dinit], fun i hi => by simp [dinit] at hi⟩
theorem DInv2.step {s : DS} (h0 : DInv G s) (h : DInv2 G s) : DInv2 G (dstep G s) := by
  obtain ⟨stk, ord⟩ := s
  cases stk with
  | nil => exact h
  | cons p rest =>
    obtain ⟨b, i⟩ := p
    have hb : b < G.length := h0.lt b (by simp [DS.all])
    have hc := List.pairwise_cons.1 h.chain
    by_cases hi : i < G[b]!.length
    · by_cases hm : G[b]![i]! ∈ (⟨(b, i) :: rest, ord⟩ : DS).all
      · rw [dstep_inc rfl hi hm]
        exact ⟨List.pairwise_cons.2 hc, h.edge⟩
      · rw [dstep_push rfl hi hm]
        have hsub : List.Sublist (⟨(b, i) :: rest, ord⟩ : DS).all (⟨(G[b]![i]!, 0) :: (b, i + 1) :: rest, ord⟩ : DS).all :=
          List.Sublist.append (List.Sublist.refl _) (List.Sublist.cons _ (List.Sublist.refl _))
        have hbf : Bf (⟨(G[b]![i]!, 0) :: (b, i + 1) :: rest, ord⟩ : DS).all b G[b]![i]! :=
          List.Sublist.trans (List.Sublist.cons_cons _ (List.Sublist.cons_cons _ (List.nil_sublist _))) (List.sublist_append_right _ _)
        have hed : Ed G b G[b]![i]! := Ed.get hb hi
        refine ⟨?_, fun k hk y e => ?_⟩
        · rw [List.pairwise_cons, List.pairwise_cons]
          refine ⟨fun q hq => ?_, fun q hq => (hc.1 q hq).mono hsub, hc.2.imp fun hd => hd.mono hsub⟩
          rcases List.mem_cons.1 hq with rfl | hq
          · exact .step (.refl _) hed hbf
          · exact .step ((hc.1 q hq).mono hsub) hed hbf
        · rcases h.edge k hk y e with h1 | h1
          · exact .inl h1
          · exact .inr (h1.mono hsub)
    · rw [dstep_pop rfl hi]
      have hall : (⟨rest, ord ++ [b]⟩ : DS).all = (⟨(b, i) :: rest, ord⟩ : DS).all := by simp [DS.all]
      refine ⟨by rw [hall]; exact hc.2, fun k hk y e => ?_⟩
      rw [hall]
      simp only [List.length_append, List.length_singleton] at hk
      rcases Nat.lt_or_ge k ord.length with h1 | h1
      · rw [get!_append_left h1] at e ⊢
        rcases h.edge k h1 y e with ⟨j, hj, h2⟩ | h2
        · exact .inl ⟨j, hj, by rw [get!_append_left (Nat.lt_trans hj h1)]; exact h2⟩
        · exact .inr h2
      · obtain rfl : k = ord.length := by omega
        rw [get!_append_len] at e ⊢
        have hy : y ∈ (⟨(b, i) :: rest, ord⟩ : DS).all := by
          obtain ⟨j, hj, rfl⟩ := e.idx
          have h2 := h0.idx (b, i) (by simp)
          exact h2.2 j (by have := h2.1; simp at this ⊢; omega)
        simp only [DS.all, List.map_cons, List.mem_append, List.mem_cons, List.mem_map] at hy
        rcases hy with hy | rfl | ⟨q, hq, rfl⟩
        · left
          obtain ⟨j, hj, rfl⟩ := List.mem_iff_getElem.1 hy
          exact ⟨j, hj, by rw [get!_append_left hj]; exact getElem!_pos ord j hj⟩
        · exact .inr (.refl _)
        · exact .inr (hc.1 q hq)
theorem dinv2_it (hg : Gd G) : ∀ t, DInv2 G (dit G t)
  | 0 => dinv2_init
  | t + 1 => (dinv2_it hg t).step (dinv_it hg t)
theorem idx_ne {x a : Nat} {l : List Nat} (h : x ≠ a) : (x :: l).idxOf a = l.idxOf a + 1 := by
  rw [List.idxOf_cons, show (x == a) = false by simpa using h]; rfl
theorem bf_idx : ∀ {l : List Nat} {a b : Nat}, l.Nodup → Bf l a b → l.idxOf b < l.idxOf a
  | [], a, b, _, h => by cases h
  | x :: l, a, b, hn, h => by
    have hn' := List.nodup_cons.1 hn
    cases h with
    | cons _ h =>
      have hb : b ∈ l := h.subset (by simp)
      have ha : a ∈ l := h.subset (by simp)
      have hxb : x ≠ b := fun e => hn'.1 (e ▸ hb)
      have hxa : x ≠ a := fun e => hn'.1 (e ▸ ha)
      have := bf_idx hn'.2 h
      rw [idx_ne hxb, idx_ne hxa]; omega
    | cons_cons _ h =>
      have ha : a ∈ l := h.subset (by simp)
      have hxa : x ≠ a := fun e => hn'.1 (e ▸ ha)
      rw [List.idxOf_cons_self, idx_ne hxa]; omega
/-- A forward way. -/
def FE (G : Graph) (a b : Nat) : Prop := Ed G a b ∧ ¬ Dm G b a
inductive FR (G : Graph) : Nat → Nat → Prop
  | refl (x : Nat) : FR G x x
  | step {x y z : Nat} : FR G x y → FE G y z → FR G x z
theorem FR.trans {x y z : Nat} (h : FR G x y) (h' : FR G y z) : FR G x z := by
  induction h' with
  | refl => exact h
  | step _ e ih => exact .step ih e
theorem FR.head {x y z : Nat} (e : FE G x y) (h : FR G y z) : FR G x z := FR.trans (.step (.refl _) e) h
theorem FR.cases' {x z : Nat} (h : FR G x z) : x = z ∨ ∃ y, FE G x y ∧ FR G y z := by
  induction h with
  | refl => exact .inl rfl
  | step _ e ih =>
    right
    rcases ih with rfl | ⟨y, h1, h2⟩
    · exact ⟨_, e, .refl _⟩
    · exact ⟨y, h1, .step h2 e⟩
/-- A way from the first block all blocks of which stand behind y in postorder. -/
theorem pth_behind (hg : Gd G) {y : Nat} (hy : y ∈ postL G) : ∃ π, Pth G π y ∧ ∀ u ∈ π, ps G y ≤ ps G u := by
  generalize hm : (postL G).length - ps G y = m
  induction m using Nat.strongRecOn generalizing y with
  | _ m ih =>
    by_cases h0 : y = 0
    · subst h0; exact ⟨[0], .nil, fun u hu => by rw [List.mem_singleton.1 hu]; exact Nat.le_refl _⟩
    · obtain ⟨q, e, hq, hlt⟩ := ps_par hg hy h0
      have := ps_lt hq
      obtain ⟨π, h1, h2⟩ := ih ((postL G).length - ps G q) (by omega) hq rfl
      refine ⟨_, .step h1 e, fun u hu => ?_⟩
      rcases List.mem_cons.1 hu with rfl | hu
      · exact Nat.le_refl _
      · have := h2 u hu; omega
theorem dm_ps (hg : Gd G) {x y : Nat} (h : Dm G x y) : ps G y ≤ ps G x := by
  obtain ⟨π, h1, h2⟩ := pth_behind hg (((postL_ok hg).mem y).2 h.rc)
  exact h2 x ((dm_iff.1 h).2 π h1)
theorem fe_of_ps (hg : Gd G) {a b : Nat} (e : Ed G a b) (h : ps G b < ps G a) : FE G a b := ⟨e, fun hd => by have := dm_ps hg hd; omega⟩
theorem Dp.fr (hg : Gd G) {x y : Nat} (h : Dp G (postL G) x y) : FR G x y := by
  induction h with
  | refl => exact .refl _
  | step _ e b ih => exact .step ih (fe_of_ps hg e (bf_idx (postL_ok hg).nd b))
/-- A way that does not lead ahead: forward ways lead back. -/
theorem retreat (hg : Gd G) {a b : Nat} (e : Ed G a b) (ha : a ∈ postL G) (h : ¬ ps G b < ps G a) : FR G b a := by
  have h1 := (dinv2_it hg 66).edge (ps G a) (ps_lt ha) b
  have hall : (dit G 66).all = postL G := by simp [DS.all, dit_end hg, postL]
  have hg1 : (dit G 66).ord[ps G a]! = a := ps_get ha
  rw [hall, hg1] at h1
  rcases h1 e with ⟨j, hj, h2⟩ | h2
  · have := ps_of hg (i := j) (Nat.lt_trans hj (ps_lt ha))
    have h3 : (postL G)[j]! = b := h2
    rw [h3] at this; omega
  · exact h2.fr hg
/-- Each circle has a way back. -/
def Red (G : Graph) : Prop := ∀ x y, FE G x y → ¬ FR G y x
theorem Red.fe_ps (hr : Red G) (hg : Gd G) {a b : Nat} (e : FE G a b) (ha : a ∈ postL G) : ps G b < ps G a := by
  by_cases h : ps G b < ps G a
  · exact h
  · exact absurd (retreat hg e.1 ha h) (hr a b e)
theorem red_of (hg : Gd G) (hw : ∀ x, x < G.length → Rc G 0 x) (h : ∀ a b, Ed G a b → ¬ Dm G b a → ps G b < ps G a) : Red G := by
  have key : ∀ {x y}, FR G x y → ps G y ≤ ps G x := by
    intro x y h1
    induction h1 with
    | refl => exact Nat.le_refl _
    | step _ e ih => have := h _ _ e.1 e.2; omega
  intro x y e h1
  have := h _ _ e.1 e.2
  have := key h1
  omega
end
end Go.PL
