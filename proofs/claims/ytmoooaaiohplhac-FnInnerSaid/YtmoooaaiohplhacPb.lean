/- The depth-first search of postorderWithNumbering, as a plain function, and what its order is like. -/
import Derived.Test.YtmoooaaiohplhacPa
namespace Go.PL

structure DS where
  stk : List (Nat × Nat)
  ord : List Nat

def DS.all (s : DS) : List Nat := s.ord ++ s.stk.map Prod.fst

def dstep (G : Graph) (s : DS) : DS :=
  match s.stk with
  | [] => s
  | (b, i) :: rest =>
    if i < G[b]!.length then
      if G[b]![i]! ∈ s.all then ⟨(b, i + 1) :: rest, s.ord⟩ else ⟨(G[b]![i]!, 0) :: (b, i + 1) :: rest, s.ord⟩
    else ⟨rest, s.ord ++ [b]⟩

def dinit : DS := ⟨[(0, 0)], []⟩
def dit (G : Graph) : Nat → DS
  | 0 => dinit
  | t + 1 => dstep G (dit G t)
/-- The postorder. -/
def postL (G : Graph) : List Nat := (dit G 66).ord

def done (G : Graph) (s : DS) : Nat := (s.ord.map fun x => G[x]!.length + 1).sum + (s.stk.map Prod.snd).sum

abbrev Rc (G : Graph) (x y : Nat) : Prop := Rch G (-1) x y
/-- Each block of a list is the end of a way from the next one. -/
def AdjN (G : Graph) : List Nat → Prop
  | a :: b :: l => Ed G b a ∧ AdjN G (b :: l)
  | _ => True
theorem Rc.step {G : Graph} {x y z : Nat} (h : Rc G x y) (e : Ed G y z) : Rc G x z := Rch.step h e (by omega)

structure DInv (G : Graph) (s : DS) : Prop where
  nd : s.all.Nodup
  lt : ∀ x ∈ s.all, x < G.length
  rch : ∀ x ∈ s.all, Rc G 0 x
  idx : ∀ p ∈ s.stk, p.2 ≤ G[p.1]!.length ∧ ∀ j, j < p.2 → G[p.1]![j]! ∈ s.all
  chain : s.stk.Pairwise fun p q => Rc G q.1 p.1
  edge : ∀ i, i < s.ord.length → ∀ y, Ed G s.ord[i]! y → y ∈ s.all ∧ ((∃ j, j < i ∧ s.ord[j]! = y) ∨ Rc G y s.ord[i]!)
  bot : (s.stk = [] ∧ ∃ l, s.ord = l ++ [0]) ∨ ∃ l i, s.stk = l ++ [(0, i)]
  adj : AdjN G (s.stk.map Prod.fst)
  par : ∀ i, i < s.ord.length → s.ord[i]! ≠ 0 → ∃ q, Ed G q s.ord[i]! ∧ (q ∈ s.stk.map Prod.fst ∨ ∃ j, i < j ∧ j < s.ord.length ∧ s.ord[j]! = q)

theorem dinv_init {G : Graph} (hg : Gd G) : DInv G dinit := by
  refine ⟨by simp [DS.all, dinit], ?_, ?_, ?_, by simp [dinit], ?_, .inr ⟨[], 0, rfl⟩, trivial, fun i hi => by simp [dinit] at hi⟩
  · intro x hx; simp [DS.all, dinit] at hx; subst hx; exact hg.pos
  · intro x hx; simp [DS.all, dinit] at hx; subst hx; exact .refl 0
  · intro p hp; simp [dinit] at hp; subst hp; exact ⟨Nat.zero_le _, fun j hj => absurd hj (Nat.not_lt_zero _)⟩
  · intro i hi; simp [dinit] at hi

theorem get!_append_left {α : Type} [Inhabited α] {l l' : List α} {i : Nat} (h : i < l.length) : (l ++ l')[i]! = l[i]! := by
  simp [List.getElem!_eq_getElem?_getD, List.getElem?_append_left h]
theorem get!_append_len {α : Type} [Inhabited α] (l : List α) (x : α) : (l ++ [x])[l.length]! = x := by simp

theorem dstep_inc {G : Graph} {s : DS} {b i : Nat} {rest : List (Nat × Nat)} (hs : s.stk = (b, i) :: rest) (hi : i < G[b]!.length) (hm : G[b]![i]! ∈ s.all) : dstep G s = ⟨(b, i + 1) :: rest, s.ord⟩ := by
  simp only [dstep, hs]; rw [if_pos hi, if_pos hm]
theorem dstep_push {G : Graph} {s : DS} {b i : Nat} {rest : List (Nat × Nat)} (hs : s.stk = (b, i) :: rest) (hi : i < G[b]!.length) (hm : ¬ G[b]![i]! ∈ s.all) : dstep G s = ⟨(G[b]![i]!, 0) :: (b, i + 1) :: rest, s.ord⟩ := by
  simp only [dstep, hs]; rw [if_pos hi, if_neg hm]
theorem dstep_pop {G : Graph} {s : DS} {b i : Nat} {rest : List (Nat × Nat)} (hs : s.stk = (b, i) :: rest) (hi : ¬ i < G[b]!.length) : dstep G s = ⟨rest, s.ord ++ [b]⟩ := by
  simp only [dstep, hs]; rw [if_neg hi]

theorem DInv.step {G : Graph} (hg : Gd G) {s : DS} (h : DInv G s) : DInv G (dstep G s) := by
  obtain ⟨stk, ord⟩ := s
  cases stk with
  | nil => exact h
  | cons p rest =>
    obtain ⟨b, i⟩ := p
    have hb : b < G.length := h.lt b (by simp [DS.all])
    have hbr : Rc G 0 b := h.rch b (by simp [DS.all])
    by_cases hi : i < G[b]!.length
    · by_cases hm : G[b]![i]! ∈ (⟨(b, i) :: rest, ord⟩ : DS).all
      · rw [dstep_inc rfl hi hm]
        have hall : (⟨(b, i + 1) :: rest, ord⟩ : DS).all = (⟨(b, i) :: rest, ord⟩ : DS).all := rfl
        refine ⟨hall ▸ h.nd, hall ▸ h.lt, hall ▸ h.rch, ?_, ?_, ?_, ?_, h.adj, h.par⟩
        · intro p hp
          rw [hall]
          rcases List.mem_cons.1 hp with rfl | hp
          · refine ⟨hi, fun j hj => ?_⟩
            rcases Nat.lt_or_ge j i with h1 | h1
            · exact (h.idx (b, i) (by simp)).2 j h1
            · obtain rfl : j = i := by simp at hj; omega
              exact hm
          · exact h.idx p (List.mem_cons_of_mem _ hp)
        · have := h.chain; rw [List.pairwise_cons] at this ⊢; exact this
        · intro k hk y e; rw [hall]; exact h.edge k hk y e
        · right
          rcases h.bot with ⟨h1, _⟩ | ⟨l, k, h1⟩
          · cases h1
          · cases l with
            | nil => simp at h1; obtain ⟨⟨rfl, rfl⟩, rfl⟩ := h1; exact ⟨[], _, rfl⟩
            | cons q l => simp at h1; exact ⟨(b, i + 1) :: l, k, by simp [h1.2]⟩
      · rw [dstep_push rfl hi hm]
        have hed : Ed G b G[b]![i]! := Ed.get hb hi
        have hmem : ∀ x, x ∈ (⟨(G[b]![i]!, 0) :: (b, i + 1) :: rest, ord⟩ : DS).all ↔ x = G[b]![i]! ∨ x ∈ (⟨(b, i) :: rest, ord⟩ : DS).all := by
          intro x; simp only [DS.all, List.map_cons, List.mem_append, List.mem_cons]; constructor
          · rintro (h1 | h1 | h1 | h1) <;> simp [h1]
          · rintro (h1 | h1 | h1 | h1) <;> simp [h1]
        refine ⟨?_, ?_, ?_, ?_, ?_, ?_, ?_, ⟨hed, h.adj⟩, ?_⟩
        · have hnd := h.nd
          simp only [DS.all, List.map_cons] at hnd hm ⊢
          rw [List.nodup_append] at hnd ⊢
          refine ⟨hnd.1, ?_, ?_⟩
          · rw [List.nodup_cons]; exact ⟨fun h1 => hm (List.mem_append_right _ h1), hnd.2.1⟩
          · intro a ha c hc
            rcases List.mem_cons.1 hc with rfl | hc
            · intro e; subst e; exact hm (List.mem_append_left _ ha)
            · exact hnd.2.2 a ha c hc
        · intro x hx; rcases (hmem x).1 hx with rfl | hx
          · exact hed.lt hg
          · exact h.lt x hx
        · intro x hx; rcases (hmem x).1 hx with rfl | hx
          · exact hbr.step hed
          · exact h.rch x hx
        · intro p hp
          rcases List.mem_cons.1 hp with rfl | hp
          · exact ⟨Nat.zero_le _, fun j hj => absurd hj (Nat.not_lt_zero _)⟩
          · rcases List.mem_cons.1 hp with rfl | hp
            · refine ⟨hi, fun j hj => ?_⟩
              rw [hmem]
              rcases Nat.lt_or_ge j i with h1 | h1
              · exact .inr ((h.idx (b, i) (by simp)).2 j h1)
              · obtain rfl : j = i := by simp at hj; omega
                exact .inl rfl
            · have := h.idx p (List.mem_cons_of_mem _ hp)
              exact ⟨this.1, fun j hj => (hmem _).2 (.inr (this.2 j hj))⟩
        · have hc := h.chain
          rw [List.pairwise_cons] at hc
          rw [List.pairwise_cons, List.pairwise_cons]
          refine ⟨fun q hq => ?_, hc.1, hc.2⟩
          rcases List.mem_cons.1 hq with rfl | hq
          · exact Rc.step (.refl b) hed
          · exact Rc.step (hc.1 q hq) hed
        · intro k hk y e
          have := h.edge k hk y e
          exact ⟨(hmem y).2 (.inr this.1), this.2⟩
        · right
          rcases h.bot with ⟨h1, _⟩ | ⟨l, k, h1⟩
          · cases h1
          · cases l with
            | nil => simp at h1; obtain ⟨⟨rfl, rfl⟩, rfl⟩ := h1; exact ⟨[_], _, rfl⟩
            | cons q l => simp at h1; exact ⟨(G[b]![i]!, 0) :: (b, i + 1) :: l, k, by simp [h1.2]⟩
        · intro k hk h0
          obtain ⟨q, e, h1⟩ := h.par k hk h0
          refine ⟨q, e, ?_⟩
          rcases h1 with h1 | h1
          · exact .inl (List.mem_cons_of_mem _ h1)
          · exact .inr h1
    · rw [dstep_pop rfl hi]
      have hmem : ∀ x, x ∈ (⟨rest, ord ++ [b]⟩ : DS).all ↔ x ∈ (⟨(b, i) :: rest, ord⟩ : DS).all := by
        intro x; simp [DS.all]
      have hfull : ∀ y, Ed G b y → y ∈ (⟨(b, i) :: rest, ord⟩ : DS).all := by
        intro y e
        obtain ⟨j, hj, rfl⟩ := e.idx
        exact (h.idx (b, i) (by simp)).2 j (by have := (h.idx (b, i) (by simp)).1; simp at this ⊢; omega)
      refine ⟨?_, fun x hx => h.lt x ((hmem x).1 hx), fun x hx => h.rch x ((hmem x).1 hx), ?_, ?_, ?_, ?_, ?_, ?_⟩
      · have hnd := h.nd
        simp only [DS.all, List.map_cons] at hnd ⊢
        rw [List.append_assoc]; exact hnd
      · intro p hp
        have := h.idx p (List.mem_cons_of_mem _ hp)
        exact ⟨this.1, fun j hj => (hmem _).2 (this.2 j hj)⟩
      · have hc := h.chain; rw [List.pairwise_cons] at hc; exact hc.2
      · intro k hk y e
        simp only [List.length_append, List.length_singleton] at hk
        rcases Nat.lt_or_ge k ord.length with h1 | h1
        · rw [get!_append_left h1] at e ⊢
          have := h.edge k h1 y e
          refine ⟨(hmem y).2 this.1, ?_⟩
          rcases this.2 with ⟨j, hj, h2⟩ | h2
          · exact .inl ⟨j, hj, by rw [get!_append_left (show j < ord.length from Nat.lt_trans hj h1)]; exact h2⟩
          · exact .inr h2
        · obtain rfl : k = ord.length := by omega
          rw [get!_append_len] at e ⊢
          refine ⟨(hmem y).2 (hfull y e), ?_⟩
          have hy := hfull y e
          simp only [DS.all, List.map_cons, List.mem_append, List.mem_cons, List.mem_map] at hy
          rcases hy with hy | rfl | ⟨q, hq, rfl⟩
          · left
            obtain ⟨j, hj, rfl⟩ := List.mem_iff_getElem.1 hy
            exact ⟨j, hj, by rw [get!_append_left hj]; exact getElem!_pos ord j hj⟩
          · exact .inr (.refl _)
          · right
            have hc := h.chain; rw [List.pairwise_cons] at hc
            exact hc.1 q hq
      · rcases h.bot with ⟨h1, _⟩ | ⟨l, k, h1⟩
        · cases h1
        · cases l with
          | nil => simp at h1; obtain ⟨⟨rfl, rfl⟩, rfl⟩ := h1; exact .inl ⟨rfl, ord, rfl⟩
          | cons q l => simp at h1; exact .inr ⟨l, k, h1.2⟩
      · have := h.adj
        cases rest with
        | nil => trivial
        | cons q l => exact this.2
      · intro k hk h0
        simp only [List.length_append, List.length_singleton] at hk
        rcases Nat.lt_or_ge k ord.length with h1 | h1
        · rw [get!_append_left h1] at h0 ⊢
          obtain ⟨q, e, h2⟩ := h.par k h1 h0
          refine ⟨q, e, ?_⟩
          rcases h2 with h2 | ⟨j, h3, h4, h5⟩
          · rcases List.mem_cons.1 h2 with rfl | h2
            · exact .inr ⟨ord.length, h1, by simp, get!_append_len _ _⟩
            · exact .inl h2
          · exact .inr ⟨j, h3, by simp; exact Nat.lt_succ_of_lt h4, by rw [get!_append_left h4]; exact h5⟩
        · obtain rfl : k = ord.length := by omega
          rw [get!_append_len] at h0 ⊢
          have hadj := h.adj
          cases rest with
          | nil =>
            rcases h.bot with ⟨h2, _⟩ | ⟨l, j, h2⟩
            · cases h2
            · cases l with
              | nil => simp at h2; exact absurd h2.1 h0
              | cons q l => simp at h2
          | cons q l => exact ⟨q.1, hadj.1, .inl (by simp)⟩

theorem dinv_it {G : Graph} (hg : Gd G) : ∀ t, DInv G (dit G t)
  | 0 => dinv_init hg
  | t + 1 => (dinv_it hg t).step hg

theorem done_step {G : Graph} {s : DS} (h : DInv G s) (hne : s.stk ≠ []) : done G (dstep G s) = done G s + 1 := by
  obtain ⟨stk, ord⟩ := s
  cases stk with
  | nil => exact absurd rfl hne
  | cons p rest =>
    obtain ⟨b, i⟩ := p
    by_cases hi : i < G[b]!.length
    · by_cases hm : G[b]![i]! ∈ (⟨(b, i) :: rest, ord⟩ : DS).all
      · rw [dstep_inc rfl hi hm]; simp only [done, List.map_cons, List.sum_cons]; omega
      · rw [dstep_push rfl hi hm]; simp only [done, List.map_cons, List.sum_cons]; omega
    · rw [dstep_pop rfl hi]
      have := (h.idx (b, i) (by simp)).1
      simp only [done, List.map_cons, List.sum_cons, List.map_append, List.sum_append, List.map_nil, List.sum_nil] at this ⊢
      omega

theorem nodup_len : ∀ (n : Nat) {l : List Nat}, l.Nodup → (∀ x ∈ l, x < n) → l.length ≤ n
  | 0, l, _, hl => by
    cases l with
    | nil => simp
    | cons x l => exact absurd (hl x (by simp)) (Nat.not_lt_zero _)
  | n + 1, l, h, hl => by
    by_cases hm : n ∈ l
    · have h1 := nodup_len n (h.erase n) (fun x hx => by
        have := (h.mem_erase_iff).1 hx
        have := hl x this.2
        omega)
      rw [List.length_erase_of_mem hm] at h1
      omega
    · have := nodup_len n h (fun x hx => by
        have h1 := hl x hx
        have : x ≠ n := fun e => hm (e ▸ hx)
        omega)
      omega

theorem done_le {G : Graph} (hg : Gd G) {s : DS} (h : DInv G s) : done G s ≤ 65 := by
  have hlen : s.ord.length + s.stk.length ≤ G.length := by
    have := nodup_len G.length h.nd h.lt
    simpa [DS.all] using this
  have h1 : ∀ (l : List Nat), (∀ x ∈ l, x < G.length) → (l.map fun x => G[x]!.length + 1).sum ≤ 5 * l.length := by
    intro l
    induction l with
    | nil => simp
    | cons x l ih =>
      intro hl
      have := ih (fun y hy => hl y (List.mem_cons_of_mem _ hy))
      have := hg.row x (hl x (by simp))
      simp only [List.map_cons, List.sum_cons, List.length_cons]; omega
  have h2 : ∀ (l : List (Nat × Nat)), (∀ p ∈ l, p.2 ≤ G[p.1]!.length ∧ p.1 < G.length) → (l.map Prod.snd).sum ≤ 5 * l.length := by
    intro l
    induction l with
    | nil => simp
    | cons p l ih =>
      intro hl
      have := ih (fun q hq => hl q (List.mem_cons_of_mem _ hq))
      have h3 := hl p (by simp)
      have := hg.row p.1 h3.2
      simp only [List.map_cons, List.sum_cons, List.length_cons]; omega
  have a1 := h1 s.ord (fun x hx => h.lt x (List.mem_append_left _ hx))
  have a2 := h2 s.stk (fun p hp => ⟨(h.idx p hp).1, h.lt p.1 (List.mem_append_right _ (List.mem_map_of_mem hp))⟩)
  have := hg.le
  unfold done
  omega

theorem done_it {G : Graph} (hg : Gd G) : ∀ t, (dit G t).stk ≠ [] → done G (dit G t) = t
  | 0, _ => by simp [dit, dinit, done]
  | t + 1, h => by
    have hne : (dit G t).stk ≠ [] := by
      intro e
      apply h
      show (dstep G (dit G t)).stk = []
      unfold dstep; rw [e]; exact e
    show done G (dstep G (dit G t)) = t + 1
    rw [done_step (dinv_it hg t) hne, done_it hg t hne]

theorem dit_lt {G : Graph} (hg : Gd G) {t : Nat} (h : (dit G t).stk ≠ []) : t ≤ 65 := by
  have := done_le hg (dinv_it hg t)
  rw [done_it hg t h] at this; exact this

theorem dit_stay {G : Graph} {t : Nat} (h : (dit G t).stk = []) : ∀ k, dit G (t + k) = dit G t
  | 0 => rfl
  | k + 1 => by
    show dstep G (dit G (t + k)) = dit G t
    rw [dit_stay h k]; unfold dstep; rw [h]
theorem dit_post {G : Graph} {t : Nat} (h : (dit G t).stk = []) (ht : t ≤ 66) : (dit G t).ord = postL G := by
  have := dit_stay h (66 - t)
  rw [show t + (66 - t) = 66 by omega] at this
  unfold postL; rw [this]
theorem dit_end {G : Graph} (hg : Gd G) : (dit G 66).stk = [] := by
  cases h : (dit G 66).stk with
  | nil => rfl
  | cons p r => exact absurd (dit_lt hg (by rw [h]; simp)) (by omega)

/-- What the postorder is like. -/
structure PostOK (G : Graph) (l : List Nat) : Prop where
  nd : l.Nodup
  lt : ∀ x ∈ l, x < G.length
  mem : ∀ x, x ∈ l ↔ Rc G 0 x
  last : ∃ l', l = l' ++ [0]
  edge : ∀ i, i < l.length → ∀ y, Ed G l[i]! y → y ∈ l ∧ ((∃ j, j < i ∧ l[j]! = y) ∨ Rc G y l[i]!)
  par : ∀ i, i < l.length → l[i]! ≠ 0 → ∃ q j, Ed G q l[i]! ∧ i < j ∧ j < l.length ∧ l[j]! = q

theorem postL_ok {G : Graph} (hg : Gd G) : PostOK G (postL G) := by
  have h := dinv_it hg 66
  have he := dit_end hg
  have hall : (dit G 66).all = postL G := by simp [DS.all, he, postL]
  have hlast : ∃ l', postL G = l' ++ [0] := by
    rcases h.bot with ⟨_, l, hl⟩ | ⟨l, i, hl⟩
    · exact ⟨l, hl⟩
    · rw [he] at hl; simp at hl
  have hedge := h.edge
  rw [hall] at hedge
  refine ⟨hall ▸ h.nd, hall ▸ h.lt, fun x => ⟨fun hx => h.rch x (hall.symm ▸ hx), fun hr => ?_⟩, hlast, hedge, fun i hi h0 => ?_⟩
  · induction hr with
    | refl => obtain ⟨l', hl⟩ := hlast; rw [hl]; simp
    | step _ e _ ih =>
      obtain ⟨i, hi, rfl⟩ := List.mem_iff_getElem.1 ih
      exact (hedge i hi _ (by rw [getElem!_pos (dit G 66).ord i hi]; exact e)).1
  · obtain ⟨q, e, h1⟩ := h.par i hi h0
    rw [he] at h1
    rcases h1 with h1 | ⟨j, h2, h3, h4⟩
    · simp at h1
    · exact ⟨q, j, e, h2, h3, h4⟩

theorem PostOK.nd' {G : Graph} {l : List Nat} (h : PostOK G l) : ∀ i j, i < j → j < l.length → l[i]! ≠ l[j]! := by
  intro i j hij hj
  rw [getElem!_pos l i (by omega), getElem!_pos l j hj]
  have := h.nd
  rw [List.Nodup, List.pairwise_iff_getElem] at this
  exact this i j (by omega) hj hij
end Go.PL
