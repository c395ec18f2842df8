/- Trees by their parents: children in reverse postorder, numbers of entry and exit. No program in sight. -/
import Derived.Test.YtmoooaaiohplhacPh
import Derived.Test.YtmoooaaiohplhacPd
namespace Go.PL

structure TreeP (G : Graph) (P : Nat → Option Nat) (r : Nat → Nat) : Prop where
  root : P 0 = none
  mem : ∀ y p, P y = some p → y ∈ postL G ∧ p ∈ postL G
  ex : ∀ y, y ∈ postL G → y ≠ 0 → P y ≠ none
  rank : ∀ y p, P y = some p → r p < r y
  rlt : ∀ y, y ∈ postL G → r y < 13

/-- The children of p among the first k blocks of the postorder, the last one first. -/
def chl (G : Graph) (P : Nat → Option Nat) (k p : Nat) : List Nat := (((postL G).take k).filter fun c => P c == some p).reverse
def chs (G : Graph) (P : Nat → Option Nat) (p : Nat) : List Nat := chl G P (postL G).length p
/-- The sibling behind c. -/
def sibF (G : Graph) (P : Nat → Option Nat) (c : Nat) : Option Nat := match P c with
  | none => none
  | some p => (chl G P (ps G c) p).head?

section
variable {G : Graph} {P : Nat → Option Nat} {r : Nat → Nat}
theorem take_snoc' {α : Type} [Inhabited α] {l : List α} {k : Nat} (hk : k < l.length) : l.take (k + 1) = l.take k ++ [l[k]!] := by
  rw [List.take_succ_eq_append_getElem hk, getElem!_pos l k hk]
theorem chl_succ {k p : Nat} (hk : k < (postL G).length) : chl G P (k + 1) p = if P (postL G)[k]! = some p then (postL G)[k]! :: chl G P k p else chl G P k p := by
  unfold chl
  rw [take_snoc' hk, List.filter_append, List.reverse_append]
  by_cases h : P (postL G)[k]! = some p
  · rw [if_pos h, List.filter_cons_of_pos (by rw [h]; simp)]; simp
  · rw [if_neg h, List.filter_cons_of_neg (by rw [beq_iff_eq]; exact h)]; simp
theorem chl_zero {p : Nat} : chl G P 0 p = [] := by simp [chl]
theorem mem_chl {k p c : Nat} (h : c ∈ chl G P k p) : P c = some p := by
  unfold chl at h
  rw [List.mem_reverse, List.mem_filter] at h
  simpa using h.2
theorem mem_chs (t : TreeP G P r) {p c : Nat} : c ∈ chs G P p ↔ P c = some p := by
  refine ⟨mem_chl, fun h => ?_⟩
  unfold chs chl
  rw [List.mem_reverse, List.mem_filter, List.take_length]
  exact ⟨(t.mem c p h).1, by simp [h]⟩
theorem chs_nodup (hg : Gd G) (p : Nat) : (chs G P p).Nodup := by
  unfold chs chl
  unfold List.Nodup
  rw [List.pairwise_reverse]
  have hn : ((postL G).take (postL G).length).Pairwise (fun a b => a ≠ b) := by rw [List.take_length]; exact (postL_ok hg).nd
  exact (hn.filter _).imp (fun h e => h e.symm)
theorem nodup_cut {α : Type} {c : α} : ∀ {A A' B B' : List α}, (A ++ c :: B).Nodup → A ++ c :: B = A' ++ c :: B' → A = A' ∧ B = B'
  | [], [], B, B', _, h => by simp at h; exact ⟨rfl, h⟩
  | [], a :: A', B, B', hn, h => by
    simp at h
    obtain ⟨rfl, rfl⟩ := h
    simp at hn
  | a :: A, [], B, B', hn, h => by
    simp at h
    obtain ⟨rfl, h⟩ := h
    simp at hn
  | a :: A, a' :: A', B, B', hn, h => by
    simp at h
    obtain ⟨rfl, h⟩ := h
    have := nodup_cut (List.nodup_cons.1 hn).2 h
    exact ⟨by rw [this.1], this.2⟩
/-- Where c stands among the children of p. -/
theorem chs_at (t : TreeP G P r) {p c : Nat} (h : P c = some p) : ∃ A, chs G P p = A ++ c :: chl G P (ps G c) p := by
  have hc := (t.mem c p h).1
  have hlt := ps_lt hc
  have e : (postL G).take (postL G).length = (postL G).take (ps G c) ++ c :: (postL G).drop (ps G c + 1) := by
    have h1 := List.take_append_drop (ps G c) (postL G)
    rw [List.drop_eq_getElem_cons hlt, ← getElem!_pos (postL G) (ps G c) hlt, ps_get hc] at h1
    rw [List.take_length, h1]
  refine ⟨(((postL G).drop (ps G c + 1)).filter fun c => P c == some p).reverse, ?_⟩
  unfold chs chl
  rw [e, List.filter_append, List.filter_cons_of_pos (by simp [h]), List.reverse_append, List.reverse_cons, List.append_assoc]
  rfl
theorem chs_cut (hg : Gd G) (t : TreeP G P r) {p c : Nat} {A B : List Nat} (h : chs G P p = A ++ c :: B) : P c = some p ∧ chl G P (ps G c) p = B := by
  have hp : P c = some p := (mem_chs t).1 (by rw [h]; simp)
  obtain ⟨A', h'⟩ := chs_at t hp
  have hn := chs_nodup (P := P) hg p
  rw [h] at hn h'
  exact ⟨hp, (nodup_cut hn h').2.symm⟩
theorem sibF_at (hg : Gd G) (t : TreeP G P r) {p c : Nat} {A B : List Nat} (h : chs G P p = A ++ c :: B) : sibF G P c = B.head? := by
  obtain ⟨h1, h2⟩ := chs_cut hg t h
  unfold sibF; rw [h1]; show (chl G P (ps G c) p).head? = _; rw [h2]
theorem sibF_some (t : TreeP G P r) {c c' : Nat} (h : sibF G P c = some c') : ∃ p A B, P c = some p ∧ chs G P p = A ++ c :: c' :: B := by
  unfold sibF at h
  cases hp : P c with
  | none => rw [hp] at h; cases h
  | some p =>
    rw [hp] at h
    have h : (chl G P (ps G c) p).head? = some c' := h
    obtain ⟨A, hA⟩ := chs_at t hp
    cases hl : chl G P (ps G c) p with
    | nil => rw [hl] at h; cases h
    | cons a B =>
      rw [hl] at h hA; cases h
      exact ⟨p, A, B, rfl, hA⟩
theorem chs_order (hg : Gd G) (p : Nat) : (chs G P p).Pairwise fun a b => ps G b < ps G a := by
  unfold chs chl
  rw [List.take_length, List.pairwise_reverse]
  refine List.Pairwise.filter _ ?_
  rw [List.pairwise_iff_getElem]
  intro i j hi hj hij
  have h1 := ps_of hg hi
  have h2 := ps_of hg hj
  rw [getElem!_pos (postL G) i hi] at h1
  rw [getElem!_pos (postL G) j hj] at h2
  omega

/-! ### Who is above whom -/
theorem Abv.rk (hr : ∀ y p, P y = some p → r p < r y) {x y : Nat} (h : Abv P x y) : r x ≤ r y := by
  induction h with
  | refl => exact Nat.le_refl _
  | step e _ ih => have := hr _ _ e; omega
theorem Abv.anti (hr : ∀ y p, P y = some p → r p < r y) {x y : Nat} (h : Abv P x y) (h' : Abv P y x) : x = y := by
  cases h with
  | refl => rfl
  | step e h2 => have := hr _ _ e; have := h2.rk hr; have := h'.rk hr; omega
theorem abv_child {b v : Nat} (h : Abv P b v) : v = b ∨ ∃ c, P c = some b ∧ Abv P c v := by
  induction h with
  | refl => exact .inl rfl
  | step e _ ih =>
    right
    rcases ih with rfl | ⟨c, h1, h2⟩
    · exact ⟨_, e, .refl _⟩
    · exact ⟨c, h1, .step e h2⟩
theorem Abv.linear {x y v : Nat} (h : Abv P x v) (h' : Abv P y v) : Abv P x y ∨ Abv P y x := by
  induction h with
  | refl => exact .inr h'
  | step e _ ih =>
    cases h' with
    | refl => exact .inl (.step e ‹_›)
    | step e' h2 => rw [e] at e'; cases e'; exact ih h2
theorem abv_sib (hr : ∀ y p, P y = some p → r p < r y) {b c c' v : Nat} (h1 : P c = some b) (h2 : P c' = some b) (h3 : Abv P c v) (h4 : Abv P c' v) : c = c' := by
  have key : ∀ {c c' : Nat}, P c = some b → P c' = some b → Abv P c c' → c = c' := by
    intro c c' h1 h2 h
    cases h with
    | refl => rfl
    | step e h => rw [h2] at e; cases e; have := hr _ _ h1; have := h.rk hr; omega
  rcases h3.linear h4 with h | h
  · exact key h1 h2 h
  · exact (key h2 h1 h).symm
theorem TreeP.top (t : TreeP G P r) {v : Nat} (hv : v ∈ postL G) : Abv P 0 v := by
  generalize hm : r v = m
  induction m using Nat.strongRecOn generalizing v with
  | _ m ih =>
    by_cases h0 : v = 0
    · subst h0; exact .refl _
    · cases hp : P v with
      | none => exact absurd hp (t.ex v hv h0)
      | some p => exact .step hp (ih _ (by rw [← hm]; exact t.rank _ _ hp) (t.mem _ _ hp).2 rfl)

/-! ### The numbers -/
inductive Nums (ch : Nat → List Nat) (en ex : Nat → Nat) : List Nat → Nat → Nat → Prop
  | nil (m : Nat) : Nums ch en ex [] m m
  | cons {b : Nat} {l : List Nat} {lo m hi : Nat} : en b = lo + 1 → Nums ch en ex (ch b) (lo + 3) m → ex b = m + 1 → Nums ch en ex l (m + 3) hi → Nums ch en ex (b :: l) lo hi
/-- The blocks of the trees below l, as they come up. -/
def preo (ch : Nat → List Nat) : Nat → List Nat → List Nat
  | 0, _ => []
  | k + 1, l => l.flatMap fun b => b :: preo ch k (ch b)
theorem preo_app (ch : Nat → List Nat) (k : Nat) (l l' : List Nat) : preo ch k (l ++ l') = preo ch k l ++ preo ch k l' := by
  cases k with
  | zero => rfl
  | succ k => simp [preo]
theorem preo_one (ch : Nat → List Nat) (k b : Nat) : preo ch (k + 1) [b] = b :: preo ch k (ch b) := by simp [preo]
theorem mem_preo (t : TreeP G P r) : ∀ (k : Nat) {l : List Nat} {v : Nat}, v ∈ preo (chs G P) k l → ∃ b ∈ l, Abv P b v
  | 0, l, v, h => by simp [preo] at h
  | k + 1, l, v, h => by
    simp only [preo, List.mem_flatMap, List.mem_cons] at h
    obtain ⟨b, hb, rfl | h⟩ := h
    · exact ⟨v, hb, .refl _⟩
    · obtain ⟨c, hc, ha⟩ := mem_preo t k h
      exact ⟨b, hb, Abv.trans (.step ((mem_chs t).1 hc) (.refl _)) ha⟩
theorem preo_nodup (hg : Gd G) (t : TreeP G P r) : ∀ (k : Nat) {l : List Nat}, l.Pairwise (fun b c => ∀ v, Abv P b v → ¬ Abv P c v) → (preo (chs G P) k l).Nodup
  | 0, l, _ => by simp [preo]
  | k + 1, l, h => by
    unfold preo List.Nodup
    rw [List.pairwise_flatMap]
    refine ⟨fun b _ => ?_, h.imp ?_⟩
    · rw [List.pairwise_cons]
      refine ⟨fun v hv e => ?_, ?_⟩
      · subst e
        obtain ⟨c, hc, ha⟩ := mem_preo t k hv
        have := t.rank _ _ ((mem_chs t).1 hc)
        have := ha.rk t.rank
        omega
      · refine preo_nodup hg t k ?_
        refine (List.Pairwise.and_mem.1 (chs_nodup hg b)).imp ?_
        rintro c c' ⟨h1, h2, h3⟩ v h4 h5
        exact h3 (abv_sib t.rank ((mem_chs t).1 h1) ((mem_chs t).1 h2) h4 h5)
    · intro b c hbc u hu v hv e
      subst e
      have k1 : Abv P b u := by
        rcases List.mem_cons.1 hu with rfl | hu
        · exact .refl _
        · obtain ⟨d, hd, ha⟩ := mem_preo t k hu
          exact Abv.trans (.step ((mem_chs t).1 hd) (.refl _)) ha
      have k2 : Abv P c u := by
        rcases List.mem_cons.1 hv with rfl | hv
        · exact .refl _
        · obtain ⟨d, hd, ha⟩ := mem_preo t k hv
          exact Abv.trans (.step ((mem_chs t).1 hd) (.refl _)) ha
      exact hbc u k1 k2
theorem abv_mem (t : TreeP G P r) {b v : Nat} (hb : b ∈ postL G) (h : Abv P b v) : v ∈ postL G := by
  cases h with
  | refl => exact hb
  | step e _ => exact (t.mem _ _ e).1
theorem preo_le (hg : Gd G) (t : TreeP G P r) (k : Nat) : (preo (chs G P) k [0]).length ≤ 13 := by
  refine Nat.le_trans (nodup_len G.length (preo_nodup hg t k (by simp)) fun v hv => ?_) hg.le
  obtain ⟨b, hb, ha⟩ := mem_preo t k hv
  rw [List.mem_singleton.1 hb] at ha
  exact (postL_ok hg).lt v (abv_mem t (zero_mem hg) ha)

section
variable {ch : Nat → List Nat} {en ex en' ex' : Nat → Nat} {l : List Nat} {lo hi : Nat}
theorem Nums.congr (hch : ∀ b c, c ∈ ch b → P c = some b) (h : Nums ch en ex l lo hi) (he : ∀ b, b ∈ l → ∀ v, Abv P b v → en' v = en v ∧ ex' v = ex v) : Nums ch en' ex' l lo hi := by
  induction h with
  | nil => exact .nil _
  | cons h1 _ h3 _ ih1 ih2 =>
    rename_i b l lo m hi _ _
    have hb := he b (by simp) b (.refl _)
    refine .cons (hb.1.trans h1) (ih1 fun c hc v ha => he b (by simp) v (Abv.trans (.step (hch b c hc) (.refl _)) ha)) (hb.2.trans h3) (ih2 fun c hc v ha => he c (by simp [hc]) v ha)
theorem Nums.snoc {b m hi : Nat} (h : Nums ch en ex l lo m) (h' : Nums ch en ex [b] m hi) : Nums ch en ex (l ++ [b]) lo hi := by
  induction h with
  | nil => exact h'
  | cons h1 h2 h3 _ _ ih2 => exact .cons h1 h2 h3 (ih2 h')
theorem Nums.le (h : Nums ch en ex l lo hi) : lo ≤ hi := by
  induction h with
  | nil => exact Nat.le_refl _
  | cons _ _ _ _ ih1 ih2 => omega
theorem Nums.range (hch : ∀ b c, P c = some b → c ∈ ch b) (h : Nums ch en ex l lo hi) : ∀ b ∈ l, ∀ v, Abv P b v → lo + 1 ≤ en v ∧ en v < ex v ∧ ex v + 2 ≤ hi := by
  induction h with
  | nil => intro b hb; cases hb
  | cons h1 h2 h3 h4 ih1 ih2 =>
    rename_i b l lo m hi
    have a1 := h2.le
    have a2 := h4.le
    intro c hc v ha
    rcases List.mem_cons.1 hc with rfl | hc
    · rcases abv_child ha with rfl | ⟨d, h5, h6⟩
      · omega
      · have := ih1 d (hch _ _ h5) v h6; omega
    · have := ih2 c hc v ha; omega
theorem Nums.nest (hch : ∀ b c, P c = some b → c ∈ ch b) (h : Nums ch en ex l lo hi) : ∀ b ∈ l, ∀ u v, Abv P b u → Abv P u v → u ≠ v → en u < en v ∧ ex v < ex u := by
  induction h with
  | nil => intro b hb; cases hb
  | cons h1 h2 h3 h4 ih1 ih2 =>
    intro c hc u v hu hv hne
    rcases List.mem_cons.1 hc with rfl | hc
    · rcases abv_child hu with rfl | ⟨d, h5, h6⟩
      · rcases abv_child hv with rfl | ⟨d, h5, h6⟩
        · exact absurd rfl hne
        · have := h2.range hch d (hch _ _ h5) v h6; omega
      · exact ih1 d (hch _ _ h5) u v h6 hv hne
    · exact ih2 c hc u v hu hv hne
theorem Nums.sep (hch : ∀ b c, P c = some b → c ∈ ch b) (h : Nums ch en ex l lo hi) : ∀ b ∈ l, ∀ b' ∈ l, ∀ u v, Abv P b u → Abv P b' v → Abv P u v ∨ Abv P v u ∨ ex u < en v ∨ ex v < en u := by
  induction h with
  | nil => intro b hb; cases hb
  | cons h1 h2 h3 h4 ih1 ih2 =>
    rename_i b l lo m hi
    have hone : ∀ v, Abv P b v → ex v ≤ m + 1 := by
      intro v hv
      rcases abv_child hv with rfl | ⟨d, h5, h6⟩
      · omega
      · have := h2.range hch d (hch _ _ h5) v h6; omega
    intro c hc c' hc' u v hu hv
    rcases List.mem_cons.1 hc with rfl | hc
    · rcases List.mem_cons.1 hc' with rfl | hc'
      · rcases abv_child hu with rfl | ⟨d, h5, h6⟩
        · exact .inl hv
        · rcases abv_child hv with rfl | ⟨d', h7, h8⟩
          · exact .inr (.inl hu)
          · exact ih1 d (hch _ _ h5) d' (hch _ _ h7) u v h6 h8
      · have := hone u hu
        have := h4.range hch c' hc' v hv
        exact .inr (.inr (.inl (by omega)))
    · rcases List.mem_cons.1 hc' with rfl | hc'
      · have := hone v hv
        have := h4.range hch c ‹c ∈ l› u hu
        exact .inr (.inr (.inr (by omega)))
      · exact ih2 c hc c' hc' u v hu hv
theorem Nums.inner (hch : ∀ b c, P c = some b → c ∈ ch b) (h : Nums ch en ex l lo hi) : ∀ b ∈ l, ∀ u, Abv P b u → ∃ lo m, Nums ch en ex (ch u) lo m := by
  induction h with
  | nil => intro b hb; cases hb
  | cons h1 h2 h3 h4 ih1 ih2 =>
    intro c hc u hu
    rcases List.mem_cons.1 hc with rfl | hc
    · rcases abv_child hu with rfl | ⟨d, h5, h6⟩
      · exact ⟨_, _, h2⟩
      · exact ih1 d (hch _ _ h5) u h6
    · exact ih2 c hc u hu
theorem Nums.order (hch : ∀ b c, P c = some b → c ∈ ch b) {A B : List Nat} {c : Nat} : ∀ {l lo hi}, Nums ch en ex l lo hi → l = A ++ c :: B → ∀ c' ∈ B, ex c < en c' := by
  induction A with
  | nil =>
    intro l lo hi h e c' hc'
    cases h with
    | nil => cases e
    | cons h1 h2 h3 h4 =>
      cases e
      have := h4.range hch c' hc' c' (.refl _)
      omega
  | cons a A ih =>
    intro l lo hi h e c' hc'
    cases h with
    | nil => cases e
    | cons h1 h2 h3 h4 => cases e; exact ih h4 rfl c' hc'
end
/-- The numbers of the whole tree. -/
structure NumOK (G : Graph) (P : Nat → Option Nat) (en ex : Nat → Nat) : Prop where
  lt : ∀ v, v ∈ postL G → en v < ex v
  nest : ∀ u v, u ∈ postL G → v ∈ postL G → (u ≠ v ∧ Abv P u v ↔ en u < en v ∧ ex v < ex u)
  eq : ∀ u v, u ∈ postL G → v ∈ postL G → u ≠ v → (Abv P u v ↔ en u ≤ en v ∧ ex v ≤ ex u)
  sep : ∀ u v, u ∈ postL G → v ∈ postL G → Abv P u v ∨ Abv P v u ∨ ex u < en v ∨ ex v < en u
  sib : ∀ c c', sibF G P c = some c' → ex c < en c' ∧ P c' = P c
  le : ∀ v, v ∈ postL G → ex v ≤ 1000
theorem numOK (hg : Gd G) (t : TreeP G P r) {en ex : Nat → Nat} {hi : Nat} (h : Nums (chs G P) en ex [0] 1 hi) (hhi : hi ≤ 1000) : NumOK G P en ex := by
  have hch : ∀ b c, P c = some b → c ∈ chs G P b := fun b c h => (mem_chs t).2 h
  have hlt : ∀ v, v ∈ postL G → en v < ex v := fun v hv => (h.range hch 0 (by simp) v (t.top hv)).2.1
  have hsep : ∀ u v, u ∈ postL G → v ∈ postL G → Abv P u v ∨ Abv P v u ∨ ex u < en v ∨ ex v < en u := fun u v hu hv => h.sep hch 0 (by simp) 0 (by simp) u v (t.top hu) (t.top hv)
  have hnest : ∀ u v, u ∈ postL G → Abv P u v → u ≠ v → en u < en v ∧ ex v < ex u := fun u v hu ha hne => h.nest hch 0 (by simp) u v (t.top hu) ha hne
  refine ⟨hlt, fun u v hu hv => ⟨fun ⟨h1, h2⟩ => hnest u v hu h2 h1, fun ⟨h1, h2⟩ => ?_⟩, fun u v hu hv hne => ⟨fun h => ?_, fun ⟨h1, h2⟩ => ?_⟩, hsep, fun c c' hs => ?_, fun v hv => ?_⟩
  · have hne : u ≠ v := fun e => by subst e; omega
    have a1 := hlt u hu
    have a2 := hlt v hv
    rcases hsep u v hu hv with h3 | h3 | h3 | h3
    · exact ⟨hne, h3⟩
    · have := hnest v u hv h3 (Ne.symm hne); omega
    · omega
    · omega
  · have := hnest u v hu h hne; omega
  · have a1 := hlt u hu
    have a2 := hlt v hv
    rcases hsep u v hu hv with h3 | h3 | h3 | h3
    · exact h3
    · have := hnest v u hv h3 (Ne.symm hne); omega
    · omega
    · omega
  · obtain ⟨p, A, B, h1, h2⟩ := sibF_some t hs
    obtain ⟨lo, m, h3⟩ := h.inner hch 0 (by simp) p (t.top (t.mem c p h1).2)
    have h4 : P c' = some p := (mem_chs t).1 (by rw [h2]; simp)
    exact ⟨h3.order hch h2 c' (by simp), by rw [h4, h1]⟩
  · have := h.range hch 0 (by simp) v (t.top hv); omega
/-- The tree of dominators. -/
theorem tree_idoms (hg : Gd G) {L : List (Option Nat)} (h : IdomsOK G L) : TreeP G (fun y => L[y]!) (drk G) := by
  have hm := (postL_ok hg).mem
  refine ⟨?_, fun y p e => ?_, fun y hy h0 e => ?_, fun y p e => drk_idom hg (h.idom e), fun y hy => ?_⟩
  · cases e : L[0]! with
    | none => rfl
    | some p => exact absurd rfl (h.idom e).ne_zero
  · have := h.idom e; exact ⟨(hm y).2 this.2.1.rc, (hm p).2 this.2.1.rcl⟩
  · obtain ⟨p, hp⟩ := h.ex hg ((hm y).1 hy) h0
    have e' : L[y]! = none := e
    rw [hp] at e'; cases e'
  · exact Nat.lt_of_lt_of_le (drk_lt ((postL_ok hg).lt y hy)) hg.le
end
end Go.PL
