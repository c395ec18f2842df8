/- Plain facts on graphs: ways, what can be reached. No program in sight. -/
namespace Go.PL

abbrev Graph := List (List Nat)

/-- A graph of which something is stated. -/
structure Gd (G : Graph) : Prop where
  pos : 1 ≤ G.length
  le : G.length ≤ 13
  row : ∀ i, i < G.length → G[i]!.length ≤ 4
  lt : ∀ i, i < G.length → ∀ j, j < G[i]!.length → G[i]![j]! < G.length

/-- A way from x to y. -/
def Ed (G : Graph) (x y : Nat) : Prop := x < G.length ∧ y ∈ G[x]!

theorem Ed.lt {G : Graph} (h : Gd G) {x y : Nat} (e : Ed G x y) : y < G.length := by
  obtain ⟨hx, hy⟩ := e
  obtain ⟨j, hj, rfl⟩ := List.mem_iff_getElem.1 hy
  have := h.lt x hx j hj
  rwa [getElem!_pos G[x]! j hj] at this
theorem Ed.get {G : Graph} {x j : Nat} (hx : x < G.length) (hj : j < G[x]!.length) : Ed G x G[x]![j]! := ⟨hx, by
  rw [getElem!_pos G[x]! j hj]; exact List.getElem_mem hj⟩
theorem Ed.idx {G : Graph} {x y : Nat} (e : Ed G x y) : ∃ j, j < G[x]!.length ∧ G[x]![j]! = y := by
  obtain ⟨hx, hy⟩ := e
  obtain ⟨j, hj, rfl⟩ := List.mem_iff_getElem.1 hy
  exact ⟨j, hj, getElem!_pos G[x]! j hj⟩

/-- y can be reached from x on ways that do not come to wo behind x. -/
inductive Rch (G : Graph) (wo : Int) : Nat → Nat → Prop
  | refl (x : Nat) : Rch G wo x x
  | step {x y z : Nat} : Rch G wo x y → Ed G y z → (z : Int) ≠ wo → Rch G wo x z

theorem Rch.lt {G : Graph} (h : Gd G) {wo : Int} {x y : Nat} (hx : x < G.length) (r : Rch G wo x y) : y < G.length := by
  cases r with
  | refl => exact hx
  | step _ e _ => exact e.lt h
theorem Rch.trans {G : Graph} {wo : Int} {x y z : Nat} (a : Rch G wo x y) (b : Rch G wo y z) : Rch G wo x z := by
  induction b with
  | refl => exact a
  | step _ e h ih => exact .step ih e h
theorem Rch.head {G : Graph} {wo : Int} {x y z : Nat} (e : Ed G x y) (h : (y : Int) ≠ wo) (b : Rch G wo y z) : Rch G wo x z := Rch.trans (.step (.refl x) e h) b

/-! ### Rows of Bools -/
theorem get!_set {α : Type} [Inhabited α] (l : List α) (i j : Nat) (v : α) (hi : i < l.length) : (l.set i v)[j]! = if i = j then v else l[j]! := by
  by_cases h : i = j
  · subst h; simp [hi]
  · simp [List.getElem!_eq_getElem?_getD, List.getElem?_set_ne h, h]
theorem get!_set_self {α : Type} [Inhabited α] (l : List α) (i : Nat) (v : α) (hi : i < l.length) : (l.set i v)[i]! = v := by rw [get!_set l i i v hi, if_pos rfl]
theorem get!_set_ne {α : Type} [Inhabited α] (l : List α) {i j : Nat} (v : α) (h : i ≠ j) : (l.set i v)[j]! = l[j]! := by
  simp [List.getElem!_eq_getElem?_getD, List.getElem?_set_ne h]
theorem get!_replicate {α : Type} [Inhabited α] (n i : Nat) (v : α) (hi : i < n) : (List.replicate n v)[i]! = v := by simp [hi]
def cnt (l : List Bool) : Nat := l.count true
theorem cnt_le (l : List Bool) : cnt l ≤ l.length := List.count_le_length
theorem cnt_set : ∀ (l : List Bool) (i : Nat), i < l.length → l[i]! = false → cnt (l.set i true) = cnt l + 1
  | [], i, hi, _ => by simp at hi
  | b :: l, 0, _, h => by simp at h; subst h; simp [cnt]
  | b :: l, i + 1, hi, h => by
    have := cnt_set l i (by simpa using hi) (by simpa using h)
    simp only [cnt, List.set_cons_succ, List.count_cons] at this ⊢
    omega
theorem set_same (l : List Bool) (i : Nat) (h : l[i]! = true) : l.set i true = l := by
  apply List.ext_getElem?
  intro j
  rw [List.getElem?_set]
  split
  · rename_i e; subst e
    split
    · rename_i hi
      rw [List.getElem!_eq_getElem?_getD] at h
      rw [List.getElem?_eq_getElem hi] at h ⊢
      simp at h; rw [h]
    · rename_i hi; rw [List.getElem?_eq_none (by omega)]
  · rfl

/-! ### spec.Reach -/
structure RSound (G : Graph) (wo : Int) (s : Nat) (R : List Bool) : Prop where
  len : R.length = G.length
  src : R[s]! = true
  snd : ∀ y, y < G.length → R[y]! = true → Rch G wo s y
/-- Closed under the ways out of blocks below x, and the first j of x. -/
def RUpto (G : Graph) (wo : Int) (R : List Bool) (x j : Nat) : Prop :=
  ∀ a i, a < G.length → i < G[a]!.length → (a < x ∨ (a = x ∧ i < j)) → R[a]! = true → ((G[a]![i]! : Nat) : Int) ≠ wo → R[G[a]![i]!]! = true
def RClosed (G : Graph) (wo : Int) (R : List Bool) : Prop := RUpto G wo R G.length 0
/-- What holds in round r, at way j of block x. -/
def RJ (G : Graph) (wo : Int) (R : List Bool) (r x j : Nat) : Prop := RClosed G wo R ∨ r + 2 ≤ cnt R ∨ (r + 1 ≤ cnt R ∧ RUpto G wo R x j)

section
variable {G : Graph} {wo : Int} {R : List Bool} {r x j s : Nat}
theorem RJ.start (h : RClosed G wo R ∨ r + 1 ≤ cnt R) : RJ G wo R r 0 0 := by
  rcases h with h | h
  · exact .inl h
  · exact .inr (.inr ⟨h, fun a i _ _ h => by omega⟩)
theorem RJ.row (h : RJ G wo R r x j) (hj : G[x]!.length ≤ j) : RJ G wo R r (x + 1) 0 := by
  rcases h with h | h | ⟨h1, h2⟩
  · exact .inl h
  · exact .inr (.inl h)
  · refine .inr (.inr ⟨h1, fun a i ha hi hh => h2 a i ha hi ?_⟩)
    rcases Nat.lt_or_ge a x with h3 | h3
    · exact .inl h3
    · obtain rfl : a = x := by omega
      exact .inr ⟨rfl, by omega⟩
theorem RJ.skip (h : RJ G wo R r x j) (hn : R[x]! = true → ((G[x]![j]! : Nat) : Int) ≠ wo → False) : RJ G wo R r x (j + 1) := by
  rcases h with h | h | ⟨h1, h2⟩
  · exact .inl h
  · exact .inr (.inl h)
  · refine .inr (.inr ⟨h1, fun a i ha hi hh hR hw => ?_⟩)
    by_cases e : a = x ∧ i = j
    · obtain ⟨rfl, rfl⟩ := e; exact (hn hR hw).elim
    · exact h2 a i ha hi (by omega) hR hw
theorem RJ.take (hg : Gd G) (hs : RSound G wo s R) (h : RJ G wo R r x j) (hx : x < G.length) (hj : j < G[x]!.length) (hR : R[x]! = true) (hw : ((G[x]![j]! : Nat) : Int) ≠ wo) : RJ G wo (R.set G[x]![j]! true) r x (j + 1) := by
  have hlt := hg.lt x hx j hj
  cases hb : R[G[x]![j]!]! with
  | true =>
    rw [set_same R _ hb]
    rcases h with h | h | ⟨h1, h2⟩
    · exact .inl h
    · exact .inr (.inl h)
    · refine .inr (.inr ⟨h1, fun a i ha hi hh hR hw => ?_⟩)
      by_cases e : a = x ∧ i = j
      · obtain ⟨rfl, rfl⟩ := e; exact hb
      · exact h2 a i ha hi (by omega) hR hw
  | false =>
    have hc := cnt_set R G[x]![j]! (by rw [hs.len]; exact hlt) hb
    rcases h with h | h | ⟨h1, h2⟩
    · have := h x j hx hj (.inl hx) hR hw
      rw [this] at hb; cases hb
    · exact .inr (.inl (by omega))
    · exact .inr (.inl (by omega))
theorem RSound.take (hg : Gd G) (hs : RSound G wo s R) (hx : x < G.length) (hj : j < G[x]!.length) (hR : R[x]! = true) (hw : ((G[x]![j]! : Nat) : Int) ≠ wo) : RSound G wo s (R.set G[x]![j]! true) := by
  have hlt := hg.lt x hx j hj
  have hl : G[x]![j]! < R.length := by rw [hs.len]; exact hlt
  refine ⟨by simp [hs.len], ?_, ?_⟩
  · rw [get!_set _ _ _ _ hl]; split
    · rfl
    · exact hs.src
  · intro y hy h
    rw [get!_set _ _ _ _ hl] at h
    split at h
    · rename_i e; subst e
      exact .step (hs.snd x hx hR) (Ed.get hx hj) hw
    · exact hs.snd y hy h
theorem RJ.done (h : RJ G wo R r G.length 0) : RClosed G wo R ∨ r + 1 + 1 ≤ cnt R := by
  rcases h with h | h | ⟨_, h2⟩
  · exact .inl h
  · exact .inr h
  · exact .inl h2
theorem RSound.init (hs : s < G.length) : RSound G wo s ((List.replicate G.length false).set s true) := by
  refine ⟨by simp, get!_set_self _ _ _ (by simpa using hs), ?_⟩
  intro y hy h
  rw [get!_set _ _ _ _ (by simpa using hs)] at h
  split at h
  · rename_i e; subst e; exact .refl _
  · rw [get!_replicate _ _ _ hy] at h; cases h
theorem cnt_init (hs : s < G.length) : 0 + 1 ≤ cnt ((List.replicate G.length false).set s true) := by
  rw [cnt_set _ _ (by simpa using hs) (get!_replicate _ _ _ hs)]; omega
/-- What spec.Reach returns. -/
def IsReach (G : Graph) (s : Nat) (wo : Int) (R : List Bool) : Prop := R.length = G.length ∧ ∀ y, y < G.length → (R[y]! = true ↔ ((s : Int) ≠ wo ∧ Rch G wo s y))
theorem RSound.done (hg : Gd G) (hw : (s : Int) ≠ wo) (hlt : s < G.length) (hs : RSound G wo s R) (h : RClosed G wo R ∨ G.length + 1 ≤ cnt R) : IsReach G s wo R := by
  have hc : RClosed G wo R := by
    rcases h with h | h
    · exact h
    · have := cnt_le R; rw [hs.len] at this; omega
  have key : ∀ y, Rch G wo s y → R[y]! = true := by
    intro y h
    induction h with
    | refl => exact hs.src
    | step hr e hz ih =>
      have hy := hr.lt hg hlt
      obtain ⟨i, hi, rfl⟩ := e.idx
      exact hc _ i hy hi (.inl hy) ih hz
  exact ⟨hs.len, fun y hy => ⟨fun h => ⟨hw, hs.snd y hy h⟩, fun h => key y h.2⟩⟩
theorem isReach_none : IsReach G s (s : Int) (List.replicate G.length false) :=
  ⟨by simp, fun y hy => by rw [get!_replicate _ _ _ hy]; simp⟩
end
end Go.PL
