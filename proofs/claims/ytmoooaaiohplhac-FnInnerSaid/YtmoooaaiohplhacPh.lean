/- Parents, who is above whom; changes of a graph that leave its dominators. No program in sight. -/
import Derived.Test.YtmoooaaiohplhacPc
namespace Go.PL

/-- spec.Above, over the raw numbers. -/
def abvI (l : List Int) (x : Int) : Nat → Int → Bool
  | 0, _ => false
  | k + 1, y => if x = y then true else if y < 0 ∨ (l.length : Int) ≤ y then false else abvI l x k l[y.toNat]!
/-- x is above y by the parents P, or is it. -/
inductive Abv (P : Nat → Option Nat) : Nat → Nat → Prop
  | refl (x : Nat) : Abv P x x
  | step {x p y : Nat} : P y = some p → Abv P x p → Abv P x y
/-- The numbers l are the parents P of n blocks. -/
structure ParL (l : List Int) (n : Nat) (P : Nat → Option Nat) : Prop where
  len : l.length = n
  get : ∀ y, y < n → (P y = none ∧ l[y]! < 0) ∨ ∃ p, P y = some p ∧ p < n ∧ l[y]! = ((p : Nat) : Int)

section
variable {l : List Int} {n : Nat} {P : Nat → Option Nat} {r : Nat → Nat}
theorem Abv.trans {x y z : Nat} (h : Abv P x y) (h' : Abv P y z) : Abv P x z := by
  induction h' with
  | refl => exact h
  | step e _ ih => exact .step e ih
theorem abvI_sound (h : ParL l n P) {x : Nat} : ∀ (k y : Nat), y < n → abvI l (x : Int) k (y : Int) = true → Abv P x y
  | 0, y, _, e => by simp [abvI] at e
  | k + 1, y, hy, e => by
    unfold abvI at e
    by_cases hxy : (x : Int) = (y : Int)
    · obtain rfl : x = y := by omega
      exact .refl _
    · rw [if_neg hxy, if_neg (by rw [h.len]; omega)] at e
      rw [Int.toNat_natCast] at e
      rcases h.get y hy with ⟨_, h2⟩ | ⟨p, h1, h2, h3⟩
      · cases k with
        | zero => simp [abvI] at e
        | succ k => unfold abvI at e; rw [if_neg (by omega), if_pos (by omega)] at e; cases e
      · rw [h3] at e
        exact .step h1 (abvI_sound h k p h2 e)
theorem abvI_complete (h : ParL l n P) (hr : ∀ y p, P y = some p → r p < r y) {x y : Nat} (ha : Abv P x y) : ∀ k, y < n → r y < k → abvI l (x : Int) k (y : Int) = true := by
  induction ha with
  | refl => intro k _ hk; cases k with
    | zero => omega
    | succ k => unfold abvI; rw [if_pos rfl]
  | step e _ ih =>
    rename_i p y _
    intro k hy hk
    cases k with
    | zero => omega
    | succ k =>
      unfold abvI
      by_cases hxy : (x : Int) = (y : Int)
      · rw [if_pos hxy]
      · rw [if_neg hxy, if_neg (by rw [h.len]; omega), Int.toNat_natCast]
        rcases h.get y hy with ⟨h1, _⟩ | ⟨q, h1, h2, h3⟩
        · rw [e] at h1; cases h1
        · rw [e] at h1; cases h1
          rw [h3]
          exact ih k h2 (by have := hr _ _ e; omega)
theorem abvI_iff (h : ParL l n P) (hr : ∀ y p, P y = some p → r p < r y) (hn : ∀ y, y < n → r y < n) {x y : Nat} (hy : y < n) : abvI l (x : Int) n (y : Int) = true ↔ Abv P x y :=
  ⟨abvI_sound h n y hy, fun ha => abvI_complete h hr ha n hy (hn y hy)⟩
theorem countP_lt {α : Type} {p q : α → Bool} : ∀ {l : List α}, (∀ x ∈ l, p x = true → q x = true) → (∃ x ∈ l, q x = true ∧ p x = false) → l.countP p < l.countP q
  | [], _, ⟨x, hx, _⟩ => by simp at hx
  | a :: l, h, ⟨x, hx, hq, hp⟩ => by
    have hm := List.countP_mono_left (p := p) (q := q) (l := l) (fun y hy => h y (List.mem_cons_of_mem _ hy))
    rw [List.countP_cons, List.countP_cons]
    rcases List.mem_cons.1 hx with rfl | hx
    · rw [if_neg (by simp [hp]), if_pos hq]; omega
    · have := countP_lt (fun y hy => h y (List.mem_cons_of_mem _ hy)) ⟨x, hx, hq, hp⟩
      by_cases ha : p a = true
      · rw [if_pos ha, if_pos (h a (by simp) ha)]; omega
      · rw [if_neg ha]; split <;> omega
end

/-! ### The immediate dominators as parents -/
section
variable {G : Graph} {L : List (Option Nat)}
/-- How many other blocks dominate y. -/
noncomputable def drk (G : Graph) (y : Nat) : Nat := (List.range G.length).countP fun z => @decide (z ≠ y ∧ Dm G z y) (Classical.propDecidable _)
theorem drk_lt {y : Nat} (hy : y < G.length) : drk G y < G.length := by
  have h := countP_lt (p := fun z => @decide (z ≠ y ∧ Dm G z y) (Classical.propDecidable _)) (q := fun _ => true) (l := List.range G.length) (fun _ _ _ => rfl) ⟨y, by simpa using hy, rfl, by simp⟩
  rw [List.countP_true, List.length_range] at h
  unfold drk
  exact h
theorem drk_idom (hg : Gd G) {x y : Nat} (h : IsIdom G x y) : drk G x < drk G y := by
  unfold drk
  refine countP_lt (fun z _ hz => ?_) ⟨x, by simpa using (h.2.1.lt hg).1, ?_, by simp⟩
  · have hz := @of_decide_eq_true _ (Classical.propDecidable _) hz
    refine @decide_eq_true _ (Classical.propDecidable _) ⟨fun e => ?_, hz.2.trans h.2.1⟩
    subst e
    exact h.1 (Dm.antisymm h.2.1 hz.2)
  · exact @decide_eq_true _ (Classical.propDecidable _) ⟨h.1, h.2.1⟩
theorem IdomsOK.idom (h : IdomsOK G L) {y p : Nat} (e : L[y]! = some p) : IsIdom G p y := by
  by_cases hy : y < G.length
  · exact (h.spec y hy).1 p e
  · rw [List.getElem!_eq_getElem?_getD, List.getElem?_eq_none (by rw [h.len]; omega)] at e; cases e
theorem IdomsOK.ex (h : IdomsOK G L) (hg : Gd G) {y : Nat} (hy : Rc G 0 y) (h0 : y ≠ 0) : ∃ p, L[y]! = some p := by
  cases e : L[y]! with
  | some p => exact ⟨p, rfl⟩
  | none => rcases (h.spec y (Rch.lt hg hg.pos hy)).2 e with h1 | h1
            · exact absurd h1 h0
            · exact absurd hy h1
theorem IdomsOK.abv (h : IdomsOK G L) (hg : Gd G) {x y : Nat} (hy : Rc G 0 y) : Abv (fun y => L[y]!) x y ↔ Dm G x y := by
  constructor
  · intro ha
    induction ha with
    | refl => exact dm_refl hy
    | step e _ ih =>
      have hi := h.idom e
      exact (ih hi.2.1.rcl).trans hi.2.1
  · generalize hm : drk G y = m
    induction m using Nat.strongRecOn generalizing y with
    | _ m ih =>
      intro hd
      by_cases e : x = y
      · subst e; exact .refl _
      · have h0 : y ≠ 0 := fun h0 => by subst h0; exact e (dm_zero_only hd)
        obtain ⟨p, hp⟩ := h.ex hg hy h0
        have hi := h.idom hp
        exact .step hp (ih _ (by rw [← hm]; exact drk_idom hg hi) hi.2.1.rcl rfl (hi.2.2 x e hd))
end

/-! ### Ways of two graphs -/
theorem dm_move {G G' : Graph} {a b : Nat} (hex : ∃ π, Pth G' π b) (hp : ∀ π', Pth G' π' b → ∃ π, Pth G π b ∧ (a ∈ π → a ∈ π')) (h : Dm G a b) : Dm G' a b := by
  refine dm_iff.2 ⟨hex, fun π' hπ => ?_⟩
  obtain ⟨π, h1, h2⟩ := hp π' hπ
  exact h2 ((dm_iff.1 h).2 π h1)
theorem pth_mono {G G' : Graph} {π : List Nat} {y : Nat} (he : ∀ p z, Rc G 0 p → Ed G p z → Ed G' p z) (h : Pth G π y) : Pth G' π y := by
  induction h with
  | nil => exact .nil
  | step hp e ih => exact .step ih (he _ _ hp.rc e)
/-- The same ways out of what can be reached. -/
theorem dm_live {G G' : Graph} (h1 : ∀ p z, Rc G 0 p → Ed G p z → Ed G' p z) (h2 : ∀ p z, Ed G' p z → Ed G p z) (a b : Nat) : Dm G a b ↔ Dm G' a b := by
  have k1 : ∀ {π y}, Pth G π y → Pth G' π y := fun h => pth_mono h1 h
  have k2 : ∀ {π y}, Pth G' π y → Pth G π y := fun h => pth_mono (fun p z _ => h2 p z) h
  rw [dm_iff, dm_iff]
  exact ⟨fun ⟨⟨π, h⟩, h'⟩ => ⟨⟨π, k1 h⟩, fun π hp => h' π (k2 hp)⟩, fun ⟨⟨π, h⟩, h'⟩ => ⟨⟨π, k2 h⟩, fun π hp => h' π (k1 hp)⟩⟩
theorem ed_more {G : Graph} {x y : Nat} (hx : x < G.length) (a b : Nat) : Ed (G.set x (G[x]! ++ [y])) a b ↔ Ed G a b ∨ (a = x ∧ b = y) := by
  unfold Ed
  rw [List.length_set, get!_set _ _ _ _ hx]
  split
  · rename_i h; subst h
    rw [List.mem_append, List.mem_singleton]
    constructor
    · rintro ⟨h1, h2 | h2⟩
      · exact .inl ⟨h1, h2⟩
      · exact .inr ⟨rfl, h2⟩
    · rintro (⟨h1, h2⟩ | ⟨_, h2⟩)
      · exact ⟨h1, .inl h2⟩
      · exact ⟨hx, .inr h2⟩
  · rename_i h
    constructor
    · exact fun h1 => .inl h1
    · rintro (h1 | ⟨h1, _⟩)
      · exact h1
      · exact absurd h1.symm h
/-- A way more to a block that dominates the one from which it comes. -/
theorem dm_wayback {G : Graph} {x y : Nat} (hx : x < G.length) (hd : Dm G y x) (a b : Nat) : Dm G a b ↔ Dm (G.set x (G[x]! ++ [y])) a b := by
  have k1 : ∀ {π z}, Pth G π z → Pth (G.set x (G[x]! ++ [y])) π z := fun h => pth_mono (fun p z _ e => (ed_more hx p z).2 (.inl e)) h
  have k2 : ∀ {π z}, Pth (G.set x (G[x]! ++ [y])) π z → ∃ π', Pth G π' z ∧ ∀ u ∈ π', u ∈ π := by
    intro π z h
    induction h with
    | nil => exact ⟨[0], .nil, fun u hu => hu⟩
    | step hp e ih =>
      obtain ⟨π', h1, h2⟩ := ih
      rcases (ed_more hx _ _).1 e with e | ⟨rfl, rfl⟩
      · exact ⟨_, .step h1 e, fun u hu => by
          rcases List.mem_cons.1 hu with rfl | hu
          · simp
          · exact List.mem_cons_of_mem _ (h2 u hu)⟩
      · obtain ⟨zs, t, rfl, h3⟩ := h1.split ((dm_iff.1 hd).2 π' h1)
        exact ⟨_, h3, fun u hu => List.mem_cons_of_mem _ (h2 u (List.mem_append_right _ hu))⟩
  constructor
  · intro h
    obtain ⟨π, hp⟩ := pth_of_rc h.rc
    exact dm_move ⟨π, k1 hp⟩ (fun π' hπ => by obtain ⟨π, h1, h2⟩ := k2 hπ; exact ⟨π, h1, h2 a⟩) h
  · intro h
    obtain ⟨π, hp⟩ := pth_of_rc h.rc
    obtain ⟨π', h1, _⟩ := k2 hp
    exact dm_move ⟨π', h1⟩ (fun π' hπ => ⟨π', k1 hπ, fun h => h⟩) h

/-! ### A block more on a way -/
def splitG (G : Graph) (x k : Nat) : Graph := G.set x (G[x]!.set k G.length) ++ [[G[x]![k]!]]
section
variable {G : Graph} {x k : Nat}
theorem splitG_len : (splitG G x k).length = G.length + 1 := by simp [splitG]
theorem splitG_old {i : Nat} (hi : i < G.length) (hx : x < G.length) : (splitG G x k)[i]! = if x = i then G[x]!.set k G.length else G[i]! := by
  unfold splitG
  rw [get!_append_left (by rw [List.length_set]; exact hi), get!_set _ _ _ _ hx]
theorem splitG_new : (splitG G x k)[G.length]! = [G[x]![k]!] := by
  unfold splitG
  have := get!_append_len (G.set x (G[x]!.set k G.length)) [G[x]![k]!]
  rwa [List.length_set] at this
theorem ed_split_new {z : Nat} : Ed (splitG G x k) G.length z ↔ z = G[x]![k]! := by
  unfold Ed; rw [splitG_new, splitG_len, List.mem_singleton]
  exact ⟨fun h => h.2, fun h => ⟨by omega, h⟩⟩
theorem ed_split_in (hx : x < G.length) (hk : k < G[x]!.length) : Ed (splitG G x k) x G.length := by
  refine ⟨by rw [splitG_len]; omega, ?_⟩
  rw [splitG_old hx hx, if_pos rfl]
  exact List.mem_iff_getElem.2 ⟨k, by simpa using hk, by simp⟩
theorem ed_split_from (hx : x < G.length) {p z : Nat} (hp : p < G.length) (e : Ed (splitG G x k) p z) : Ed G p z ∨ (p = x ∧ z = G.length) := by
  have h := e.2
  rw [splitG_old hp hx] at h
  split at h
  · rename_i h1; subst h1
    rcases List.mem_or_eq_of_mem_set h with h | h
    · exact .inl ⟨hx, h⟩
    · exact .inr ⟨rfl, h⟩
  · exact .inl ⟨hp, h⟩
theorem ed_split_to (hx : x < G.length) {p z : Nat} (e : Ed G p z) (hne : ¬ (p = x ∧ z = G[x]![k]!)) : Ed (splitG G x k) p z := by
  refine ⟨by rw [splitG_len]; have := e.1; omega, ?_⟩
  rw [splitG_old e.1 hx]
  split
  · rename_i h1; subst h1
    obtain ⟨j, hj, e2⟩ := e.idx
    have hjk : j ≠ k := fun h => hne ⟨rfl, by rw [← e2, h]⟩
    refine List.mem_iff_getElem.2 ⟨j, by simpa using hj, ?_⟩
    rw [List.getElem_set_ne (fun h => hjk h.symm), ← e2, getElem!_pos _ j hj]
  · exact e.2
theorem gd_split (hg : Gd G) (h12 : G.length ≤ 12) (hx : x < G.length) (hk : k < G[x]!.length) : Gd (splitG G x k) := by
  have hto := hg.lt x hx k hk
  refine ⟨by rw [splitG_len]; omega, by rw [splitG_len]; omega, fun i hi => ?_, fun i hi j hj => ?_⟩
  · rw [splitG_len] at hi
    by_cases h : i < G.length
    · rw [splitG_old h hx]
      split
      · rw [List.length_set]; exact hg.row x hx
      · exact hg.row i h
    · obtain rfl : i = G.length := by omega
      rw [splitG_new]; simp
  · have hi' : i < G.length + 1 := by rw [splitG_len] at hi; exact hi
    have he := (Ed.get hi hj).2
    rw [splitG_len]
    by_cases h : i < G.length
    · rcases ed_split_from hx h (Ed.get hi hj) with e | e
      · have := e.lt hg; omega
      · omega
    · obtain rfl : i = G.length := by omega
      have := ed_split_new.1 (Ed.get hi hj)
      omega
theorem split_down (hg : Gd G) (hx : x < G.length) (hk : k < G[x]!.length) {π : List Nat} {y : Nat} (h : Pth (splitG G x k) π y) : (y < G.length → ∃ π', Pth G π' y ∧ ∀ u ∈ π', u ∈ π) ∧ (¬ y < G.length → y = G.length ∧ ∃ π', Pth G π' x ∧ ∀ u ∈ π', u ∈ π) := by
  induction h with
  | nil => exact ⟨fun _ => ⟨[0], .nil, fun u hu => hu⟩, fun h => absurd hg.pos h⟩
  | step hp e ih =>
    rename_i π p y
    by_cases h : p < G.length
    · obtain ⟨π', h1, h2⟩ := ih.1 h
      rcases ed_split_from hx h e with e | ⟨rfl, rfl⟩
      · refine ⟨fun _ => ⟨_, .step h1 e, fun u hu => ?_⟩, fun hn => absurd (e.lt hg) hn⟩
        rcases List.mem_cons.1 hu with rfl | hu
        · simp
        · exact List.mem_cons_of_mem _ (h2 u hu)
      · exact ⟨fun hn => absurd hn (Nat.lt_irrefl _), fun _ => ⟨rfl, π', h1, fun u hu => List.mem_cons_of_mem _ (h2 u hu)⟩⟩
    · obtain ⟨rfl, π', h1, h2⟩ := ih.2 h
      obtain rfl := ed_split_new.1 e
      have ed := Ed.get hx hk
      refine ⟨fun _ => ⟨_, .step h1 ed, fun u hu => ?_⟩, fun hn => absurd (ed.lt hg) hn⟩
      rcases List.mem_cons.1 hu with rfl | hu
      · simp
      · exact List.mem_cons_of_mem _ (h2 u hu)
theorem split_up (hx : x < G.length) (hk : k < G[x]!.length) {π : List Nat} {y : Nat} (h : Pth G π y) : ∃ π', Pth (splitG G x k) π' y ∧ ∀ u ∈ π', u ∈ π ∨ u = G.length := by
  induction h with
  | nil => exact ⟨[0], .nil, fun u hu => .inl hu⟩
  | step hp e ih =>
    rename_i π p y
    obtain ⟨π', h1, h2⟩ := ih
    by_cases h : p = x ∧ y = G[x]![k]!
    · obtain ⟨rfl, rfl⟩ := h
      refine ⟨_, .step (.step h1 (ed_split_in hx hk)) (ed_split_new.2 rfl), fun u hu => ?_⟩
      rcases List.mem_cons.1 hu with rfl | hu
      · simp
      · rcases List.mem_cons.1 hu with rfl | hu
        · exact .inr rfl
        · rcases h2 u hu with h3 | h3
          · exact .inl (List.mem_cons_of_mem _ h3)
          · exact .inr h3
    · refine ⟨_, .step h1 (ed_split_to hx e h), fun u hu => ?_⟩
      rcases List.mem_cons.1 hu with rfl | hu
      · simp
      · rcases h2 u hu with h3 | h3
        · exact .inl (List.mem_cons_of_mem _ h3)
        · exact .inr h3
theorem rc_split (hg : Gd G) (hx : x < G.length) (hk : k < G[x]!.length) {b : Nat} (h : Rc G 0 b) : Rc (splitG G x k) 0 b := by
  obtain ⟨π, hp⟩ := pth_of_rc h
  obtain ⟨π', h1, _⟩ := split_up hx hk hp
  exact h1.rc
theorem dm_split (hg : Gd G) (hx : x < G.length) (hk : k < G[x]!.length) {a b : Nat} (ha : a < G.length) (hb : Rc G 0 b) : Dm G a b ↔ Dm (splitG G x k) a b := by
  have hbl := Rch.lt hg hg.pos hb
  constructor
  · exact dm_move (pth_of_rc (rc_split hg hx hk hb)) (fun π' hπ => by obtain ⟨π, h1, h2⟩ := (split_down hg hx hk hπ).1 hbl; exact ⟨π, h1, h2 a⟩)
  · exact dm_move (pth_of_rc hb) (fun π hπ => by
      obtain ⟨π', h1, h2⟩ := split_up hx hk hπ
      refine ⟨π', h1, fun h => ?_⟩
      rcases h2 a h with h3 | h3
      · exact h3
      · omega)
end

/-! ### Other numbers -/
structure Iso (G G' : Graph) (nm : Nat → Nat) : Prop where
  len : G'.length = G.length
  lt : ∀ x, x < G.length → nm x < G.length
  inj : ∀ x y, x < G.length → y < G.length → nm x = nm y → x = y
  zero : nm 0 = 0
  row : ∀ x, x < G.length → G'[nm x]! = G[x]!.map nm
section
variable {G G' : Graph} {nm : Nat → Nat}
theorem Iso.pth (h : Iso G G' nm) {π : List Nat} {y : Nat} (hp : Pth G π y) : Pth G' (π.map nm) (nm y) := by
  induction hp with
  | nil => rw [List.map_cons, List.map_nil, h.zero]; exact .nil
  | step _ e ih => exact .step ih ⟨by rw [h.len]; exact h.lt _ e.1, by rw [h.row _ e.1]; exact List.mem_map_of_mem e.2⟩
theorem Iso.back (h : Iso G G' nm) (hg : Gd G) {π' : List Nat} {y' : Nat} (hp : Pth G' π' y') : ∃ π y, Pth G π y ∧ π' = π.map nm ∧ y' = nm y := by
  induction hp with
  | nil => exact ⟨[0], 0, .nil, by simp [h.zero], h.zero.symm⟩
  | step _ e ih =>
    obtain ⟨π, y, h1, rfl, rfl⟩ := ih
    have hy := h1.lt hg y h1.mem
    have h2 := e.2
    rw [h.row y hy] at h2
    obtain ⟨z, hz, rfl⟩ := List.mem_map.1 h2
    exact ⟨z :: π, z, .step h1 ⟨hy, hz⟩, rfl, rfl⟩
theorem Iso.back' (h : Iso G G' nm) (hg : Gd G) {π' : List Nat} {y : Nat} (hy : y < G.length) (hp : Pth G' π' (nm y)) : ∃ π, Pth G π y ∧ π' = π.map nm := by
  obtain ⟨π, z, h1, h2, h3⟩ := h.back hg hp
  obtain rfl := h.inj y z hy (h1.lt hg z h1.mem) h3
  exact ⟨π, h1, h2⟩
theorem Iso.dm (h : Iso G G' nm) (hg : Gd G) {x y : Nat} (hx : x < G.length) (hy : y < G.length) : Dm G x y ↔ Dm G' (nm x) (nm y) := by
  rw [dm_iff, dm_iff]
  constructor
  · rintro ⟨⟨π, hp⟩, hall⟩
    refine ⟨⟨_, h.pth hp⟩, fun π' hp' => ?_⟩
    obtain ⟨π, h1, rfl⟩ := h.back' hg hy hp'
    exact List.mem_map_of_mem (hall π h1)
  · rintro ⟨⟨π', hp'⟩, hall⟩
    obtain ⟨π, h1, rfl⟩ := h.back' hg hy hp'
    refine ⟨⟨π, h1⟩, fun π hp => ?_⟩
    obtain ⟨z, hz, e⟩ := List.mem_map.1 (hall _ (h.pth hp))
    rw [← h.inj z x (hp.lt hg z hz) hx e]; exact hz
theorem Iso.idoms (h : Iso G G' nm) (hg : Gd G) {L L' : List (Option Nat)} (hL : IdomsOK G L) (hL' : IdomsOK G' L') {x : Nat} (hx : x < G.length) : L'[nm x]! = L[x]!.map nm := by
  refine (hL'.spec (nm x) (by rw [h.len]; exact h.lt x hx)).unique ⟨fun d' e => ?_, fun e => ?_⟩
  · obtain ⟨d, e1, rfl⟩ := Option.map_eq_some_iff.1 e
    obtain ⟨h1, h2, h3⟩ := (hL.spec x hx).1 d e1
    have hd := (h2.lt hg).1
    refine ⟨fun e => h1 (h.inj d x hd hx e), (h.dm hg hd hx).1 h2, fun z hz hdz => ?_⟩
    obtain ⟨π, hp⟩ := pth_of_rc h2.rc
    obtain ⟨v, hv, rfl⟩ := List.mem_map.1 ((dm_iff.1 hdz).2 _ (h.pth hp))
    have hvl := hp.lt hg v hv
    exact (h.dm hg hvl hd).1 (h3 v (fun e => hz (by rw [e])) ((h.dm hg hvl hx).2 hdz))
  · rcases (hL.spec x hx).2 (Option.map_eq_none_iff.1 e) with h1 | h1
    · subst h1; exact .inl h.zero
    · refine .inr fun hr => h1 ?_
      obtain ⟨π', hp⟩ := pth_of_rc hr
      obtain ⟨π, h2, _⟩ := h.back' hg hx hp
      exact h2.rc
end
/-- The turned numbers. -/
def tnm (n turn x : Nat) : Nat := if x = 0 then 0 else 1 + (x - 1 + turn) % (n - 1)
theorem tnm_lt {n turn x : Nat} (hn : 1 ≤ n) (hx : x < n) : tnm n turn x < n := by
  unfold tnm
  split
  · omega
  · have := Nat.mod_lt (x - 1 + turn) (show 0 < n - 1 by omega); omega
theorem mod_eq_small {a b m t : Nat} (ha : a < m) (hb : b ≤ a) (h : (a + t) % m = (b + t) % m) : a = b := by
  have h1 := Nat.sub_mod_eq_zero_of_mod_eq h
  rw [Nat.mod_eq_of_lt (by omega)] at h1
  omega
theorem tnm_inj {n turn x y : Nat} (hx : x < n) (hy : y < n) (h : tnm n turn x = tnm n turn y) : x = y := by
  unfold tnm at h
  split at h
  · split at h
    · omega
    · omega
  · split at h
    · omega
    · have h1 : (x - 1 + turn) % (n - 1) = (y - 1 + turn) % (n - 1) := by omega
      rcases Nat.le_total (y - 1) (x - 1) with h2 | h2
      · have := mod_eq_small (by omega) h2 h1; omega
      · have := mod_eq_small (by omega) h2 h1.symm; omega
end Go.PL
