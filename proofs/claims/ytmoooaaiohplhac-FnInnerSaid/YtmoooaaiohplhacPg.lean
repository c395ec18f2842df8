/- The forest and the buckets of Lengauer's and Tarjan's road. No program here. -/
import Derived.Test.YtmoooaaiohplhacPf
namespace Go.PL
def oset {α : Type} (f : Nat → α) (x : Nat) (a : α) : Nat → α := fun y => if y = x then a else f y
theorem oset_same {α : Type} (f : Nat → α) (x : Nat) (a : α) : oset f x a x = a := by simp [oset]
theorem oset_ne {α : Type} (f : Nat → α) {x y : Nat} (a : α) (h : y ≠ x) : oset f x a y = f y := by simp [oset, h]

/-- l has the least value between a (not counted) and x. -/
structure Seg (nu pr sv : Nat → Nat) (k x a l : Nat) : Prop where
  an : An pr a x
  ne : a ≠ x
  al : An pr a l
  lne : l ≠ a
  lx : An pr l x
  min : ∀ y, An pr y x → An pr a y → y ≠ a → k ≤ nu y ∧ sv l ≤ sv y
/-- The forest: blocks with numbers from k on are linked. -/
structure FI (nu pr sv : Nat → Nat) (k : Nat) (anc : Nat → Option Nat) (lab : Nat → Nat) : Prop where
  un : ∀ x, nu x < k → anc x = none
  lu : ∀ x, nu x ≠ 0 → nu x < k → lab x = x
  li : ∀ x, k ≤ nu x → ∃ a, anc x = some a ∧ Seg nu pr sv k x a (lab x)
/-- The values. -/
structure SV (G : Graph) (nu sv : Nat → Nat) (k : Nat) : Prop where
  lo : ∀ x, nu x < k → sv x = nu x
  hi : ∀ x, k ≤ nu x → ∃ s, IsSd G nu s x ∧ sv x = nu s

section
variable {G : Graph} {nu pr sv : Nat → Nat} {k : Nat} {anc : Nat → Option Nat} {lab : Nat → Nat}
theorem FI.comp (h : DT G nu pr) (hk : 0 < k) (f : FI nu pr sv k anc lab) {v a r : Nat} (hv : k ≤ nu v) (h1 : anc v = some a) (h2 : anc a = some r) :
    FI nu pr sv k (oset anc v (some r)) (oset lab v (if sv (lab a) < sv (lab v) then lab a else lab v)) := by
  have hvl : nu v ≠ 0 := by omega
  have ha : k ≤ nu a := by
    by_cases c : k ≤ nu a
    · exact c
    · rw [f.un a (by omega)] at h2; cases h2
  obtain ⟨a', e1, s1⟩ := f.li v hv
  rw [h1] at e1; cases e1
  obtain ⟨r', e2, s2⟩ := f.li a ha
  rw [h2] at e2; cases e2
  have hal : nu a ≠ 0 := by omega
  have hav := h.lt s1.an hvl s1.ne
  have hra := h.lt s2.an hal s2.ne
  refine ⟨fun x hx => ?_, fun x hx hx' => ?_, fun x hx => ?_⟩
  · rw [oset_ne _ _ (fun e => by subst e; omega)]; exact f.un x hx
  · rw [oset_ne _ _ (fun e => by subst e; omega)]; exact f.lu x hx hx'
  · by_cases e : x = v
    · subst e
      refine ⟨r, oset_same _ _ _, ?_⟩
      rw [oset_same]
      have hl1 : An pr r (lab x) := s2.an.trans s1.al
      have hl1n : lab x ≠ r := fun e => by
        have := (h.anl s1.al ((h.anl s1.lx hvl).1)).2
        rw [e] at this; omega
      have hl2 : An pr (lab a) x := s2.lx.trans s1.an
      have hmin : ∀ y, An pr y x → An pr r y → y ≠ r → k ≤ nu y ∧ (sv (lab a) ≤ sv y ∨ sv (lab x) ≤ sv y) := by
        intro y hy1 hy2 hy3
        by_cases c : nu y ≤ nu a
        · obtain ⟨k1, k2⟩ := s2.min y (h.comp hy1 s1.an hvl c) hy2 hy3
          exact ⟨k1, .inl k2⟩
        · obtain ⟨k1, k2⟩ := s1.min y hy1 (h.comp s1.an hy1 hvl (by omega)) (fun e => by subst e; omega)
          exact ⟨k1, .inr k2⟩
      split
      · rename_i c
        exact ⟨s2.an.trans s1.an, fun e => by subst e; omega, s2.al, s2.lne, hl2, fun y a1 a2 a3 => by obtain ⟨k1, k2⟩ := hmin y a1 a2 a3; exact ⟨k1, by omega⟩⟩
      · rename_i c
        exact ⟨s2.an.trans s1.an, fun e => by subst e; omega, hl1, hl1n, s1.lx, fun y a1 a2 a3 => by obtain ⟨k1, k2⟩ := hmin y a1 a2 a3; exact ⟨k1, by omega⟩⟩
    · rw [oset_ne _ _ e, oset_ne _ _ e]; exact f.li x hx
/-- A block is linked. -/
theorem FI.link (h : DT G nu pr) (f : FI nu pr sv (k + 1) anc lab) {w : Nat} (hw : nu w = k) (hk : 0 < k) (h0 : w ≠ 0) : FI nu pr sv k (oset anc w (some (pr w))) lab := by
  have hwl : nu w ≠ 0 := by omega
  obtain ⟨_, p1, p2⟩ := h.par w h0 hwl
  have hpa : An pr (pr w) w := .up h0 .refl
  have hpn : pr w ≠ w := fun e => by rw [e] at p1; omega
  refine ⟨fun x hx => ?_, fun x hx hx' => f.lu x hx (by omega), fun x hx => ?_⟩
  · rw [oset_ne _ _ (fun e => by subst e; omega)]; exact f.un x (by omega)
  · by_cases e : x = w
    · subst e
      refine ⟨pr x, oset_same _ _ _, ?_⟩
      rw [f.lu x hwl (by omega)]
      refine ⟨hpa, hpn, hpa, Ne.symm hpn, .refl, fun y a1 a2 a3 => ?_⟩
      have : y = x := by
        cases a1 with
        | refl => rfl
        | up _ a1 => exact absurd (h.anti a1 a2 p2) a3
      subst this; exact ⟨by omega, Nat.le_refl _⟩
    · rw [oset_ne _ _ e]
      have hxk : k + 1 ≤ nu x := by
        have : nu x ≠ nu w := fun e' => e (h.inj x w e' (by omega))
        omega
      obtain ⟨a, e1, s⟩ := f.li x hxk
      exact ⟨a, e1, s.an, s.ne, s.al, s.lne, s.lx, fun y a1 a2 a3 => by obtain ⟨k1, k2⟩ := s.min y a1 a2 a3; exact ⟨by omega, k2⟩⟩
/-- What eval yields. -/
def EvalOK (nu pr sv : Nat → Nat) (k v u : Nat) : Prop := (nu v < k ∧ u = v) ∨ (k ≤ nu v ∧ ∃ r, nu r < k ∧ Seg nu pr sv k v r u)
theorem EvalOK.least (h : DT G nu pr) {v u : Nat} (he : EvalOK nu pr sv k v u) (hk : 0 < k) (hv : k ≤ nu v) : An pr u v ∧ k ≤ nu u ∧ ∀ y, An pr y v → k ≤ nu y → sv u ≤ sv y := by
  rcases he with ⟨c, _⟩ | ⟨_, r, hr, s⟩
  · omega
  · have hvl : nu v ≠ 0 := by omega
    exact ⟨s.lx, (s.min u s.lx s.al s.lne).1, fun y a1 a2 => (s.min y a1 (h.comp s.an a1 hvl (by omega)) (fun e => by subst e; omega)).2⟩
/-- What the loop over the ways into w has found. -/
structure SO (nu pr sv : Nat → Nat) (w : Nat) (l : List Nat) (c : Nat) : Prop where
  le : c ≤ nu w
  src : c = nu w ∨ ∃ v ∈ l, nu v ≠ 0 ∧ ((nu v ≤ nu w ∧ c = nu v) ∨ ∃ u, nu w < nu u ∧ An pr u v ∧ c = sv u)
  lo : ∀ v ∈ l, nu v ≠ 0 → nu v ≤ nu w → c ≤ nu v
  hi : ∀ v ∈ l, nu v ≠ 0 → ∀ u, nu w < nu u → An pr u v → c ≤ sv u
theorem so_nil {w : Nat} : SO nu pr sv w [] (nu w) := ⟨Nat.le_refl _, .inl rfl, by simp, by simp⟩
theorem SO.skip {w v c : Nat} {l : List Nat} (h : SO nu pr sv w l c) (hv : nu v = 0) : SO nu pr sv w (l ++ [v]) c := by
  refine ⟨h.le, ?_, fun x hx hn => ?_, fun x hx hn => ?_⟩
  · rcases h.src with k | ⟨x, k1, k2⟩
    · exact .inl k
    · exact .inr ⟨x, by simp [k1], k2⟩
  · rcases List.mem_append.1 hx with hx | hx
    · exact h.lo x hx hn
    · rw [List.mem_singleton.1 hx] at hn; exact absurd hv hn
  · rcases List.mem_append.1 hx with hx | hx
    · exact h.hi x hx hn
    · rw [List.mem_singleton.1 hx] at hn; exact absurd hv hn
/-- A way into w from v, and u = eval v. The values but that of w are as they were. -/
theorem SO.take (h : DT G nu pr) {w v u c : Nat} {l : List Nat} (hs : SO nu pr sv w l c) (hv : nu v ≠ 0) (he : EvalOK nu pr sv (nu w + 1) v u) (hlo : ∀ x, nu x ≤ nu w → x ≠ w → sv x = nu x) (hc : sv w = c) : SO nu pr sv w (l ++ [v]) (if sv u < c then sv u else c) := by
  have hold : ∀ c', c' ≤ c → (∀ x ∈ l, nu x ≠ 0 → nu x ≤ nu w → c' ≤ nu x) ∧ (∀ x ∈ l, nu x ≠ 0 → ∀ u, nu w < nu u → An pr u x → c' ≤ sv u) := fun c' hc' =>
    ⟨fun x hx hn hn' => Nat.le_trans hc' (hs.lo x hx hn hn'), fun x hx hn u hu ha => Nat.le_trans hc' (hs.hi x hx hn u hu ha)⟩
  have hsrc : (c = nu w ∨ ∃ x ∈ l ++ [v], nu x ≠ 0 ∧ ((nu x ≤ nu w ∧ c = nu x) ∨ ∃ u, nu w < nu u ∧ An pr u x ∧ c = sv u)) := by
    rcases hs.src with k | ⟨x, k1, k2⟩
    · exact .inl k
    · exact .inr ⟨x, by simp [k1], k2⟩
  by_cases hvw : nu v ≤ nu w
  · have hu : u = v := by
      rcases he with ⟨_, e⟩ | ⟨c, _⟩
      · exact e
      · omega
    subst hu
    by_cases e : u = w
    · subst e
      rw [hc, if_neg (Nat.lt_irrefl _)]
      refine ⟨hs.le, hsrc, fun x hx hn hn' => ?_, fun x hx hn y hy ha => ?_⟩
      · rcases List.mem_append.1 hx with hx | hx
        · exact hs.lo x hx hn hn'
        · rw [List.mem_singleton.1 hx]; exact hs.le
      · rcases List.mem_append.1 hx with hx | hx
        · exact hs.hi x hx hn y hy ha
        · rw [List.mem_singleton.1 hx] at ha; have := (h.anl ha hv).2; omega
    · have hsu := hlo u hvw e
      have h2 := hs.le
      refine ⟨by split <;> omega, ?_, fun x hx hn hn' => ?_, fun x hx hn y hy ha => ?_⟩
      · split
        · exact .inr ⟨u, by simp, hv, .inl ⟨hvw, hsu⟩⟩
        · exact hsrc
      · rcases List.mem_append.1 hx with hx | hx
        · exact (hold _ (by split <;> omega)).1 x hx hn hn'
        · rw [List.mem_singleton.1 hx]; split <;> omega
      · rcases List.mem_append.1 hx with hx | hx
        · exact (hold _ (by split <;> omega)).2 x hx hn y hy ha
        · rw [List.mem_singleton.1 hx] at ha; have := (h.anl ha hv).2; omega
  · obtain ⟨e1, e2, e3⟩ := he.least h (by omega) (by omega)
    have h2 := hs.le
    refine ⟨by split <;> omega, ?_, fun x hx hn hn' => ?_, fun x hx hn y hy ha => ?_⟩
    · split
      · exact .inr ⟨v, by simp, hv, .inr ⟨u, by omega, e1, rfl⟩⟩
      · exact hsrc
    · rcases List.mem_append.1 hx with hx | hx
      · exact (hold _ (by split <;> omega)).1 x hx hn hn'
      · rw [List.mem_singleton.1 hx] at hn'; omega
    · rcases List.mem_append.1 hx with hx | hx
      · exact (hold _ (by split <;> omega)).2 x hx hn y hy ha
      · rw [List.mem_singleton.1 hx] at ha
        have := e3 y ha (by omega)
        split <;> omega
/-- All ways into w seen. -/
theorem SO.done (h : DT G nu pr) {w c s : Nat} {l : List Nat} (hl : ∀ v, v ∈ l ↔ Ed G v w) (hs : SO nu pr sv w l c) (hw : nu w ≠ 0) (h0 : w ≠ 0) (hsv : ∀ x, nu w < nu x → ∃ t, IsSd G nu t x ∧ sv x = nu t) (hsc : nu s = c) (hc0 : nu s ≠ 0) : IsSd G nu s w := by
  subst hsc
  refine h.sd hw hc0 hs.le ?_ (fun v e hv hle => hs.lo v ((hl v).2 e) hv hle) (fun v u t e hv hu ha ht => ?_) (fun u hu => ?_) h0
  · rcases hs.src with k | ⟨v, k1, k2, ⟨k3, k4⟩ | ⟨u, k3, k4, k5⟩⟩
    · exact .inl (h.inj s w k hc0)
    · exact .inr (.inl ⟨v, (hl v).1 k1, k2, k3, h.inj s v k4 hc0⟩)
    · obtain ⟨t, t1, t2⟩ := hsv u k3
      have : s = t := h.inj s t (by omega) hc0
      subst this
      exact .inr (.inr ⟨v, u, (hl v).1 k1, k2, k3, k4, t1⟩)
  · obtain ⟨t', t1, t2⟩ := hsv u hu
    have h1 := hs.hi v ((hl v).2 e) hv u hu ha
    have h2 := t1.low t ht.live ht.sp
    omega
  · obtain ⟨t, t1, _⟩ := hsv u hu
    exact ⟨t, t1⟩
theorem IsSd.uniq (h : DT G nu pr) {s s' w : Nat} (a : IsSd G nu s w) (b : IsSd G nu s' w) : s = s' := by
  have h1 := a.low s' b.live b.sp
  have h2 := b.low s a.live a.sp
  exact h.inj s s' (by omega) a.live
/-- What is written ahead of the last step. -/
def RelD (G : Graph) (nu pr : Nat → Nat) (v o : Nat) : Prop := ∃ s, IsSd G nu s v ∧
  ((o = s ∧ ∀ y t, An pr s y → y ≠ s → An pr y v → IsSd G nu t y → nu s ≤ nu t) ∨
   (∃ tu, An pr s o ∧ o ≠ s ∧ An pr o v ∧ IsSd G nu tu o ∧ nu tu < nu s ∧ ∀ y t, An pr s y → y ≠ s → An pr y v → IsSd G nu t y → nu tu ≤ nu t))
/-- A bucket is worked off: w is a child of p, v in the bucket of p. -/
theorem SV.rel (h : DT G nu pr) (sv' : SV G nu sv k) {w v u : Nat} (hw : nu w = k) (hk : 0 < k) (h0 : w ≠ 0) (hv : k ≤ nu v) (hp : IsSd G nu (pr w) v) (he : EvalOK nu pr sv k v u) : RelD G nu pr v (if sv u < sv v then u else pr w) := by
  have hvl : nu v ≠ 0 := by omega
  have hwl : nu w ≠ 0 := by omega
  obtain ⟨_, p1, p2⟩ := h.par w h0 hwl
  have hv0 : v ≠ 0 := fun e => by subst e; have := h.zero; omega
  obtain ⟨a1, a2, a3⟩ := h.sd_an hvl hv0 hp
  -- all between p and v is linked
  have hlk : ∀ y, An pr (pr w) y → y ≠ pr w → An pr y v → k ≤ nu y := by
    intro y b1 b2 b3
    by_cases c : k ≤ nu y
    · exact c
    · exfalso
      have hyw : An pr y w := h.iv y v w b3 hvl (by omega) (by omega)
      cases hyw with
      | refl => omega
      | up _ hyp => exact b2 (h.anti hyp b1 p2)
  obtain ⟨e1, e2, e3⟩ := he.least h hk hv
  have hul : nu u ≠ 0 := by omega
  have hpu : An pr (pr w) u := h.comp a1 e1 hvl (by omega)
  have hup : u ≠ pr w := fun e => by subst e; omega
  obtain ⟨tu, t1, t2⟩ := sv'.hi u e2
  obtain ⟨tv, t3, t4⟩ := sv'.hi v hv
  have htv : tv = pr w := t3.uniq h hp
  subst htv
  have hmin : ∀ y t, An pr (pr w) y → y ≠ pr w → An pr y v → IsSd G nu t y → sv u ≤ nu t := by
    intro y t b1 b2 b3 b4
    have hy := hlk y b1 b2 b3
    obtain ⟨t', c1, c2⟩ := sv'.hi y hy
    have := c1.uniq h b4
    subst this
    have := e3 y b3 hy
    omega
  refine ⟨pr w, hp, ?_⟩
  split
  · exact .inr ⟨tu, hpu, hup, e1, t1, by omega, fun y t b1 b2 b3 b4 => by have := hmin y t b1 b2 b3 b4; omega⟩
  · exact .inl ⟨rfl, fun y t b1 b2 b3 b4 => by have := hmin y t b1 b2 b3 b4; omega⟩
/-- The last step. -/
theorem RelD.last (h : DT G nu pr) {w o s : Nat} (hw : nu w ≠ 0) (h0 : w ≠ 0) (hr : RelD G nu pr w o) (hs : IsSd G nu s w) (hex : ∀ y, nu y ≠ 0 → y ≠ 0 → ∃ t, IsSd G nu t y) :
    (o = s ∧ IsIdom G s w) ∨ (o ≠ s ∧ o ≠ 0 ∧ nu o ≠ 0 ∧ nu o < nu w ∧ ∀ d, IsIdom G d o → IsIdom G d w) := by
  obtain ⟨s', h1, h2⟩ := hr
  have := h1.uniq h hs
  subst this
  rcases h2 with ⟨rfl, h2⟩ | ⟨tu, a1, a2, a3, a4, a5, a6⟩
  · exact .inl ⟨rfl, h.idom_sd hw h0 h1 h2 hex⟩
  · have hol := (h.anl a3 hw).1
    have hso := h.lt a1 hol (Ne.symm a2)
    have ho0 : o ≠ 0 := fun e => by subst e; have := h.zero; have := h.ge1 h1.live; omega
    have how : o ≠ w := fun e => by subst e; have := a4.uniq h h1; subst this; omega
    exact .inr ⟨a2, ho0, hol, h.lt a3 hw how, fun d hd => h.idom_rel hw h0 h1 a1 a2 a3 a4 a6 hex hd⟩
/-- Linked lists in two arrays. -/
inductive Ch (lk : Nat → Option Nat) : Option Nat → List Nat → Prop
  | nil : Ch lk none []
  | cons {x : Nat} {l : List Nat} : Ch lk (lk x) l → Ch lk (some x) (x :: l)
theorem Ch.set {lk : Nat → Option Nat} {o : Option Nat} {l : List Nat} (h : Ch lk o l) {w : Nat} (hw : w ∉ l) (a : Option Nat) : Ch (oset lk w a) o l := by
  induction h with
  | nil => exact .nil
  | @cons x l _ ih =>
    simp only [List.mem_cons, not_or] at hw
    refine .cons ?_
    rw [oset_ne _ _ (Ne.symm hw.1)]; exact ih hw.2
/-- The buckets. -/
def BI (G : Graph) (nu : Nat → Nat) (k : Nat) (hd lk : Nat → Option Nat) : Prop := ∀ p, ∃ l, Ch lk (hd p) l ∧ ∀ v, v ∈ l ↔ (k ≤ nu v ∧ IsSd G nu p v)
theorem BI.add (h : DT G nu pr) {hd lk : Nat → Option Nat} (b : BI G nu (k + 1) hd lk) {w s : Nat} (hw : nu w = k) (hk : 0 < k) (hs : IsSd G nu s w) : BI G nu k (oset hd s (some w)) (oset lk w (hd s)) := by
  have hin : ∀ p v, (k ≤ nu v ∧ IsSd G nu p v) ↔ ((v = w ∧ p = s) ∨ (k + 1 ≤ nu v ∧ IsSd G nu p v)) := by
    intro p v
    constructor
    · rintro ⟨a, c⟩
      by_cases e : v = w
      · subst e; exact .inl ⟨rfl, c.uniq h hs⟩
      · have : nu v ≠ nu w := fun e' => e (h.inj v w e' (by omega))
        exact .inr ⟨by omega, c⟩
    · rintro (⟨rfl, rfl⟩ | ⟨a, c⟩)
      · exact ⟨by omega, hs⟩
      · exact ⟨by omega, c⟩
  intro p
  obtain ⟨l, h1, h2⟩ := b p
  have hwl : w ∉ l := fun hm => by have := ((h2 w).1 hm).1; omega
  by_cases e : p = s
  · subst e
    refine ⟨w :: l, ?_, fun v => ?_⟩
    · rw [oset_same]; refine .cons ?_; rw [oset_same]; exact h1.set hwl _
    · rw [hin, List.mem_cons, h2]; simp
  · refine ⟨l, by rw [oset_ne _ _ e]; exact h1.set hwl _, fun v => ?_⟩
    rw [hin, h2]; simp [e]
end
end Go.PL
