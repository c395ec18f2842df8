/- Lengauer's and Tarjan's road: a tree of a depth-first search, semidominators, dominators. No program here. -/
import Derived.Test.YtmoooaaiohplhacPc
namespace Go.PL

/-- a stands above x, or is x, by the parents pr. -/
inductive An (pr : Nat → Nat) (a : Nat) : Nat → Prop
  | refl : An pr a a
  | up {x : Nat} : x ≠ 0 → An pr a (pr x) → An pr a x
theorem An.trans {pr : Nat → Nat} {a b c : Nat} (h : An pr a b) (h' : An pr b c) : An pr a c := by
  induction h' with
  | refl => exact h
  | up h0 _ ih => exact .up h0 ih

/-- A tree of a depth-first search from the first block: numbers (0: not reached), parents. -/
structure DT (G : Graph) (nu : Nat → Nat) (pr : Nat → Nat) : Prop where
  zero : nu 0 = 1
  live : ∀ x, nu x ≠ 0 ↔ Rc G 0 x
  inj : ∀ x y, nu x = nu y → nu x ≠ 0 → x = y
  par : ∀ x, x ≠ 0 → nu x ≠ 0 → Ed G (pr x) x ∧ nu (pr x) < nu x ∧ nu (pr x) ≠ 0
  edge : ∀ x y, Ed G x y → nu x ≠ 0 → nu x < nu y → An pr x y
  iv : ∀ a x y, An pr a x → nu x ≠ 0 → nu a ≤ nu y → nu y ≤ nu x → An pr a y

section
variable {G : Graph} {nu pr : Nat → Nat}
theorem DT.anl (h : DT G nu pr) {a x : Nat} (ha : An pr a x) (hx : nu x ≠ 0) : nu a ≠ 0 ∧ nu a ≤ nu x := by
  induction ha with
  | refl => exact ⟨hx, Nat.le_refl _⟩
  | up h0 _ ih => obtain ⟨_, h2, h3⟩ := h.par _ h0 hx; obtain ⟨i1, i2⟩ := ih h3; exact ⟨i1, by omega⟩
theorem DT.lt (h : DT G nu pr) {a x : Nat} (ha : An pr a x) (hx : nu x ≠ 0) (hne : a ≠ x) : nu a < nu x := by
  obtain ⟨h1, h2⟩ := h.anl ha hx
  have : nu a ≠ nu x := fun e => hne (h.inj a x e h1)
  omega
theorem DT.anti (h : DT G nu pr) {a b : Nat} (h1 : An pr a b) (h2 : An pr b a) (hb : nu b ≠ 0) : a = b := by
  obtain ⟨ha, l1⟩ := h.anl h1 hb
  obtain ⟨_, l2⟩ := h.anl h2 ha
  exact h.inj a b (by omega) ha
/-- Of two above x, one is above the other. -/
theorem DT.comp (h : DT G nu pr) {a b x : Nat} (ha : An pr a x) (hb : An pr b x) (hx : nu x ≠ 0) (hle : nu a ≤ nu b) : An pr a b := h.iv a x b ha hx hle (h.anl hb hx).2
theorem DT.root (h : DT G nu pr) {x : Nat} (hx : nu x ≠ 0) : An pr 0 x := by
  generalize hn : nu x = n
  induction n using Nat.strongRecOn generalizing x with
  | _ n ih =>
    by_cases h0 : x = 0
    · subst h0; exact .refl
    · obtain ⟨_, h2, h3⟩ := h.par x h0 hx
      exact .up h0 (ih (nu (pr x)) (by omega) h3 rfl)
theorem DT.ge1 (h : DT G nu pr) {x : Nat} (hx : nu x ≠ 0) : 1 ≤ nu x := by omega
theorem DT.ed (h : DT G nu pr) {x y : Nat} (e : Ed G x y) (hx : nu x ≠ 0) : nu y ≠ 0 := by
  have h1 := (h.live x).1 hx
  exact (h.live y).2 (.step h1 e)

/-- On from v over blocks with numbers above those of w. -/
inductive Hi (G : Graph) (nu : Nat → Nat) (k v : Nat) : Nat → Prop
  | refl : Hi G nu k v v
  | step {y z : Nat} : Hi G nu k v y → Ed G y z → k < nu z → Hi G nu k v z
theorem Hi.mono {k k' v x : Nat} (h : Hi G nu k v x) (hk : k' ≤ k) : Hi G nu k' v x := by
  induction h with
  | refl => exact .refl
  | step _ e hz ih => exact .step ih e (by omega)
theorem Hi.trans {k v x y : Nat} (h : Hi G nu k v x) (h' : Hi G nu k x y) : Hi G nu k v y := by
  induction h' with
  | refl => exact h
  | step _ e hz ih => exact .step ih e hz
theorem DT.hi (h : DT G nu pr) {k a x : Nat} (ha : An pr a x) (hx : nu x ≠ 0) (hk : k < nu a) : Hi G nu k a x := by
  induction ha with
  | refl => exact .refl
  | up h0 ha ih =>
    obtain ⟨h1, h2, h3⟩ := h.par _ h0 hx
    have := (h.anl ha h3).2
    exact .step (ih h3) h1 (by omega)
/-- A way from v to w, all blocks between of greater numbers than w. -/
def SP (G : Graph) (nu : Nat → Nat) (v w : Nat) : Prop := ∃ x, Hi G nu (nu w) v x ∧ Ed G x w
theorem SP.edge {v w : Nat} (e : Ed G v w) : SP G nu v w := ⟨v, .refl, e⟩
/-- On to a block of a smaller number. -/
theorem DT.sp_down (h : DT G nu pr) {v u y z : Nat} (hs : SP G nu v u) (ha : An pr u y) (hy : nu y ≠ 0) (e : Ed G y z) (hz : nu z < nu u) : SP G nu v z := by
  obtain ⟨x, h1, h2⟩ := hs
  exact ⟨y, (Hi.step (h1.mono (by omega)) h2 hz).trans (h.hi ha hy hz), e⟩
/-- A way from v, each block behind v above k: at its end, a block u above it to which a way as above leads. -/
theorem DT.top (h : DT G nu pr) {k v x : Nat} (hv : nu v ≠ 0) (hp : Hi G nu k v x) : x = v ∨ ∃ u, k < nu u ∧ An pr u x ∧ SP G nu v u := by
  have hl : ∀ {y}, Hi G nu k v y → nu y ≠ 0 := by
    intro y hy
    induction hy with
    | refl => exact hv
    | step _ e hz ih => omega
  induction hp with
  | refl => exact .inl rfl
  | @step y z hy e hz ih =>
    right
    rcases ih with rfl | ⟨u, h1, h2, h3⟩
    · exact ⟨z, hz, .refl, .edge e⟩
    · have hyl := hl hy
      by_cases c1 : nu y < nu z
      · exact ⟨u, h1, h2.trans (h.edge y z e hyl c1), h3⟩
      · by_cases c2 : nu u ≤ nu z
        · exact ⟨u, h1, h.iv u y z h2 hyl c2 (by omega), h3⟩
        · exact ⟨z, hz, .refl, h.sp_down h3 h2 hyl e (by omega)⟩
/-- The semidominator s of w. -/
structure IsSd (G : Graph) (nu : Nat → Nat) (s w : Nat) : Prop where
  live : nu s ≠ 0
  sp : SP G nu s w
  low : ∀ v, nu v ≠ 0 → SP G nu v w → nu s ≤ nu v
/-- What the loop over the ways into w reckons. -/
theorem DT.sd (h : DT G nu pr) {w s : Nat} (hw : nu w ≠ 0) (hs : nu s ≠ 0) (hle : nu s ≤ nu w)
    (h1 : s = w ∨ (∃ v, Ed G v w ∧ nu v ≠ 0 ∧ nu v ≤ nu w ∧ s = v) ∨ ∃ v u, Ed G v w ∧ nu v ≠ 0 ∧ nu w < nu u ∧ An pr u v ∧ IsSd G nu s u)
    (h2 : ∀ v, Ed G v w → nu v ≠ 0 → nu v ≤ nu w → nu s ≤ nu v)
    (h3 : ∀ v u t, Ed G v w → nu v ≠ 0 → nu w < nu u → An pr u v → IsSd G nu t u → nu s ≤ nu t)
    (h4 : ∀ u, nu w < nu u → ∃ t, IsSd G nu t u) (h0 : w ≠ 0) : IsSd G nu s w := by
  have hlow : ∀ v, nu v ≠ 0 → SP G nu v w → nu s ≤ nu v := by
    rintro v hv ⟨x, hx, e⟩
    have hxl : nu x ≠ 0 := by
      cases hx with
      | refl => exact hv
      | step _ _ h => omega
    rcases h.top hv hx with rfl | ⟨u, k1, k2, k3⟩
    · by_cases c : nu x ≤ nu w
      · exact h2 x e hv c
      · omega
    · obtain ⟨t, ht⟩ := h4 u k1
      have := h3 x u t e hxl k1 k2 ht
      have := ht.low v hv k3
      omega
  refine ⟨hs, ?_, hlow⟩
  rcases h1 with rfl | ⟨v, e, _, _, rfl⟩ | ⟨v, u, e, hv, k1, k2, k3⟩
  · obtain ⟨e, k, k'⟩ := h.par s h0 hw
    have := h2 (pr s) e k' (by omega)
    omega
  · exact .edge e
  · exact h.sp_down k3.sp k2 hv e k1

theorem DT.sd_an (h : DT G nu pr) {s w : Nat} (hw : nu w ≠ 0) (h0 : w ≠ 0) (hs : IsSd G nu s w) : An pr s w ∧ s ≠ w ∧ nu s < nu w := by
  obtain ⟨e, k, k'⟩ := h.par w h0 hw
  have hlt : nu s < nu w := by have := hs.low (pr w) k' (.edge e); omega
  refine ⟨?_, fun e => by subst e; omega, hlt⟩
  obtain ⟨x, hx, ex⟩ := hs.sp
  -- every block on the way from s stands below s
  have key : ∀ {y}, Hi G nu (nu w) s y → An pr s y ∧ nu y ≠ 0 := by
    intro y hy
    induction hy with
    | refl => exact ⟨.refl, hs.live⟩
    | @step y z _ e hz ih =>
      refine ⟨?_, by omega⟩
      by_cases c : nu y < nu z
      · exact ih.1.trans (h.edge y z e ih.2 c)
      · exact h.iv s y z ih.1 ih.2 (by omega) (by omega)
  obtain ⟨k1, k2⟩ := key hx
  by_cases c : nu x < nu w
  · exact k1.trans (h.edge x w ex k2 c)
  · exact h.iv s x w k1 k2 (by omega) (by omega)

/-- A way of the tree goes on. -/
theorem DT.pth_on (h : DT G nu pr) {a x : Nat} (ha : An pr a x) (hx : nu x ≠ 0) {π : List Nat} (hp : Pth G π a) : ∃ zs, Pth G (zs ++ π) x ∧ ∀ u ∈ zs, nu a < nu u := by
  induction ha with
  | refl => exact ⟨[], hp, by simp⟩
  | @up x h0 ha ih =>
    obtain ⟨e, k, k'⟩ := h.par x h0 hx
    obtain ⟨zs, h1, h2⟩ := ih k'
    refine ⟨x :: zs, .step h1 e, fun u hu => ?_⟩
    rcases List.mem_cons.1 hu with rfl | hu
    · have := (h.anl ha k').2; omega
    · exact h2 u hu
theorem DT.hi_on (h : DT G nu pr) {k v x : Nat} (hx : Hi G nu k v x) {π : List Nat} (hp : Pth G π v) : ∃ zs, Pth G (zs ++ π) x ∧ ∀ u ∈ zs, k < nu u := by
  induction hx with
  | refl => exact ⟨[], hp, by simp⟩
  | step _ e hz ih =>
    obtain ⟨zs, h1, h2⟩ := ih
    refine ⟨_ :: zs, .step h1 e, fun u hu => ?_⟩
    rcases List.mem_cons.1 hu with rfl | hu
    · exact hz
    · exact h2 u hu
/-- A dominator stands above in the tree. -/
theorem DT.dm_an (h : DT G nu pr) {z w : Nat} (hd : Dm G z w) : An pr z w := by
  have hw : nu w ≠ 0 := (h.live w).2 hd.rc
  have key : ∀ {x}, An pr 0 x → nu x ≠ 0 → ∃ π, Pth G π x ∧ ∀ u ∈ π, An pr u x := by
    intro x hx hl
    induction hx with
    | refl => exact ⟨[0], .nil, by intro u hu; rw [List.mem_singleton.1 hu]; exact .refl⟩
    | @up x h0 _ ih =>
      obtain ⟨e, _, k'⟩ := h.par x h0 hl
      obtain ⟨π, h1, h2⟩ := ih k'
      refine ⟨x :: π, .step h1 e, fun u hu => ?_⟩
      rcases List.mem_cons.1 hu with rfl | hu
      · exact .refl
      · exact .up h0 (h2 u hu)
  obtain ⟨π, h1, h2⟩ := key (h.root hw) hw
  exact h2 z ((dm_iff.1 hd).2 π h1)
/-- A way past d. -/
theorem DT.past (h : DT G nu pr) {d : Nat} {π : List Nat} {t : Nat} (hp : Pth G π t) (hn : d ∉ π) (hdl : nu d ≠ 0) (hlt : nu d < nu t) :
    ∃ y x, nu d < nu y ∧ An pr y t ∧ nu x < nu d ∧ nu x ≠ 0 ∧ SP G nu x y ∧ ∃ π', Pth G π' y ∧ d ∉ π' := by
  induction hp with
  | nil => have := h.zero; omega
  | @step π p z hp e ih =>
    have hnz : d ≠ z := fun e => hn (by simp [e])
    have hnp : d ∉ π := fun hm => hn (by simp [hm])
    have hpl : nu p ≠ 0 := (h.live p).2 hp.rc
    have hpd : nu p ≠ nu d := fun e' => hnp (by rw [← h.inj p d e' hpl]; exact hp.mem)
    by_cases c : nu p < nu d
    · exact ⟨z, p, hlt, .refl, c, hpl, .edge e, _, .step hp e, hn⟩
    · obtain ⟨y, x, k1, k2, k3, k4, k5, k6⟩ := ih hnp (by omega)
      by_cases c1 : nu p < nu z
      · exact ⟨y, x, k1, k2.trans (h.edge p z e hpl c1), k3, k4, k5, k6⟩
      · by_cases c2 : nu y ≤ nu z
        · exact ⟨y, x, k1, h.iv y p z k2 hpl c2 (by omega), k3, k4, k5, k6⟩
        · exact ⟨z, x, hlt, .refl, k3, k4, h.sp_down k5 k2 hpl e (by omega), _, .step hp e, hn⟩
/-- A strict dominator of w dominates its semidominator. -/
theorem DT.dm_sd (h : DT G nu pr) {s w z : Nat} (hw : nu w ≠ 0) (hs : IsSd G nu s w) (hz : Dm G z w) (hne : z ≠ w) : Dm G z s := by
  have hzl := h.lt (h.dm_an hz) hw hne
  refine dm_iff.2 ⟨pth_of_rc ((h.live s).1 hs.live), fun π hp => ?_⟩
  obtain ⟨x, hx, e⟩ := hs.sp
  obtain ⟨zs, h1, h2⟩ := h.hi_on hx hp
  have := (dm_iff.1 hz).2 _ (.step h1 e)
  rcases List.mem_cons.1 this with h3 | h3
  · exact absurd h3 hne
  · rcases List.mem_append.1 h3 with h3 | h3
    · have := h2 z h3; omega
    · exact h3
/-- No smaller semidominator between s and w: s is the immediate dominator. -/
theorem DT.idom_sd (h : DT G nu pr) {s w : Nat} (hw : nu w ≠ 0) (h0 : w ≠ 0) (hs : IsSd G nu s w) (hmin : ∀ y t, An pr s y → y ≠ s → An pr y w → IsSd G nu t y → nu s ≤ nu t) (hex : ∀ y, nu y ≠ 0 → y ≠ 0 → ∃ t, IsSd G nu t y) : IsIdom G s w := by
  obtain ⟨ha, hne, hlt⟩ := h.sd_an hw h0 hs
  refine ⟨hne, ?_, fun z hz hd => h.dm_sd hw hs hd hz⟩
  refine dm_iff.2 ⟨pth_of_rc ((h.live w).1 hw), fun π hp => ?_⟩
  by_cases hm : s ∈ π
  · exact hm
  · exfalso
    obtain ⟨y, x, k1, k2, k3, k4, k5, _⟩ := h.past hp hm hs.live hlt
    have hy : nu y ≠ 0 := by omega
    have hy0 : y ≠ 0 := fun e => by subst e; have := h.zero; omega
    obtain ⟨t, ht⟩ := hex y hy hy0
    have h5 := hmin y t (h.comp ha k2 hw (by omega)) (fun e => by subst e; omega) k2 ht
    have h6 := ht.low x k4 k5
    omega
/-- The least semidominator between s and w is that of u: w has the immediate dominator of u. -/
theorem DT.idom_rel (h : DT G nu pr) {s w u tu d : Nat} (hw : nu w ≠ 0) (h0 : w ≠ 0) (hs : IsSd G nu s w) (hu1 : An pr s u) (hu2 : u ≠ s) (hu3 : An pr u w) (htu : IsSd G nu tu u)
    (hmin : ∀ y t, An pr s y → y ≠ s → An pr y w → IsSd G nu t y → nu tu ≤ nu t) (hex : ∀ y, nu y ≠ 0 → y ≠ 0 → ∃ t, IsSd G nu t y) (hd : IsIdom G d u) : IsIdom G d w := by
  obtain ⟨ha, hne, hlt⟩ := h.sd_an hw h0 hs
  have hul := (h.anl hu3 hw).1
  have hu0 : u ≠ 0 := hd.ne_zero
  have hdl : nu d ≠ 0 := (h.live d).2 hd.2.1.rcl
  have hdu := h.lt (h.dm_an hd.2.1) hul hd.1
  have hdtu : nu d ≤ nu tu := (h.anl (h.dm_an (h.dm_sd hul htu hd.2.1 hd.1)) htu.live).2
  have hsu := h.lt hu1 hul (Ne.symm hu2)
  have huw := (h.anl hu3 hw).2
  have htus : nu tu ≤ nu s := hmin w s ha (Ne.symm hne) .refl hs
  have hdw : An pr d w := (h.dm_an hd.2.1).trans hu3
  refine ⟨fun e => by subst e; omega, ?_, fun z hz hzd => ?_⟩
  · refine dm_iff.2 ⟨pth_of_rc ((h.live w).1 hw), fun π hp => ?_⟩
    by_cases hm : d ∈ π
    · exact hm
    · exfalso
      obtain ⟨y, x, k1, k2, k3, k4, k5, π', k6, k7⟩ := h.past hp hm hdl (by omega)
      have hy : nu y ≠ 0 := by omega
      have hy0 : y ≠ 0 := fun e => by subst e; have := h.zero; omega
      by_cases c : nu y ≤ nu s
      · -- on from y to u
        have hyu : An pr y u := h.comp k2 hu3 hw (by omega)
        obtain ⟨zs, h1, h2⟩ := h.pth_on hyu hul k6
        rcases List.mem_append.1 ((dm_iff.1 hd.2.1).2 _ h1) with h3 | h3
        · have := h2 d h3; omega
        · exact k7 h3
      · obtain ⟨t, ht⟩ := hex y hy hy0
        have h5 := hmin y t (h.comp ha k2 hw (by omega)) (fun e => by subst e; omega) k2 ht
        have h6 := ht.low x k4 k5
        omega
  · have hzs := h.dm_sd hw hs hzd hz
    have hzsn := (h.anl (h.dm_an hzs) hs.live).2
    have hzu : Dm G z u := by
      refine dm_iff.2 ⟨pth_of_rc ((h.live u).1 hul), fun π hp => ?_⟩
      obtain ⟨zs, h1, h2⟩ := h.pth_on hu3 hw hp
      rcases List.mem_append.1 ((dm_iff.1 hzd).2 _ h1) with h3 | h3
      · have := h2 z h3; omega
      · exact h3
    exact hd.2.2 z (fun e => by subst e; omega) hzu
end
end Go.PL
