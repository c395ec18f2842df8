/- Lengauer and Tarjan: what holds between the steps. -/
import Derived.Test.YtmoooaaiohplhacWn
namespace Go.Proofs.Ytmoooaaiohplhac
open Go Go.V
set_option linter.unusedVariables false
set_option maxRecDepth 100000



open Go.PL
/-- The other arrays. -/
structure ZM (n : Nat) (Z vs : List Nat) (pr : Nat → Nat) (hd lk : Nat → Option Nat) : Prop where
  ver : ∀ i, i < vs.length → Z[1 * (n + 1) + (i + 1)]! = vs[i]! + 1
  par : ∀ x, x < n → x ≠ 0 → x ∈ vs → Z[3 * (n + 1) + (x + 1)]! = pr x + 1
  hd : ∀ x, x < n → Z[5 * (n + 1) + (x + 1)]! = oN (hd x)
  lk : ∀ x, x < n → Z[6 * (n + 1) + (x + 1)]! = oN (lk x)
section
variable {n : Nat} {Z Z' vs : List Nat} {pr nu sv : Nat → Nat} {hd lk anc : Nat → Option Nat} {lab : Nat → Nat}
theorem ZM.kept (h : ZM n Z vs pr hd lk) (hv : vs.length ≤ n) (k : Kept n Z Z') : ZM n Z' vs pr hd lk :=
  ⟨fun i hi => (k.k1 _ (by omega)).trans (h.ver i hi), fun x hx h0 hm => (k.k3 _ (by omega)).trans (h.par x hx h0 hm), fun x hx => (k.k5 _ (by omega)).trans (h.hd x hx), fun x hx => (k.k6 _ (by omega)).trans (h.lk x hx)⟩
theorem ZM.setsem (h : ZM n Z vs pr hd lk) (hv : vs.length ≤ n) {x c : Nat} (hx : x < n) : ZM n (Z.set (x + 1) c) vs pr hd lk :=
  ⟨fun i hi => (get!_set_ne _ _ (by omega)).trans (h.ver i hi), fun x hx h0 hm => (get!_set_ne _ _ (by omega)).trans (h.par x hx h0 hm), fun x hx => (get!_set_ne _ _ (by omega)).trans (h.hd x hx), fun x hx => (get!_set_ne _ _ (by omega)).trans (h.lk x hx)⟩
theorem ZM.setanc (h : ZM n Z vs pr hd lk) (hv : vs.length ≤ n) {x c : Nat} (hx : x < n) : ZM n (Z.set (4 * (n + 1) + (x + 1)) c) vs pr hd lk := h.kept hv (kept4 hx)
theorem ZM.setlk (h : ZM n Z vs pr hd lk) (hv : vs.length ≤ n) (hz : Z.length = 7 * (n + 1)) {x : Nat} (o : Option Nat) (hx : x < n) : ZM n (Z.set (6 * (n + 1) + (x + 1)) (oN o)) vs pr hd (oset lk x o) := by
  refine ⟨fun i hi => (get!_set_ne _ _ (by omega)).trans (h.ver i hi), fun x hx h0 hm => (get!_set_ne _ _ (by omega)).trans (h.par x hx h0 hm), fun x hx => (get!_set_ne _ _ (by omega)).trans (h.hd x hx), fun y hy => ?_⟩
  by_cases e : y = x
  · subst e; rw [get!_set_self _ _ _ (by omega), oset_same]
  · rw [get!_set_ne _ _ (by omega), oset_ne _ _ e]; exact h.lk y hy
theorem ZM.sethd (h : ZM n Z vs pr hd lk) (hv : vs.length ≤ n) (hz : Z.length = 7 * (n + 1)) {x : Nat} (o : Option Nat) (hx : x < n) : ZM n (Z.set (5 * (n + 1) + (x + 1)) (oN o)) vs pr (oset hd x o) lk := by
  refine ⟨fun i hi => (get!_set_ne _ _ (by omega)).trans (h.ver i hi), fun x hx h0 hm => (get!_set_ne _ _ (by omega)).trans (h.par x hx h0 hm), fun y hy => ?_, fun x hx => (get!_set_ne _ _ (by omega)).trans (h.lk x hx)⟩
  by_cases e : y = x
  · subst e; rw [get!_set_self _ _ _ (by omega), oset_same]
  · rw [get!_set_ne _ _ (by omega), oset_ne _ _ e]; exact h.hd y hy
theorem ZF.setsem (h : ZF n Z nu sv anc lab) {x c : Nat} (hx : x < n) : ZF n (Z.set (x + 1) c) nu (oset sv x c) anc lab := by
  have hl := h.len
  refine ⟨by rw [List.length_set, hl], fun y hy => ?_, fun y hy hn => by rw [get!_set_ne _ _ (by omega)]; exact h.lab y hy hn, fun y hy => by rw [get!_set_ne _ _ (by omega)]; exact h.anc y hy⟩
  by_cases e : y = x
  · subst e; rw [get!_set_self _ _ _ (by omega), oset_same]
  · rw [get!_set_ne _ _ (by omega), oset_ne _ _ e]; exact h.sem y hy
theorem ZF.set5 (h : ZF n Z nu sv anc lab) {x c : Nat} (hx : x < n) : ZF n (Z.set (5 * (n + 1) + (x + 1)) c) nu sv anc lab :=
  ⟨by rw [List.length_set, h.len], fun y hy => (get!_set_ne _ _ (by omega)).trans (h.sem y hy), fun y hy hn => (get!_set_ne _ _ (by omega)).trans (h.lab y hy hn), fun y hy => (get!_set_ne _ _ (by omega)).trans (h.anc y hy)⟩
theorem ZF.set6 (h : ZF n Z nu sv anc lab) {x c : Nat} (hx : x < n) : ZF n (Z.set (6 * (n + 1) + (x + 1)) c) nu sv anc lab :=
  ⟨by rw [List.length_set, h.len], fun y hy => (get!_set_ne _ _ (by omega)).trans (h.sem y hy), fun y hy hn => (get!_set_ne _ _ (by omega)).trans (h.lab y hy hn), fun y hy => (get!_set_ne _ _ (by omega)).trans (h.anc y hy)⟩
end
section
variable {G : Graph} {nu pr sv sv' : Nat → Nat} {k : Nat} {anc : Nat → Option Nat} {lab : Nat → Nat}
theorem _root_.Go.PL.FI.cong (f : FI nu pr sv k anc lab) (he : ∀ x, k ≤ nu x → sv' x = sv x) : FI nu pr sv' k anc lab := by
  refine ⟨f.un, f.lu, fun x hx => ?_⟩
  obtain ⟨a, e, s⟩ := f.li x hx
  have hl := (s.min _ s.lx s.al s.lne).1
  exact ⟨a, e, s.an, s.ne, s.al, s.lne, s.lx, fun y a1 a2 a3 => by obtain ⟨k1, k2⟩ := s.min y a1 a2 a3; exact ⟨k1, by rw [he _ hl, he y k1]; exact k2⟩⟩
theorem _root_.Go.PL.SO.cong {w c : Nat} {l : List Nat} (h : SO nu pr sv w l c) (he : ∀ x, nu w < nu x → sv' x = sv x) : SO nu pr sv' w l c := by
  refine ⟨h.le, ?_, h.lo, fun v hv hn u hu ha => by rw [he u hu]; exact h.hi v hv hn u hu ha⟩
  rcases h.src with k | ⟨v, k1, k2, k3 | ⟨u, k3, k4, k5⟩⟩
  · exact .inl k
  · exact .inr ⟨v, k1, k2, .inl k3⟩
  · exact .inr ⟨v, k1, k2, .inr ⟨u, k3, k4, by rw [he u k3]; exact k5⟩⟩
theorem _root_.Go.PL.SV.step (h : DT G nu pr) (v : SV G nu sv (k + 1)) {w s c : Nat} (hw : nu w = k) (hk : 0 < k) (hs : IsSd G nu s w) (hc : c = nu s) : SV G nu (oset sv w c) k := by
  refine ⟨fun x hx => ?_, fun x hx => ?_⟩
  · rw [oset_ne _ _ (fun e => by subst e; omega)]; exact v.lo x (by omega)
  · by_cases e : x = w
    · subst e; exact ⟨s, hs, by rw [oset_same, hc]⟩
    · rw [oset_ne _ _ e]
      have : nu x ≠ nu w := fun e' => e (h.inj x w e' (by omega))
      exact v.hi x (by omega)
/-- What has been written. -/
def STL (G : Graph) (nu pr : Nat → Nat) (k : Nat) (L : List (Option Nat)) : Prop := ∀ v c, c ≠ 0 → k ≤ nu c → IsSd G nu (pr c) v → An pr c v → nu v ≠ 0 → ∃ o, L[v + 1]! = some o ∧ RelD G nu pr v o
theorem STL.step (h : DT G nu pr) {L L' : List (Option Nat)} (s : STL G nu pr (k + 1) L) {w : Nat} (hw : nu w = k) (hk : 0 < k) (h1 : ∀ v, k ≤ nu v → IsSd G nu (pr w) v → ∃ o, L'[v + 1]! = some o ∧ RelD G nu pr v o) (h2 : ∀ v, ¬ (k ≤ nu v ∧ IsSd G nu (pr w) v) → L'[v + 1]! = L[v + 1]!) : STL G nu pr k L' := by
  intro v c c0 hkc hs ha hv
  by_cases hb : k ≤ nu v ∧ IsSd G nu (pr w) v
  · exact h1 v hb.1 hb.2
  · rw [h2 v hb]
    by_cases e : c = w
    · subst e; exact absurd ⟨by have := (h.anl ha hv).2; omega, hs⟩ hb
    · have : nu c ≠ nu w := fun e' => e (h.inj c w e' (by omega))
      exact s v c c0 (by omega) hs ha hv
theorem child_of {s v : Nat} (ha : An pr s v) (hne : s ≠ v) : ∃ c, c ≠ 0 ∧ pr c = s ∧ An pr c v := by
  induction ha with
  | refl => exact absurd rfl hne
  | @up v h0 ha ih =>
    by_cases e : s = pr v
    · exact ⟨v, h0, e.symm, .refl⟩
    · obtain ⟨c, a1, a2, a3⟩ := ih e
      exact ⟨c, a1, a2, .up h0 a3⟩
theorem STL.all (h : DT G nu pr) {L : List (Option Nat)} (s : STL G nu pr 2 L) (v : SV G nu sv 2) {x : Nat} (hx : nu x ≠ 0) (h0 : x ≠ 0) : ∃ o, L[x + 1]! = some o ∧ RelD G nu pr x o := by
  have ge2 : ∀ {y}, y ≠ 0 → nu y ≠ 0 → 2 ≤ nu y := fun {y} hy hn => by
    have : nu y ≠ nu 0 := fun e => hy (h.inj y 0 e hn)
    have := h.zero; omega
  obtain ⟨t, ht, _⟩ := v.hi x (ge2 h0 hx)
  obtain ⟨a1, a2, _⟩ := h.sd_an hx h0 ht
  obtain ⟨c, c1, c2, c3⟩ := child_of a1 a2
  exact s x c c1 (ge2 c1 (h.anl c3 hx).1) (by rw [c2]; exact ht) c3 hx
end

end Go.Proofs.Ytmoooaaiohplhac
