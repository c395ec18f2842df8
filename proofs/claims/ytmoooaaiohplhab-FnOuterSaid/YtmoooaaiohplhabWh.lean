/- intersect, dominatorsSimple, DominatorsSimple, impl.DominatorsSimple. -/
import Derived.Test.YtmoooaaiohplhabWg
import Derived.Test.YtmoooaaiohplhabPd
namespace Go.Proofs.Ytmoooaaiohplhab
open Go Go.V
set_option linter.unusedVariables false
set_option maxRecDepth 100000

theorem T.call74 : CallT Try.prog 74 := CallT.of Try.func74 (by kernel_rfl) (by kernel_rfl)

open Go.PL
/-- A pointer to a block, or none, as an address. -/
def pA (f : FRep) (o : Option Nat) : Option Addr := o.map fun i => ⟨f.bb i, 0, none⟩
def pP (f : FRep) (o : Option Nat) : Value := .pointer (pA f o)
theorem pP_eq (f : FRep) : pP f = pO f := by funext o; cases o <;> rfl
theorem pA_none {f : FRep} {o : Option Nat} (h : pA f o = none) : o = none := by cases o with | none => rfl | some i => cases h
theorem pA_inj {w : World} {f : FRep} {G : Graph} (hA : FuncAt w f G) {o o' : Option Nat} (ho : ∀ i, o = some i → i < G.length) (ho' : ∀ i, o' = some i → i < G.length) (h : pA f o = pA f o') : o = o' := by
  cases o with
  | none => cases o' with
    | none => rfl
    | some i => cases h
  | some i => cases o' with
    | none => cases h
    | some j => simp only [pA, Option.map_some, Option.some.injEq, Addr.mk.injEq] at h; rw [hA.inj i j (ho i rfl) (ho' j rfl) h.1]
theorem isC_pA {w : World} {f : FRep} {G : Graph} (hA : FuncAt w f G) {o : Option Nat} (ho : ∀ i, o = some i → i < G.length) : IsC w (pA f o) := by
  cases o with
  | none => exact isC_none
  | some i => exact hA.isC (ho i rfl)
/-- The numbers by postorder. -/
def PnS (G : Graph) (pn : List Int) : Prop := pn.length = G.length + 1 ∧ ∀ x, x ∈ postL G → pn[x + 1]! = ((ps G x : Nat) : Int)
/-- The list L holds the map D. -/
def LD (G : Graph) (D : Nat → Option Nat) (L : List (Option Nat)) : Prop := L.length = G.length + 1 ∧ ∀ x, x < G.length → L[x + 1]! = D x
theorem ld_cell {w : World} {f : FRep} {G : Graph} {D : Nat → Option Nat} {L : List (Option Nat)} {b x : Nat} {t : TypeId} (h : (blk b t (L.map (pP f))).holds w) (hL : LD G D L) (hx : x < G.length) : w.cell? ⟨b, x + 1, none⟩ = some (.pointer (pA f (D x))) := by
  rw [← hL.2 x hx]; exact blk_cellM h (by rw [hL.1]; omega)
theorem ord_cell {w : World} {f : FRep} {l : List Nat} {b c k : Nat} {t : TypeId} (h : (row (.slice (some ⟨b, 0, none⟩) l.length c) t 1 l.length (ordV f l)).holds w) (hk : k < l.length) : w.cell? ⟨b, k, none⟩ = some (ptr (f.bb l[k]!)) :=
  row_cell h (by simp [ordV, hk])
theorem post_lt {G : Graph} (hg : Gd G) {x : Nat} (h : x ∈ postL G) : x < G.length := (postL_ok hg).lt x h
theorem _root_.Go.PL.CI.lt' {G : Graph} {D : Nat → Option Nat} (hg : Gd G) (h : CI G D) {x : Nat} (hx : D x ≠ none) : x < G.length := post_lt hg (h.some' hx)
theorem _root_.Go.PL.CI.lt2 {G : Graph} {D : Nat → Option Nat} (hg : Gd G) (h : CI G D) {x d : Nat} (hx : D x = some d) : d < G.length := by
  by_cases e : x = 0
  · subst e; rw [h.zero] at hx; cases hx; exact hg.pos
  · exact h.lt' hg (h.up x d e hx).2
def D0 : Nat → Option Nat := fun x => if x = 0 then some 0 else none
theorem D0_ne {x : Nat} (h : D0 x ≠ none) : x = 0 := by by_cases e : x = 0; exact e; simp [D0, e] at h
theorem D0_some {x d : Nat} (h : D0 x = some d) : x = 0 := D0_ne (by rw [h]; simp)
theorem ci_init {G : Graph} (hg : Gd G) : CI G D0 := by
  refine ⟨rfl, fun x d h => ?_, fun x d h0 h => absurd (D0_some h) h0, fun x d h0 h => absurd (D0_some h) h0, fun x z hx hz => ?_⟩
  · rw [D0_some h]; exact zero_mem hg
  · obtain rfl := D0_ne hx
    rw [dm_zero_only hz]; exact .refl _
theorem up_zero {D : Nat → Option Nat} {z : Nat} (h : Up D 0 z) : z = 0 := by
  cases h with
  | refl => rfl
  | step h0 => exact absurd rfl h0
theorem ti_init {G : Graph} (hg : Gd G) : TI G D0 0 (postL G).length := by
  intro x r π z hx hp hc hu
  obtain rfl := D0_ne hx
  rw [up_zero hu]; exact hp.pth.zero
theorem ti_start {G : Graph} (hg : Gd G) {D : Nat → Option Nat} {j : Nat} (h : CI G D) (t : TI G D j (postL G).length) : TI G D j ((postL G).length - 1) := by
  intro x r π z hx hp hc hu
  rcases hc with hc | ⟨hc, hi⟩
  · exact t x r π z hx hp (.inl hc) hu
  · have h1 := ps_lt (h.some' hx)
    have h2 := ps_zero hg
    have : x = 0 := ps_inj (h.some' hx) (zero_mem hg) (by omega)
    subst this
    rw [up_zero hu]; exact hp.pth.zero
theorem ld_init (G : Graph) (hg : Gd G) : LD G D0 ((List.replicate (G.length + 1) none).set 1 (some 0)) := by
  refine ⟨by simp, fun x hx => ?_⟩
  rw [get!_set _ _ _ _ (by simp; have := hg.pos; omega)]
  by_cases e : x = 0
  · subst e; rfl
  · rw [if_neg (by omega), get!_replicate _ _ _ (by omega)]; simp [D0, e]
theorem LD.set {G : Graph} {D : Nat → Option Nat} {L : List (Option Nat)} (h : LD G D L) {b d : Nat} (hb : b < G.length) : LD G (set1 D b d) (L.set (b + 1) (some d)) := by
  refine ⟨by rw [List.length_set, h.1], fun x hx => ?_⟩
  rw [get!_set _ _ _ _ (by rw [h.1]; omega)]
  by_cases e : x = b
  · subst e; rw [if_pos rfl, set1_same]
  · rw [if_neg (by omega), set1_ne e, h.2 x hx]
theorem set1_id {D : Nat → Option Nat} {b d : Nat} (h : D b = some d) : set1 D b d = D := by
  funext x; by_cases e : x = b
  · subst e; rw [set1_same, h]
  · rw [set1_ne e]
theorem _root_.Go.PL.FoldOK.dn {G : Graph} {D : Nat → Option Nat} (h : CI G D) {l : List Nat} {d : Nat} (hf : FoldOK D l (some d)) : D d ≠ none := by
  rcases hf with ⟨e, _⟩ | ⟨d', e, ⟨p, hp, hn⟩, h1, _⟩
  · cases e
  · cases e; exact h.upd_ne (h1 p hp hn) hn
theorem take_snoc {l : List Nat} {k : Nat} (h : k < l.length) : l.take (k + 1) = l.take k ++ [l[k]!] := by
  rw [List.take_succ_eq_append_getElem h, getElem!_pos l k h]
theorem idoms_of {G : Graph} (hg : Gd G) {D : Nat → Option Nat} {L : List (Option Nat)} (h : CI G D) (hL : LD G D L) (hall : ∀ x, x ∈ postL G → D x ≠ none) (hfix : ∀ b, b ∈ postL G → b ≠ 0 → ∃ d, D b = some d ∧ StepOK G D b d) : IdomsOK G ((L.set 1 none).drop 1) := by
  have hpos := hg.pos
  refine ⟨by simp [hL.1], fun y hy => ?_⟩
  have e : ((L.set 1 none).drop 1)[y]! = (L.set 1 none)[y + 1]! := by
    have h1 : y + 1 < (L.set 1 none).length := by rw [List.length_set, hL.1]; omega
    have h2 : y < ((L.set 1 none).drop 1).length := by simp [hL.1]; omega
    rw [getElem!_pos _ y h2, getElem!_pos _ (y + 1) h1, List.getElem_drop]; congr 1; omega
  rw [e, get!_set _ _ _ _ (by rw [hL.1]; omega)]
  by_cases h0 : y = 0
  · subst h0; rw [if_pos rfl]; exact ⟨fun x h => (by cases h), fun _ => .inl rfl⟩
  · rw [if_neg (by omega), hL.2 y hy]
    by_cases hm : y ∈ postL G
    · obtain ⟨d, h1, h2⟩ := h.final hg hall hfix hm h0
      rw [h1]; exact ⟨fun x h => (by cases h; exact h2), fun h => (by cases h)⟩
    · have hn : D y = none := by
        cases e : D y with
        | none => rfl
        | some d => exact absurd (h.live y d e) hm
      rw [hn]; exact ⟨fun x h => (by cases h), fun _ => .inr fun hr => hm (((postL_ok hg).mem y).2 hr)⟩

theorem funcPostorder_ok {w0 : World} {f : FRep} {G : Graph} (hF : (funcR f G).holds w0) (hg : Gd G) : Calls Try.prog 66 #[ptr f.bf] w0 (Ret fun u w' => ∃ b c, u = .slice (some ⟨b, 0, none⟩) (postL G).length c ∧ St w0 M0 [row u 83 1 (postL G).length (ordV f (postL G))] w') := by
  refine V_enter (N := 5) Try.func66 rfl Try.ntmps66 rfl ?_
  refine VC.sub (τ := [(0, _)]) ⟨rfl, trivial⟩ ?_
  refine VC_seq ?_
  refine VC_region ?_
  refine VL_val rfl rfl rfl (yd_assign rfl) ?_
  refine VL_nil ?_
  refine VE_then ?_
  refine VC_seq ?_
  refine VC_region ?_
  refine VL_val rfl rfl rfl (yd_move rfl) ?_
  refine VL_call rfl rfl rfl rfl T.call74 rfl (postorder_ok hF hg) ?_
  rintro _ w ⟨b, c, rfl, hS⟩
  refine VL_val rfl rfl rfl (yd_assign rfl) ?_
  refine VL_nil ?_
  refine VE_then ?_
  refine VC_ret ?_
  refine VE_ret1 (rfl) rfl ?_
  exact ⟨_, _, rfl, hS⟩

end Go.Proofs.Ytmoooaaiohplhab
