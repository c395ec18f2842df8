/- intersect, dominatorsSimple, DominatorsSimple, impl.DominatorsSimple. -/
import Derived.Test.YtmoooaaiohplhacWg
import Derived.Test.YtmoooaaiohplhacPd
namespace Go.Proofs.Ytmoooaaiohplhac
open Go Go.V
set_option linter.unusedVariables false
set_option maxRecDepth 100000

theorem T.call58 : CallT Try.prog 58 := CallT.of Try.func58 (by kernel_rfl) (by kernel_rfl)
theorem T.call59 : CallT Try.prog 59 := CallT.of Try.func59 (by kernel_rfl) (by kernel_rfl)
theorem T.call60 : CallT Try.prog 60 := CallT.of Try.func60 (by kernel_rfl) (by kernel_rfl)
theorem T.call61 : CallT Try.prog 61 := CallT.of Try.func61 (by kernel_rfl) (by kernel_rfl)

open Go.PL
/-- A pointer to a block, or none, as an address. -/
def pA (f : FRep) (o : Option Nat) : Option Addr := o.map fun i => ⟨f.bb i, 0, none⟩
def pP (f : FRep) (o : Option Nat) : Value := .pointer (pA f o)
theorem pP_eq (f : FRep) : pP f = pO f := by funext o; cases o <;> rfl
theorem pA_none {f : FRep} {o : Option Nat} (h : pA f o = none) : o = none := by cases o with | none => rfl | some i => cases h
theorem pA_inj {w : World} {f : FRep} {G : Graph} (hA : FuncAt w f G) {o o' : Option Nat} (ho : ∀ i, o = some i → i < G.length) (ho' : ∀ i, o' = some i → i < G.length) (h : pA f o = pA f o') : o = o' := by
  cases o with
  | none => cases o' with
    | none => rfl
    | some i => cases h
  | some i => cases o' with
    | none => cases h
    | some j => simp only [pA, Option.map_some, Option.some.injEq, Addr.mk.injEq] at h; rw [hA.inj i j (ho i rfl) (ho' j rfl) h.1]
theorem isC_pA {w : World} {f : FRep} {G : Graph} (hA : FuncAt w f G) {o : Option Nat} (ho : ∀ i, o = some i → i < G.length) : IsC w (pA f o) := by
  cases o with
  | none => exact isC_none
  | some i => exact hA.isC (ho i rfl)
/-- The numbers by postorder. -/
def PnS (G : Graph) (pn : List Int) : Prop := pn.length = G.length + 1 ∧ ∀ x, x ∈ postL G → pn[x + 1]! = ((ps G x : Nat) : Int)
/-- The list L holds the map D. -/
def LD (G : Graph) (D : Nat → Option Nat) (L : List (Option Nat)) : Prop := L.length = G.length + 1 ∧ ∀ x, x < G.length → L[x + 1]! = D x
theorem ld_cell {w : World} {f : FRep} {G : Graph} {D : Nat → Option Nat} {L : List (Option Nat)} {b x : Nat} {t : TypeId} (h : (blk b t (L.map (pP f))).holds w) (hL : LD G D L) (hx : x < G.length) : w.cell? ⟨b, x + 1, none⟩ = some (.pointer (pA f (D x))) := by
  rw [← hL.2 x hx]; exact blk_cellM h (by rw [hL.1]; omega)
theorem ord_cell {w : World} {f : FRep} {l : List Nat} {b c k : Nat} {t : TypeId} (h : (row (.slice (some ⟨b, 0, none⟩) l.length c) t 1 l.length (ordV f l)).holds w) (hk : k < l.length) : w.cell? ⟨b, k, none⟩ = some (ptr (f.bb l[k]!)) :=
  row_cell h (by simp [ordV, hk])
theorem post_lt {G : Graph} (hg : Gd G) {x : Nat} (h : x ∈ postL G) : x < G.length := (postL_ok hg).lt x h
theorem _root_.Go.PL.CI.lt' {G : Graph} {D : Nat → Option Nat} (hg : Gd G) (h : CI G D) {x : Nat} (hx : D x ≠ none) : x < G.length := post_lt hg (h.some' hx)
theorem _root_.Go.PL.CI.lt2 {G : Graph} {D : Nat → Option Nat} (hg : Gd G) (h : CI G D) {x d : Nat} (hx : D x = some d) : d < G.length := by
  by_cases e : x = 0
  · subst e; rw [h.zero] at hx; cases hx; exact hg.pos
  · exact h.lt' hg (h.up x d e hx).2
def D0 : Nat → Option Nat := fun x => if x = 0 then some 0 else none
theorem D0_ne {x : Nat} (h : D0 x ≠ none) : x = 0 := by by_cases e : x = 0; exact e; simp [D0, e] at h
theorem D0_some {x d : Nat} (h : D0 x = some d) : x = 0 := D0_ne (by rw [h]; simp)
theorem ci_init {G : Graph} (hg : Gd G) : CI G D0 := by
  refine ⟨rfl, fun x d h => ?_, fun x d h0 h => absurd (D0_some h) h0, fun x d h0 h => absurd (D0_some h) h0, fun x z hx hz => ?_⟩
  · rw [D0_some h]; exact zero_mem hg
  · obtain rfl := D0_ne hx
    rw [dm_zero_only hz]; exact .refl _
theorem up_zero {D : Nat → Option Nat} {z : Nat} (h : Up D 0 z) : z = 0 := by
  cases h with
  | refl => rfl
  | step h0 => exact absurd rfl h0
theorem ti_init {G : Graph} (hg : Gd G) : TI G D0 0 (postL G).length := by
  intro x r π z hx hp hc hu
  obtain rfl := D0_ne hx
  rw [up_zero hu]; exact hp.pth.zero
theorem ti_start {G : Graph} (hg : Gd G) {D : Nat → Option Nat} {j : Nat} (h : CI G D) (t : TI G D j (postL G).length) : TI G D j ((postL G).length - 1) := by
  intro x r π z hx hp hc hu
  rcases hc with hc | ⟨hc, hi⟩
  · exact t x r π z hx hp (.inl hc) hu
  · have h1 := ps_lt (h.some' hx)
    have h2 := ps_zero hg
    have : x = 0 := ps_inj (h.some' hx) (zero_mem hg) (by omega)
    subst this
    rw [up_zero hu]; exact hp.pth.zero
theorem ld_init (G : Graph) (hg : Gd G) : LD G D0 ((List.replicate (G.length + 1) none).set 1 (some 0)) := by
  refine ⟨by simp, fun x hx => ?_⟩
  rw [get!_set _ _ _ _ (by simp; have := hg.pos; omega)]
  by_cases e : x = 0
  · subst e; rfl
  · rw [if_neg (by omega), get!_replicate _ _ _ (by omega)]; simp [D0, e]
theorem LD.set {G : Graph} {D : Nat → Option Nat} {L : List (Option Nat)} (h : LD G D L) {b d : Nat} (hb : b < G.length) : LD G (set1 D b d) (L.set (b + 1) (some d)) := by
  refine ⟨by rw [List.length_set, h.1], fun x hx => ?_⟩
  rw [get!_set _ _ _ _ (by rw [h.1]; omega)]
  by_cases e : x = b
  · subst e; rw [if_pos rfl, set1_same]
  · rw [if_neg (by omega), set1_ne e, h.2 x hx]
theorem set1_id {D : Nat → Option Nat} {b d : Nat} (h : D b = some d) : set1 D b d = D := by
  funext x; by_cases e : x = b
  · subst e; rw [set1_same, h]
  · rw [set1_ne e]
theorem _root_.Go.PL.FoldOK.dn {G : Graph} {D : Nat → Option Nat} (h : CI G D) {l : List Nat} {d : Nat} (hf : FoldOK D l (some d)) : D d ≠ none := by
  rcases hf with ⟨e, _⟩ | ⟨d', e, ⟨p, hp, hn⟩, h1, _⟩
  · cases e
  · cases e; exact h.upd_ne (h1 p hp hn) hn
theorem take_snoc {l : List Nat} {k : Nat} (h : k < l.length) : l.take (k + 1) = l.take k ++ [l[k]!] := by
  rw [List.take_succ_eq_append_getElem h, getElem!_pos l k h]
theorem idoms_of {G : Graph} (hg : Gd G) {D : Nat → Option Nat} {L : List (Option Nat)} (h : CI G D) (hL : LD G D L) (hall : ∀ x, x ∈ postL G → D x ≠ none) (hfix : ∀ b, b ∈ postL G → b ≠ 0 → ∃ d, D b = some d ∧ StepOK G D b d) : IdomsOK G ((L.set 1 none).drop 1) := by
  have hpos := hg.pos
  refine ⟨by simp [hL.1], fun y hy => ?_⟩
  have e : ((L.set 1 none).drop 1)[y]! = (L.set 1 none)[y + 1]! := by
    have h1 : y + 1 < (L.set 1 none).length := by rw [List.length_set, hL.1]; omega
    have h2 : y < ((L.set 1 none).drop 1).length := by simp [hL.1]; omega
    rw [getElem!_pos _ y h2, getElem!_pos _ (y + 1) h1, List.getElem_drop]; congr 1; omega
  rw [e, get!_set _ _ _ _ (by rw [hL.1]; omega)]
  by_cases h0 : y = 0
  · subst h0; rw [if_pos rfl]; exact ⟨fun x h => (by cases h), fun _ => .inl rfl⟩
  · rw [if_neg (by omega), hL.2 y hy]
    by_cases hm : y ∈ postL G
    · obtain ⟨d, h1, h2⟩ := h.final hg hall hfix hm h0
      rw [h1]; exact ⟨fun x h => (by cases h; exact h2), fun h => (by cases h)⟩
    · have hn : D y = none := by
        cases e : D y with
        | none => rfl
        | some d => exact absurd (h.live y d e) hm
      rw [hn]; exact ⟨fun x h => (by cases h), fun _ => .inr fun hr => hm (((postL_ok hg).mem y).2 hr)⟩

theorem allocInt_ok {w0 : World} {n : Nat} (hn : n ≤ 1000) : Calls Try.prog 59 #[.agg #[], .int .i64 (n : Int)] w0 (Ret fun u w' => ∃ b, u = .slice (some ⟨b, 0, none⟩) n n ∧ St w0 M0 [blk b 3 ((List.replicate n 0).map (Value.int .i64))] w') := by
  have hS := St.refl w0
  refine V_enter (N := 7) Try.func59 rfl Try.ntmps59 rfl ?_
  refine VC.sub (τ := [(0, _), (1, _)]) ⟨rfl, rfl, trivial⟩ ?_
  refine VC_seq ?_
  refine VC_region ?_
  refine VL_box rfl rfl rfl rfl rfl hS ?_
  clear hS; intro b2 w hS
  refine VL_val rfl rfl rfl (yd_assign rfl) ?_
  refine VL_nil ?_
  refine VE_then ?_
  refine VC_seq ?_
  refine VC_region ?_
  refine VL_val rfl rfl rfl (yd_move rfl) ?_
  refine VL_makeM (Value.int .i64) 0 rfl rfl rfl rfl rfl rfl Try.underlying29 T.e3 rfl rfl (by omega) (by omega) (by omega) hS ?_
  clear hS; intro b6 w hS
  refine VL_val rfl rfl rfl (yd_assign rfl) ?_
  refine VL_nil ?_
  refine VE_then ?_
  refine VC_ret ?_
  refine VE_ret1 (rfl) rfl ?_
  exact ⟨_, rfl, hS.sub (by simp)⟩

theorem freeInt_ok {w0 : World} {v : Value} {u : FrameMode} : CallsD Try.prog 60 #[.agg #[], v] u w0 (fun e u' w' => u' = u ∧ Ret (fun _ w' => St w0 M0 [] w') e w') := by
  have hS := St.refl w0
  refine V_enterC (N := 4) Try.func60 rfl Try.ntmps60 rfl ?_
  refine VC.sub (τ := [(0, _), (1, _)]) ⟨rfl, rfl, trivial⟩ ?_
  refine VC_region ?_
  refine VL_box rfl rfl rfl rfl rfl hS ?_
  clear hS; intro b2 w hS
  refine VL_nil ?_
  refine VE_end0 (rfl) ?_
  exact hS.sub (by simp)

theorem funcPostorder_ok {w0 : World} {f : FRep} {G : Graph} (hF : (funcR f G).holds w0) (hg : Gd G) : Calls Try.prog 58 #[ptr f.bf] w0 (Ret fun u w' => ∃ b c, u = .slice (some ⟨b, 0, none⟩) (postL G).length c ∧ St w0 M0 [row u 82 1 (postL G).length (ordV f (postL G))] w') := by
  refine V_enter (N := 5) Try.func58 rfl Try.ntmps58 rfl ?_
  refine VC.sub (τ := [(0, _)]) ⟨rfl, trivial⟩ ?_
  refine VC_seq ?_
  refine VC_region ?_
  refine VL_val rfl rfl rfl (yd_assign rfl) ?_
  refine VL_nil ?_
  refine VE_then ?_
  refine VC_seq ?_
  refine VC_region ?_
  refine VL_val rfl rfl rfl (yd_move rfl) ?_
  refine VL_call rfl rfl rfl rfl T.call47 rfl (postorder_ok hF hg) ?_
  rintro _ w ⟨b, c, rfl, hS⟩
  refine VL_val rfl rfl rfl (yd_assign rfl) ?_
  refine VL_nil ?_
  refine VE_then ?_
  refine VC_ret ?_
  refine VE_ret1 (rfl) rfl ?_
  exact ⟨_, _, rfl, hS⟩

theorem intersect_ok {w0 : World} {f : FRep} {G : Graph} {D : Nat → Option Nat} (hF : (funcR f G).holds w0) (hg : Gd G) (hC : CI G D) {bn : Nat} {pn : List Int} (hp : (blk bn 3 (pn.map (Value.int .i64))).holds w0) (hpn : PnS G pn) {bi : Nat} {L : List (Option Nat)} (hi : (blk bi 82 (L.map (pP f))).holds w0) (hL : LD G D L) {b c : Nat} (hb : D b ≠ none) (hc : D c ≠ none) : Calls Try.prog 61 #[ptr (f.bb b), ptr (f.bb c), .slice (some ⟨bn, 0, none⟩) (G.length + 1) (G.length + 1), .slice (some ⟨bi, 0, none⟩) (G.length + 1) (G.length + 1)] w0 (Ret fun u w' => ∃ e, IsNca D b c e ∧ u = ptr (f.bb e) ∧ St w0 M0 [] w') := by
  have hA := funcAt hF
  have hle := hg.le
  have hpl := postL_le hg
  have hS := St.refl w0
  have hml := hpn.1
  refine V_enter (N := 42) Try.func61 rfl Try.ntmps61 rfl ?_
  refine VC.sub (τ := [(0, _), (1, _), (2, _), (3, _)]) ⟨rfl, rfl, rfl, rfl, trivial⟩ ?_
  refine VC_seq ?_
  refine VC_region ?_
  refine VL_val rfl rfl rfl (yd_assign rfl) ?_
  refine VL_nil ?_
  refine VE_then ?_
  refine VC_seq ?_
  refine VC_block ?_
  refine VC_loop2 [2, 3, 8] [_, _, _] rfl (fun (x : Nat) (y : Nat) => [(0, ptr (f.bb x)), (1, ptr (f.bb y))]) (fun (x : Nat) (y : Nat) w => D x ≠ none ∧ D y ≠ none ∧ Up D b x ∧ Up D c y ∧ (∀ z, Up D b z → Up D c z → Up D x z ∧ Up D y z) ∧ St w0 M0 [] w) (fun (x : Nat) (y : Nat) => 26 - ps G x - ps G y) b c ⟨rfl, rfl, trivial⟩ (⟨hb, hc, .refl _, .refl _, fun z h1 h2 => ⟨h1, h2⟩, hS⟩) ?_
  clear hS; rintro x y w ⟨hx, hy, hbx, hcy, hz, hS⟩
  have hxl := hC.lt' hg hx
  have hyl := hC.lt' hg hy
  have hA1 := funcAt (hS.func hF)
  have hpx := ps_lt (hC.some' hx)
  have hpy := ps_lt (hC.some' hy)
  refine VC_seq ?_
  refine VC_seq ?_
  refine VC_region ?_
  refine VL_val rfl rfl rfl (yd_move rfl) ?_
  refine VL_val rfl rfl rfl (yd_move rfl) ?_
  refine VL_val rfl rfl rfl (yd_neqp rfl rfl Try.underlying82 T.sz93 (by decide) (hA1.isC hxl) (hA1.isC hyl)) ?_
  refine VL_nil ?_
  refine VE_then ?_
  refine VC_cond rfl (fun h11 => ?_) (fun h11 => ?_)
  · replace h11 := of_decide_eq_true h11
    have hxy : x ≠ y := fun e => by subst e; exact h11 rfl
    refine VC_skip ?_
    refine VE_then ?_
    refine VC_block ?_
    refine VC_seq ?_
    refine VC_draw T.mixed hS ?_
    clear hS; intro w hS
    refine VA_take (i := 0) rfl rfl rfl rfl (by kernel_rfl) (by kernel_rfl) (by kernel_rfl) #[true, false, false, false, false, false, false, false, false, false, false, false, false, false, false] (by kernel_rfl) (fun _ _ _ _ h => h) (fun w hS => yd_move rfl) ?_
    refine VA_take (i := 1) rfl rfl rfl rfl (by kernel_rfl) (by kernel_rfl) (by kernel_rfl) #[true, true, false, false, false, false, false, false, false, false, false, false, false, false, false] (by kernel_rfl) (fun _ _ _ _ h => h) (fun w hS => yd_move rfl) ?_
    refine VA_take (i := 2) rfl rfl rfl rfl (by kernel_rfl) (by kernel_rfl) (by kernel_rfl) #[true, true, true, false, false, false, false, false, false, false, false, false, false, false, false] (by kernel_rfl) (fun _ _ _ _ h => h) (fun w hS => yd_nilc rfl) ?_
    refine VA_take (i := 3) rfl rfl rfl rfl (by kernel_rfl) (by kernel_rfl) (by kernel_rfl) #[true, true, true, true, false, false, false, false, false, false, false, false, false, false, false] (by kernel_rfl) (fun _ _ _ _ h => h) (fun w hS => yd_field rfl T.fld93_0) ?_
    refine VA_take (i := 4) rfl rfl rfl rfl (by kernel_rfl) (by kernel_rfl) (by kernel_rfl) #[true, true, true, true, true, false, false, false, false, false, false, false, false, false, false] (by kernel_rfl) (fun _ _ _ _ h => h) (fun w hS => yd_load rfl T.one90 (hS.cell0 (hA.id x hxl))) ?_
    refine VA_take (i := 5) rfl rfl rfl rfl (by kernel_rfl) (by kernel_rfl) (by kernel_rfl) #[true, true, true, true, true, true, false, false, false, false, false, false, false, false, false] (by kernel_rfl) (fun _ _ _ _ h => h) (fun w hS => yd_index0 rfl rfl Try.underlying29 T.sz3 (by omega)) ?_
    refine VA_take (i := 6) rfl rfl rfl rfl (by kernel_rfl) (by kernel_rfl) (by kernel_rfl) #[true, true, true, true, true, true, true, false, false, false, false, false, false, false, false] (by kernel_rfl) (fun _ _ _ _ h => h) (fun w hS => yd_load rfl T.one3 (hS.cell0 (blk_cellM hp (show x + 1 < pn.length by omega)))) ?_
    refine VA_take (i := 7) rfl rfl rfl rfl (by kernel_rfl) (by kernel_rfl) (by kernel_rfl) #[true, true, true, true, true, true, true, true, false, false, false, false, false, false, false] (by kernel_rfl) (fun _ _ _ _ h => h) (fun w hS => yd_move rfl) ?_
    refine VA_take (i := 8) rfl rfl rfl rfl (by kernel_rfl) (by kernel_rfl) (by kernel_rfl) #[true, true, true, true, true, true, true, true, true, false, false, false, false, false, false] (by kernel_rfl) (fun _ _ _ _ h => h) (fun w hS => yd_move rfl) ?_
    refine VA_take (i := 9) rfl rfl rfl rfl (by kernel_rfl) (by kernel_rfl) (by kernel_rfl) #[true, true, true, true, true, true, true, true, true, true, false, false, false, false, false] (by kernel_rfl) (fun _ _ _ _ h => h) (fun w hS => yd_nilc rfl) ?_
    refine VA_take (i := 10) rfl rfl rfl rfl (by kernel_rfl) (by kernel_rfl) (by kernel_rfl) #[true, true, true, true, true, true, true, true, true, true, true, false, false, false, false] (by kernel_rfl) (fun _ _ _ _ h => h) (fun w hS => yd_field rfl T.fld93_0) ?_
    refine VA_take (i := 11) rfl rfl rfl rfl (by kernel_rfl) (by kernel_rfl) (by kernel_rfl) #[true, true, true, true, true, true, true, true, true, true, true, true, false, false, false] (by kernel_rfl) (fun _ _ _ _ h => h) (fun w hS => yd_load rfl T.one90 (hS.cell0 (hA.id y hyl))) ?_
    refine VA_take (i := 12) rfl rfl rfl rfl (by kernel_rfl) (by kernel_rfl) (by kernel_rfl) #[true, true, true, true, true, true, true, true, true, true, true, true, true, false, false] (by kernel_rfl) (fun _ _ _ _ h => h) (fun w hS => yd_index0 rfl rfl Try.underlying29 T.sz3 (by omega)) ?_
    refine VA_take (i := 13) rfl rfl rfl rfl (by kernel_rfl) (by kernel_rfl) (by kernel_rfl) #[true, true, true, true, true, true, true, true, true, true, true, true, true, true, false] (by kernel_rfl) (fun _ _ _ _ h => h) (fun w hS => yd_load rfl T.one3 (hS.cell0 (blk_cellM hp (show y + 1 < pn.length by omega)))) ?_
    refine VA_take (i := 14) rfl rfl rfl rfl (by kernel_rfl) (by kernel_rfl) (by kernel_rfl) #[true, true, true, true, true, true, true, true, true, true, true, true, true, true, true] (by kernel_rfl) (fun _ _ _ _ h => h) (fun w hS => yd_lss rfl rfl) ?_
    refine VA_done (by kernel_rfl) hS ?_
    refine VE_then ?_
    refine VC_cond rfl (fun h26 => ?_) (fun h26 => ?_)
    · replace h26 := of_decide_eq_true h26
      rw [hpn.2 x (hC.some' hx), hpn.2 y (hC.some' hy)] at h26
      have hlt : ps G x < ps G y := by omega
      have hx0 : x ≠ 0 := fun e => by subst e; have := ps_le_zero hg (hC.some' hy); omega
      obtain ⟨d, hd⟩ := Option.ne_none_iff_exists'.1 hx
      obtain ⟨hu1, hu2⟩ := hC.up x d hx0 hd
      have hpd := ps_lt (hC.some' hu2)
      refine VC_region ?_
      refine VL_val rfl rfl rfl (yd_move rfl) ?_
      refine VL_val rfl rfl rfl (yd_move rfl) ?_
      refine VL_val rfl rfl rfl (yd_nilc rfl) ?_
      refine VL_val rfl rfl rfl (yd_field rfl T.fld93_0) ?_
      refine VL_val rfl rfl rfl (yd_load rfl T.one90 (hS.cell0 (hA.id x hxl))) ?_
      refine VL_val rfl rfl rfl (yd_index0 rfl rfl Try.underlying72 T.sz82 (by omega)) ?_
      refine VL_val rfl rfl rfl (yd_load rfl T.one82 (hS.cell0 ((ld_cell hi hL hxl).trans (by rw [hd])))) ?_
      refine VL_val rfl rfl rfl (yd_assign rfl) ?_
      refine VL_nil ?_
      refine VE_block_normal ?_
      exact VE_round2 d y ⟨rfl, rfl, rfl, rfl, rfl, trivial⟩ ⟨hu2, hy, hbx.trans (.step hx0 hd (.refl _)), hcy, fun z h1 h2 => ⟨hC.nca_left hlt hd (hz z h1 h2).1 (hz z h1 h2).2, (hz z h1 h2).2⟩, hS⟩ (by omega)
    · replace h26 := Int.not_lt.1 (of_decide_eq_false h26)
      rw [hpn.2 x (hC.some' hx), hpn.2 y (hC.some' hy)] at h26
      have hlt : ps G y < ps G x := by
        have : ps G y ≠ ps G x := fun e => hxy (ps_inj (hC.some' hx) (hC.some' hy) e.symm)
        omega
      have hy0 : y ≠ 0 := fun e => by subst e; have := ps_le_zero hg (hC.some' hx); omega
      obtain ⟨d, hd⟩ := Option.ne_none_iff_exists'.1 hy
      obtain ⟨hu1, hu2⟩ := hC.up y d hy0 hd
      have hpd := ps_lt (hC.some' hu2)
      refine VC_region ?_
      refine VL_val rfl rfl rfl (yd_move rfl) ?_
      refine VL_val rfl rfl rfl (yd_move rfl) ?_
      refine VL_val rfl rfl rfl (yd_nilc rfl) ?_
      refine VL_val rfl rfl rfl (yd_field rfl T.fld93_0) ?_
      refine VL_val rfl rfl rfl (yd_load rfl T.one90 (hS.cell0 (hA.id y hyl))) ?_
      refine VL_val rfl rfl rfl (yd_index0 rfl rfl Try.underlying72 T.sz82 (by omega)) ?_
      refine VL_val rfl rfl rfl (yd_load rfl T.one82 (hS.cell0 ((ld_cell hi hL hyl).trans (by rw [hd])))) ?_
      refine VL_val rfl rfl rfl (yd_assign rfl) ?_
      refine VL_nil ?_
      refine VE_block_normal ?_
      exact VE_round2 x d ⟨rfl, rfl, rfl, rfl, rfl, trivial⟩ ⟨hx, hu2, hbx, hcy.trans (.step hy0 hd (.refl _)), fun z h1 h2 => ⟨(hz z h1 h2).1, hC.nca_left hlt hd (hz z h1 h2).2 (hz z h1 h2).1⟩, hS⟩ (by omega)
  · replace h11 := Decidable.not_not.1 (of_decide_eq_false h11)
    have hxy : x = y := by apply hA.inj x y hxl hyl; simpa [ptr] using h11
    refine VC_exit ?_
    refine VE_then_exit (VE_then_exit (VE_block_exit ?_))
    refine VE_then ?_
    refine VC_seq ?_
    refine VC_region ?_
    refine VL_val rfl rfl rfl (yd_move rfl) ?_
    refine VL_val rfl rfl rfl (yd_assign rfl) ?_
    refine VL_nil ?_
    refine VE_then ?_
    refine VC_ret ?_
    refine VE_ret1 (rfl) rfl ?_
    subst hxy
    exact ⟨x, ⟨hbx, hcy, fun z h1 h2 => (hz z h1 h2).1⟩, rfl, hS⟩

set_option maxHeartbeats 1000000 in
theorem dominatorsSimple_ok {w0 : World} {f : FRep} {G : Graph} (hF : (funcR f G).holds w0) (hP : PredsOk f G) (hg : Gd G) : Calls Try.prog 49 #[ptr f.bf] w0 (Ret fun u w' => ∃ b, ∃ L : List (Option Nat), u = .slice (some ⟨b, 0, none⟩) (G.length + 1) (G.length + 1) ∧ L.length = G.length + 1 ∧ IdomsOK G (L.drop 1) ∧ St w0 M0 [blk b 82 (L.map (pP f))] w') := by
  have hA := funcAt hF
  have hle := hg.le
  have hpos := hg.pos
  have hpl := postL_le hg
  have hpp := postL_pos hg
  have hS := St.refl w0
  obtain ⟨fcs, hfc⟩ := hA.hf
  have hFk : ∀ {η : List Res} {w : World}, St w0 M0 η w → (funcR f G).holds w := fun h => h.func hF
  refine V_enterD (N := 142) Try.func49 rfl Try.ntmps49 rfl ?_
  refine VC.sub (τ := [(0, _)]) ⟨rfl, trivial⟩ ?_
  refine VC_seq ?_
  refine VC_region ?_
  refine VL_val rfl rfl rfl (yd_assign rfl) ?_
  refine VL_nil ?_
  refine VE_then ?_
  refine VC_seq ?_
  refine VC_region ?_
  refine VL_val rfl rfl rfl (yd_move rfl) ?_
  refine VL_call rfl rfl rfl rfl T.call57 rfl (numBlocks_ok (hFk hS) hg) ?_
  rintro _ _ ⟨rfl, rfl⟩
  refine VL_makeM (pP f) none rfl rfl rfl rfl rfl rfl Try.underlying72 T.e82 rfl rfl (by omega) (by omega) (by omega) hS ?_
  clear hS; intro bi w hS
  refine VL_val rfl rfl rfl (yd_assign rfl) ?_
  refine VL_nil ?_
  refine VE_then ?_
  refine VC_seq ?_
  refine VC_region ?_
  refine VL_val rfl rfl rfl (yd_move rfl) ?_
  refine VL_call rfl rfl rfl rfl T.call58 rfl (funcPostorder_ok (hFk hS) hg) ?_
  rintro _ w ⟨bo, co, rfl, hR⟩
  have hS := hS.call0 hR
  refine VL_val rfl rfl rfl (yd_assign rfl) ?_
  refine VL_nil ?_
  refine VE_then ?_
  refine VC_seq ?_
  refine VC_draw T.mixed hS ?_
  clear hS; intro w hS
  refine VA_take (i := 0) rfl rfl rfl rfl (by kernel_rfl) (by kernel_rfl) (by kernel_rfl) #[true, false, false, false, false, false, false, false] (by kernel_rfl) (fun _ _ _ _ h => h) (fun w hS => yd_move rfl) ?_
  refine VA_take (i := 1) rfl rfl rfl rfl (by kernel_rfl) (by kernel_rfl) (by kernel_rfl) #[true, true, false, false, false, false, false, false] (by kernel_rfl) (fun _ _ _ _ h => h) (fun w hS => yd_nilc rfl) ?_
  refine VA_take (i := 2) rfl rfl rfl rfl (by kernel_rfl) (by kernel_rfl) (by kernel_rfl) #[true, true, true, false, false, false, false, false] (by kernel_rfl) (fun _ _ _ _ h => h) (fun w hS => yd_field0 rfl T.fldz89_2 (hS.heap0 hfc)) ?_
  refine VA_take (i := 3) rfl rfl rfl rfl (by kernel_rfl) (by kernel_rfl) (by kernel_rfl) #[true, true, true, true, false, false, false, false] (by kernel_rfl) (fun _ _ _ _ h => h) (fun w hS => yd_loadE rfl T.agg87) ?_
  refine VA_take (i := 4) rfl rfl rfl rfl (by kernel_rfl) (by kernel_rfl) (by kernel_rfl) #[true, true, true, true, true, false, false, false] (by kernel_rfl) (fun _ _ _ _ h => h) (fun w hS => yd_move rfl) ?_
  refine VA_only (i := 5) (by kernel_rfl) hS ?_
  refine VS_call rfl (wanted_none rfl) #[true, true, true, true, true, true, false, false] (by kernel_rfl) rfl rfl rfl T.call57 rfl (numBlocks_ok (hFk hS) hg) ?_
  rintro _ _ ⟨rfl, rfl⟩
  refine VA_only (i := 6) (by kernel_rfl) hS ?_
  refine VS_call rfl (wanted_none rfl) #[true, true, true, true, true, true, true, false] (by kernel_rfl) rfl rfl rfl T.call59 rfl (allocInt_ok (by omega)) ?_
  rintro _ w ⟨bn, rfl, hR⟩
  have hS := hS.call0 hR
  refine VA.weaken (S' := fun w => St w0 M0 (_ ++ [blk bn 3 ((List.replicate (G.length + 1) 0).map (Value.int .i64))]) w) ?_ (fun w h => h.sub (List.sublist_append_left _ _))
  refine VA_take (i := 7) rfl rfl rfl rfl (by kernel_rfl) (by kernel_rfl) (by kernel_rfl) #[true, true, true, true, true, true, true, true] (by kernel_rfl) (fun _ _ _ _ h => h) (fun w hS => yd_assign rfl) ?_
  refine VA_done (by kernel_rfl) hS ?_
  refine VE_then ?_
  refine VC_seq ?_
  refine VC_region ?_
  refine VL_val rfl rfl rfl (yd_move rfl) ?_
  refine VL_val rfl rfl rfl (yd_nilc rfl) ?_
  refine VL_val rfl rfl rfl (yd_field0 rfl T.fldz89_2 (hS.heap0 hfc)) ?_
  refine VL_val rfl rfl rfl (yd_loadE rfl T.agg87) ?_
  refine VL_val rfl rfl rfl (yd_move rfl) ?_
  refine VL_defer rfl rfl rfl rfl ?_
  refine VL_nil ?_
  refine VE_then ?_
  refine VC_seq ?_
  refine VC_seq ?_
  refine VC_region ?_
  refine VL_val rfl rfl rfl (yd_move rfl) ?_
  refine VL_val rfl rfl rfl (yd_len rfl Try.underlying72) ?_
  refine VL_val rfl rfl rfl (yd_move rfl) ?_
  refine VL_nil ?_
  refine VE_then ?_
  refine VC_block ?_
  refine VC_loop2 [0, 2, 3, 4, 5, 32, 33] [_, _, _, _, _, _, _] rfl (fun (k : Nat) (pn : List Int) => [(34, .int .i64 ((k : Nat) : Int))]) (fun (k : Nat) (pn : List Int) w => k ≤ (postL G).length ∧ pn.length = G.length + 1 ∧ (∀ i, i < k → pn[(postL G)[i]! + 1]! = ((i : Nat) : Int)) ∧ St w0 M0 [blk bi 82 ((List.replicate (G.length + 1) none).map (pP f)), row (.slice (some ⟨bo, 0, none⟩) (postL G).length co) 82 1 (postL G).length (ordV f (postL G)), blk bn 3 (pn.map (Value.int .i64))] w) (fun (k : Nat) (pn : List Int) => (postL G).length - k) 0 _ ⟨rfl, trivial⟩ (⟨Nat.zero_le _, by simp, fun i h => absurd h (Nat.not_lt_zero _), hS⟩) ?_
  clear hS; rintro k pn w ⟨hk, hml, hpi, hS⟩
  refine VC_seq ?_
  refine VC_region ?_
  refine VL_val rfl rfl rfl (yd_lss rfl rfl) ?_
  refine VL_nil ?_
  refine VE_then ?_
  refine VC_seq ?_
  refine VC_cond rfl (fun h35 => ?_) (fun h35 => ?_)
  · replace h35 := of_decide_eq_true h35
    refine VC_skip ?_
    refine VE_then ?_
    refine VC_seq ?_
    refine VC_block ?_
    refine VC_seq ?_
    refine VC_region ?_
    refine VL_val rfl rfl rfl (yd_move rfl) ?_
    refine VL_val rfl rfl rfl (yd_index0 rfl rfl Try.underlying72 T.sz82 (by omega)) ?_
    refine VL_val rfl rfl rfl (yd_load rfl T.one82 (ord_cell (hS.get 1 rfl) (by omega))) ?_
    refine VL_val rfl rfl rfl (yd_assign rfl) ?_
    refine VL_val rfl rfl rfl (yd_assign rfl) ?_
    refine VL_nil ?_
    refine VE_then ?_
    refine VC_region ?_
    have hlt := postL_lt hg (i := k) (by omega)
    refine VL_val rfl rfl rfl (yd_move rfl) ?_
    refine VL_val rfl rfl rfl (yd_move rfl) ?_
    refine VL_val rfl rfl rfl (yd_nilc rfl) ?_
    refine VL_val rfl rfl rfl (yd_field rfl T.fld93_0) ?_
    refine VL_val rfl rfl rfl (yd_load rfl T.one90 (hS.cell0 (hA.id _ hlt))) ?_
    refine VL_val rfl rfl rfl (yd_move rfl) ?_
    refine VL_val rfl rfl rfl (yd_index0 rfl rfl Try.underlying29 T.sz3 (by omega)) ?_
    refine VL_storeM rfl rfl rfl rfl rfl T.one3 rfl hS 2 rfl (by omega) rfl ?_
    clear hS; intro w hS
    refine VL_nil ?_
    refine VE_block_normal ?_
    refine VE_then ?_
    refine VC_region ?_
    refine VL_val rfl rfl rfl (yd_add rfl rfl ((k + 1 : Nat) : Int) (by rw [wi64 (by omega) (by omega)]; omega)) ?_
    refine VL_val rfl rfl rfl (yd_move rfl) ?_
    refine VL_nil ?_
    refine VE_round2 (k + 1) _ ⟨rfl, rfl, rfl, rfl, rfl, rfl, rfl, rfl, trivial⟩ ⟨by omega, by simp [hml], fun i hi => ?_, hS⟩ (by omega)
    rw [get!_set _ _ _ _ (by omega)]
    by_cases e : (postL G)[k]! = (postL G)[i]!
    · have := ps_of hg (i := k) (by omega); have := ps_of hg (i := i) (by omega); rw [e] at *; rw [if_pos rfl]; omega
    · rw [if_neg (by omega)]; have : i ≠ k := fun h => e (by rw [h]); exact hpi i (by omega)
  · replace h35 := Int.not_lt.1 (of_decide_eq_false h35)
    refine VC_exit ?_
    refine VE_then_exit (VE_then_exit (VE_block_exit ?_))
    refine VE_then ?_
    refine VC_seq ?_
    have hpn : PnS G pn := ⟨hml, fun x hx => by have := hpi (ps G x) (by have := ps_lt hx; omega); rwa [ps_get hx] at this⟩
    clear hpi
    have hp0 := hpn.2 0 (zero_mem hg)
    have hpz := ps_zero hg
    refine VC_drawS (fun w => FuncAt w f G) T.mixed hS ?_
    clear hS; intro w hS
    refine VA_take (i := 0) rfl rfl rfl rfl (by kernel_rfl) (by kernel_rfl) (by kernel_rfl) #[true, false, false, false, false, false, false, false, false, false, false, false, false, false] (by kernel_rfl) (fun _ _ _ _ h => h) (fun w hC => yd_move rfl) ?_
    refine VA_take (i := 1) rfl rfl rfl rfl (by kernel_rfl) (by kernel_rfl) (by kernel_rfl) #[true, true, false, false, false, false, false, false, false, false, false, false, false, false] (by kernel_rfl) (fun _ _ _ _ h => h) (fun w hC => yd_move rfl) ?_
    refine VA_take (i := 2) rfl rfl rfl rfl (by kernel_rfl) (by kernel_rfl) (by kernel_rfl) #[true, true, true, false, false, false, false, false, false, false, false, false, false, false] (by kernel_rfl) (fun _ _ _ _ h => h) (fun w hC => yd_nilc rfl) ?_
    refine VA_take (i := 3) rfl rfl rfl rfl (by kernel_rfl) (by kernel_rfl) (by kernel_rfl) #[true, true, true, true, false, false, false, false, false, false, false, false, false, false] (by kernel_rfl) (fun _ _ _ _ h => h) (fun w hC => yd_field rfl T.fld89_0) ?_
    refine VA_take (i := 4) rfl rfl rfl rfl (by kernel_rfl) (by kernel_rfl) (by kernel_rfl) #[true, true, true, true, true, false, false, false, false, false, false, false, false, false] (by kernel_rfl) (fun _ _ _ _ h => h) (fun w hC => yd_load rfl T.one82 hC.entry) ?_
    refine VA_take (i := 5) rfl rfl rfl rfl (by kernel_rfl) (by kernel_rfl) (by kernel_rfl) #[true, true, true, true, true, true, false, false, false, false, false, false, false, false] (by kernel_rfl) (fun _ _ _ _ h => h) (fun w hC => yd_nilc rfl) ?_
    refine VA_take (i := 6) rfl rfl rfl rfl (by kernel_rfl) (by kernel_rfl) (by kernel_rfl) #[true, true, true, true, true, true, true, false, false, false, false, false, false, false] (by kernel_rfl) (fun _ _ _ _ h => h) (fun w hC => yd_field rfl T.fld93_0) ?_
    refine VA_take (i := 7) rfl rfl rfl rfl (by kernel_rfl) (by kernel_rfl) (by kernel_rfl) #[true, true, true, true, true, true, true, true, false, false, false, false, false, false] (by kernel_rfl) (fun _ _ _ _ h => h) (fun w hC => yd_load rfl T.one90 (hC.id 0 hpos)) ?_
    refine VA_take (i := 8) rfl rfl rfl rfl (by kernel_rfl) (by kernel_rfl) (by kernel_rfl) #[true, true, true, true, true, true, true, true, true, false, false, false, false, false] (by kernel_rfl) (fun _ _ _ _ h => h) (fun w hC => yd_move rfl) ?_
    refine VA_take (i := 9) rfl rfl rfl rfl (by kernel_rfl) (by kernel_rfl) (by kernel_rfl) #[true, true, true, true, true, true, true, true, true, true, false, false, false, false] (by kernel_rfl) (fun _ _ _ _ h => h) (fun w hC => yd_nilc rfl) ?_
    refine VA_take (i := 10) rfl rfl rfl rfl (by kernel_rfl) (by kernel_rfl) (by kernel_rfl) #[true, true, true, true, true, true, true, true, true, true, true, false, false, false] (by kernel_rfl) (fun _ _ _ _ h => h) (fun w hC => yd_field rfl T.fld89_0) ?_
    refine VA_take (i := 11) rfl rfl rfl rfl (by kernel_rfl) (by kernel_rfl) (by kernel_rfl) #[true, true, true, true, true, true, true, true, true, true, true, true, false, false] (by kernel_rfl) (fun _ _ _ _ h => h) (fun w hC => yd_load rfl T.one82 hC.entry) ?_
    refine VA_take (i := 12) rfl rfl rfl rfl (by kernel_rfl) (by kernel_rfl) (by kernel_rfl) #[true, true, true, true, true, true, true, true, true, true, true, true, true, false] (by kernel_rfl) (fun _ _ _ _ h => h) (fun w hC => yd_index0 rfl rfl Try.underlying72 T.sz82 (by omega)) ?_
    refine VA_only (i := 13) (by kernel_rfl) (funcAt (hFk hS)) ?_
    refine VS_store rfl (wanted_none rfl) #[true, true, true, true, true, true, true, true, true, true, true, true, true, true] (by kernel_rfl) rfl rfl rfl rfl T.one82 rfl hS 0 rfl (by simp; omega) ?_
    clear hS; intro w hS
    have hS : St w0 M0 [blk bi 82 (((List.replicate (G.length + 1) none).set 1 (some 0)).map (pP f)), row (.slice (some ⟨bo, 0, none⟩) (postL G).length co) 82 1 (postL G).length (ordV f (postL G)), blk bn 3 (pn.map (Value.int .i64))] w := by rw [List.map_set]; exact hS
    refine VA_done (by kernel_rfl) (funcAt (hFk hS)) ?_
    refine VE_then ?_
    refine VC_seq ?_
    refine VC_seq ?_
    refine VC_region ?_
    refine VL_val rfl rfl rfl (yd_move rfl) ?_
    refine VL_val rfl rfl rfl (yd_move rfl) ?_
    refine VL_val rfl rfl rfl (yd_nilc rfl) ?_
    refine VL_val rfl rfl rfl (yd_field rfl T.fld89_0) ?_
    refine VL_val rfl rfl rfl (yd_load rfl T.one82 (hS.cell0 hA.entry)) ?_
    refine VL_val rfl rfl rfl (yd_nilc rfl) ?_
    refine VL_val rfl rfl rfl (yd_field rfl T.fld93_0) ?_
    refine VL_val rfl rfl rfl (yd_load rfl T.one90 (hS.cell0 (hA.id 0 hpos))) ?_
    refine VL_val rfl rfl rfl (yd_index0 rfl rfl Try.underlying29 T.sz3 (by omega)) ?_
    refine VL_val rfl rfl rfl (yd_load rfl T.one3 (blk_cellM (hS.get 2 rfl) (by omega))) ?_
    refine VL_val rfl rfl rfl (yd_move rfl) ?_
    refine VL_val rfl rfl rfl (yd_len rfl Try.underlying72) ?_
    refine VL_val rfl rfl rfl (yd_sub rfl rfl (((postL G).length : Int) - 1) (by rw [wi64 (by omega) (by omega)])) ?_
    refine VL_val rfl rfl rfl (yd_neq rfl rfl) ?_
    refine VL_nil ?_
    refine VE_then ?_
    refine VC_cond_f' rfl (decide_eq_false (by rw [Nat.zero_add] at *; omega)) ?_
    refine VC_skip ?_
    refine VE_then ?_
    refine VC_seq ?_
    refine VC_block ?_
    refine VC_loop3 [0, 2, 3, 4, 5] [_, _, _, _, _] rfl (fun (j : Nat) (D : Nat → Option Nat) (L : List (Option Nat)) => []) (fun (j : Nat) (D : Nat → Option Nat) (L : List (Option Nat)) w => j ≤ 13 ∧ CI G D ∧ TI G D j (postL G).length ∧ (1 ≤ j → ∀ x, x ∈ postL G → D x ≠ none) ∧ LD G D L ∧ St w0 M0 [blk bi 82 (L.map (pP f)), row (.slice (some ⟨bo, 0, none⟩) (postL G).length co) 82 1 (postL G).length (ordV f (postL G)), blk bn 3 (pn.map (Value.int .i64))] w) (fun (j : Nat) (D : Nat → Option Nat) (L : List (Option Nat)) => 14 - j) 0 D0 _ trivial (⟨Nat.zero_le _, ci_init hg, ti_init hg, fun h => absurd h (by omega), ld_init G hg, hS⟩) ?_
    clear hS; rintro j D L w ⟨hj, hC, hT, hall, hL, hS⟩
    refine VC_block ?_
    refine VC_seq ?_
    refine VC_region ?_
    refine VL_val rfl rfl rfl (yd_assign rfl) ?_
    refine VL_nil ?_
    refine VE_then ?_
    refine VC_seq ?_
    refine VC_seq ?_
    refine VC_region ?_
    refine VL_val rfl rfl rfl (yd_move rfl) ?_
    refine VL_val rfl rfl rfl (yd_len rfl Try.underlying72) ?_
    refine VL_val rfl rfl rfl (yd_sub rfl rfl ((((postL G).length - 1 : Nat) : Int) - 1) (by rw [wi64 (by omega) (by omega)]; omega)) ?_
    refine VL_val rfl rfl rfl (yd_assign rfl) ?_
    refine VL_nil ?_
    refine VE_then ?_
    refine VC_block ?_
    have hz0 : ∀ x, x ∈ postL G → (postL G).length - 1 ≤ ps G x → x = 0 := fun x hx h => ps_inj hx (zero_mem hg) (by have := ps_lt hx; omega)
    refine VC_loop5 [0, 2, 3, 4, 5, 75, 76, 77] [_, _, _, _, _, _, _, _] rfl (fun (i : Int) (m : Nat) (D : Nat → Option Nat) (L : List (Option Nat)) (ch : Bool) => [(9, .int .i64 i), (8, .bool ch)]) (fun (i : Int) (m : Nat) (D : Nat → Option Nat) (L : List (Option Nat)) (ch : Bool) w => i = (m : Int) - 1 ∧ m + 1 ≤ (postL G).length ∧ CI G D ∧ TI G D j m ∧ (1 ≤ j → ∀ x, x ∈ postL G → D x ≠ none) ∧ (∀ x, x ∈ postL G → m ≤ ps G x → D x ≠ none) ∧ (ch = true → j < 13) ∧ (ch = false → ∀ x, x ∈ postL G → m ≤ ps G x → x ≠ 0 → ∃ d, D x = some d ∧ StepOK G D x d) ∧ LD G D L ∧ St w0 M0 [blk bi 82 (L.map (pP f)), row (.slice (some ⟨bo, 0, none⟩) (postL G).length co) 82 1 (postL G).length (ordV f (postL G)), blk bn 3 (pn.map (Value.int .i64))] w) (fun (i : Int) (m : Nat) (D : Nat → Option Nat) (L : List (Option Nat)) (ch : Bool) => m) _ ((postL G).length - 1) D L false ⟨rfl, rfl, trivial⟩ (⟨rfl, by omega, hC, ti_start hg hC hT, hall, fun x hx h => by rw [hz0 x hx h, hC.zero]; simp, fun h => (by cases h), fun _ x hx h h0 => absurd (hz0 x hx h) h0, hL, hS⟩) ?_
    clear hS hL hC hT hall; rintro i m D L ch w ⟨him, hm, hC, hT, hall, hv, hch, hfix, hL, hS⟩
    refine VC_seq ?_
    refine VC_seq ?_
    refine VC_region ?_
    refine VL_val rfl rfl rfl (yd_move rfl) ?_
    refine VL_val rfl rfl rfl (yd_geq rfl rfl) ?_
    refine VL_nil ?_
    refine VE_then ?_
    refine VC_cond rfl (fun h79 => ?_) (fun h79 => ?_)
    · replace h79 := of_decide_eq_true h79
      obtain ⟨q, rfl⟩ : ∃ q, m = q + 1 := ⟨m - 1, by omega⟩
      obtain rfl : i = ((q : Nat) : Int) := by omega
      obtain ⟨b, hb⟩ : ∃ b, b = (postL G)[q]! := ⟨_, rfl⟩
      have hbq : ps G b = q := by rw [hb]; exact ps_of hg (by omega)
      have hbm : b ∈ postL G := by rw [hb, getElem!_pos (postL G) q (by omega)]; exact List.getElem_mem _
      have hbl := post_lt hg hbm
      have hb0 : b ≠ 0 := fun e => by subst e; omega
      obtain ⟨pa, pc, pb, hpre, hpa, hpcs, _⟩ := hA.pre b hbl
      have hQl := hP.len b
      refine VC_skip ?_
      refine VE_then ?_
      refine VC_seq ?_
      refine VC_block ?_
      refine VC_seq ?_
      refine VC_region ?_
      refine VL_val rfl rfl rfl (yd_move rfl) ?_
      refine VL_val rfl rfl rfl (yd_move rfl) ?_
      refine VL_val rfl rfl rfl (yd_index0 rfl rfl Try.underlying72 T.sz82 (by omega)) ?_
      refine VL_val rfl rfl rfl (yd_load rfl T.one82 (show _ = some (ptr (f.bb b)) by rw [hb]; exact ord_cell (hS.get 1 rfl) (by omega))) ?_
      refine VL_val rfl rfl rfl (yd_assign rfl) ?_
      refine VL_nil ?_
      refine VE_then ?_
      refine VC_seq ?_
      refine VC_region ?_
      refine VL_val rfl rfl rfl (yd_assign rfl) ?_
      refine VL_nil ?_
      refine VE_then ?_
      refine VC_seq ?_
      refine VC_seq ?_
      refine VC_region ?_
      refine VL_val rfl rfl rfl (yd_move rfl) ?_
      refine VL_val rfl rfl rfl (yd_nilc rfl) ?_
      refine VL_val rfl rfl rfl (yd_field rfl T.fld93_2) ?_
      refine VL_val rfl rfl rfl (yd_load rfl T.one91 (hS.cell0 hpre)) ?_
      refine VL_val rfl rfl rfl (yd_len rfl Try.underlying91) ?_
      refine VL_val rfl rfl rfl (yd_move rfl) ?_
      refine VL_nil ?_
      refine VE_then ?_
      refine VC_block ?_
      refine VC_loop2 [0, 2, 3, 4, 5, 8, 9, 10, 75, 76, 77, 78, 79, 82, 83, 84, 85, 86, 87, 88, 89, 90] [_, _, _, _, _, _, _, _, _, _, _, _, _, _, _, _, _, _, _, _, _, _] rfl (fun (k : Nat) (dc : Option Nat) => [(91, .int .i64 ((k : Nat) : Int)), (11, .pointer (pA f dc))]) (fun (k : Nat) (dc : Option Nat) w => k ≤ (f.Q b).length ∧ FoldOK D ((f.Q b).take k) dc ∧ St w0 M0 [blk bi 82 (L.map (pP f)), row (.slice (some ⟨bo, 0, none⟩) (postL G).length co) 82 1 (postL G).length (ordV f (postL G)), blk bn 3 (pn.map (Value.int .i64))] w) (fun (k : Nat) (dc : Option Nat) => (f.Q b).length - k) 0 none ⟨rfl, rfl, trivial⟩ (⟨Nat.zero_le _, fold_nil, hS⟩) ?_
      clear hS; rintro k dc w ⟨hk, hfold, hS⟩
      have hA1 := funcAt (hFk hS)
      refine VC_seq ?_
      refine VC_region ?_
      refine VL_val rfl rfl rfl (yd_lss rfl rfl) ?_
      refine VL_nil ?_
      refine VE_then ?_
      refine VC_seq ?_
      refine VC_cond rfl (fun h92 => ?_) (fun h92 => ?_)
      · replace h92 := of_decide_eq_true h92
        refine VC_skip ?_
        refine VE_then ?_
        refine VC_seq ?_
        refine VC_block ?_
        refine VC_seq ?_
        refine VC_region ?_
        obtain rfl := hpa (by omega)
        have hpl1 := hP.lt (t := b) (j := k) (by omega)
        obtain ⟨p, hp⟩ : ∃ p, p = (f.Q b)[k]! := ⟨_, rfl⟩
        rw [← hp] at hpl1
        have htk : (f.Q b).take (k + 1) = (f.Q b).take k ++ [p] := by rw [hp]; exact take_snoc (by omega)
        refine VL_val rfl rfl rfl (yd_index0 rfl rfl Try.underlying91 T.sz96 (by omega)) ?_
        refine VL_val rfl rfl rfl (yd_loadn [ptr (f.bb p)] rfl T.agg96 (one_cell (by rw [hp]; exact hS.cell0 (hpcs k (by omega))))) ?_
        refine VL_alloc rfl rfl rfl rfl T.e96 hS ?_
        clear hS; intro b13 w hS
        refine VL_storeN (cs := [ptr (f.bb p)]) rfl rfl rfl rfl rfl T.agg96 (by intro u hu; cases List.mem_singleton.1 hu; rfl) hS 3 rfl (by simp [Value.cells]) ?_
        clear hS; intro w hS
        refine VL_nil ?_
        refine VE_then ?_
        refine VC_seq ?_
        refine VC_region ?_
        refine VL_val rfl rfl rfl (yd_field rfl T.fld96_0) ?_
        refine VL_val rfl rfl rfl (yd_load rfl T.one82 (blk_cell (hS.get 3 rfl) rfl)) ?_
        refine VL_val rfl rfl rfl (yd_assign rfl) ?_
        refine VL_nil ?_
        have hS := hS.sub (η' := _) (List.take_sublist 3 _)
        have hA1 := funcAt (hFk hS)
        refine VE_then ?_
        refine VC_seq ?_
        refine VC_seq ?_
        refine VC_region ?_
        refine VL_val rfl rfl rfl (yd_move rfl) ?_
        refine VL_val rfl rfl rfl (yd_move rfl) ?_
        refine VL_val rfl rfl rfl (yd_nilc rfl) ?_
        refine VL_val rfl rfl rfl (yd_field rfl T.fld93_0) ?_
        refine VL_val rfl rfl rfl (yd_load rfl T.one90 (hS.cell0 (hA.id p hpl1))) ?_
        refine VL_val rfl rfl rfl (yd_index0 rfl rfl Try.underlying72 T.sz82 (by omega)) ?_
        refine VL_val rfl rfl rfl (yd_load rfl T.one82 (ld_cell (hS.get 0 rfl) hL hpl1)) ?_
        refine VL_val rfl rfl rfl (yd_eqlp rfl rfl Try.underlying82 T.sz93 (by decide) (isC_pA hA1 (fun i h => hC.lt2 hg h)) isC_none) ?_
        refine VL_nil ?_
        refine VE_then ?_
        refine VC_cond rfl (fun h104 => ?_) (fun h104 => ?_)
        · replace h104 := of_decide_eq_true h104
          have hDp := pA_none h104
          have hn1 := hfold.skip hDp
          rw [← htk] at hn1
          refine VC_exit ?_
          refine VE_then_exit (VE_block_exit ?_)
          refine VE_then ?_
          refine VC_region ?_
          refine VL_val rfl rfl rfl (yd_add rfl rfl ((k + 1 : Nat) : Int) (by rw [wi64 (by omega) (by omega)]; omega)) ?_
          refine VL_val rfl rfl rfl (yd_move rfl) ?_
          refine VL_nil ?_
          first
          | exact VE_round2 (k + 1) (some e) ⟨rfl, rfl, rfl, rfl, rfl, rfl, rfl, rfl, rfl, rfl, rfl, rfl, rfl, rfl, rfl, rfl, rfl, rfl, rfl, rfl, rfl, rfl, rfl, rfl, trivial⟩ ⟨by omega, hn3, hS⟩ (by omega)
          | exact VE_round2 (k + 1) (some p) ⟨rfl, rfl, rfl, rfl, rfl, rfl, rfl, rfl, rfl, rfl, rfl, rfl, rfl, rfl, rfl, rfl, rfl, rfl, rfl, rfl, rfl, rfl, rfl, rfl, trivial⟩ ⟨by omega, hn2, hS⟩ (by omega)
          | exact VE_round2 (k + 1) dc ⟨rfl, rfl, rfl, rfl, rfl, rfl, rfl, rfl, rfl, rfl, rfl, rfl, rfl, rfl, rfl, rfl, rfl, rfl, rfl, rfl, rfl, rfl, rfl, rfl, trivial⟩ ⟨by omega, hn1, hS⟩ (by omega)
        · replace h104 := of_decide_eq_false h104
          have hDp : D p ≠ none := fun e => h104 (by rw [e]; rfl)
          refine VC_skip ?_
          refine VE_then ?_
          refine VC_seq ?_
          refine VC_seq ?_
          refine VC_region ?_
          refine VL_val rfl rfl rfl (yd_move rfl) ?_
          refine VL_val rfl rfl rfl (yd_eqlp rfl rfl Try.underlying82 T.sz93 (by decide) (isC_pA hA1 (fun i h => by subst h; exact hC.lt' hg (hfold.dn hC))) isC_none) ?_
          refine VL_nil ?_
          refine VE_then ?_
          refine VC_cond rfl (fun h106 => ?_) (fun h106 => ?_)
          · replace h106 := of_decide_eq_true h106
            obtain rfl := pA_none h106
            have hn2 := hfold.first hDp
            rw [← htk] at hn2
            refine VC_seq ?_
            refine VC_region ?_
            refine VL_val rfl rfl rfl (yd_move rfl) ?_
            refine VL_val rfl rfl rfl (yd_assign rfl) ?_
            refine VL_nil ?_
            refine VE_then ?_
            refine VC_exit ?_
            refine VE_then_exit (VE_block_exit ?_)
            refine VE_then ?_
            refine VC_region ?_
            refine VL_val rfl rfl rfl (yd_add rfl rfl ((k + 1 : Nat) : Int) (by rw [wi64 (by omega) (by omega)]; omega)) ?_
            refine VL_val rfl rfl rfl (yd_move rfl) ?_
            refine VL_nil ?_
            first
            | exact VE_round2 (k + 1) (some e) ⟨rfl, rfl, rfl, rfl, rfl, rfl, rfl, rfl, rfl, rfl, rfl, rfl, rfl, rfl, rfl, rfl, rfl, rfl, rfl, rfl, rfl, rfl, rfl, rfl, trivial⟩ ⟨by omega, hn3, hS⟩ (by omega)
            | exact VE_round2 (k + 1) (some p) ⟨rfl, rfl, rfl, rfl, rfl, rfl, rfl, rfl, rfl, rfl, rfl, rfl, rfl, rfl, rfl, rfl, rfl, rfl, rfl, rfl, rfl, rfl, rfl, rfl, trivial⟩ ⟨by omega, hn2, hS⟩ (by omega)
            | exact VE_round2 (k + 1) dc ⟨rfl, rfl, rfl, rfl, rfl, rfl, rfl, rfl, rfl, rfl, rfl, rfl, rfl, rfl, rfl, rfl, rfl, rfl, rfl, rfl, rfl, rfl, rfl, rfl, trivial⟩ ⟨by omega, hn1, hS⟩ (by omega)
          · replace h106 := of_decide_eq_false h106
            obtain ⟨d, rfl⟩ : ∃ d, dc = some d := Option.ne_none_iff_exists'.1 (fun e => h106 (by rw [e]; rfl))
            have hdn := hfold.dn hC
            refine VC_skip ?_
            refine VE_then ?_
            refine VC_region ?_
            refine VL_val rfl rfl rfl (yd_move rfl) ?_
            refine VL_val rfl rfl rfl (yd_move rfl) ?_
            refine VL_val rfl rfl rfl (yd_move rfl) ?_
            refine VL_val rfl rfl rfl (yd_move rfl) ?_
            refine VL_call rfl rfl rfl rfl T.call61 rfl (intersect_ok (b := d) (c := p) (hFk hS) hg hC (hS.get 2 rfl) hpn (hS.get 0 rfl) hL hdn hDp) ?_
            rintro _ w ⟨e, hnca, rfl, hR⟩
            have hS := (hS.call0 hR).sub (η' := _) (List.take_sublist 3 _)
            have hn3 := hfold.meet hDp hnca
            rw [← htk] at hn3
            refine VL_val rfl rfl rfl (yd_assign rfl) ?_
            refine VL_nil ?_
            refine VE_block_normal ?_
            refine VE_then ?_
            refine VC_region ?_
            refine VL_val rfl rfl rfl (yd_add rfl rfl ((k + 1 : Nat) : Int) (by rw [wi64 (by omega) (by omega)]; omega)) ?_
            refine VL_val rfl rfl rfl (yd_move rfl) ?_
            refine VL_nil ?_
            first
            | exact VE_round2 (k + 1) (some e) ⟨rfl, rfl, rfl, rfl, rfl, rfl, rfl, rfl, rfl, rfl, rfl, rfl, rfl, rfl, rfl, rfl, rfl, rfl, rfl, rfl, rfl, rfl, rfl, rfl, trivial⟩ ⟨by omega, hn3, hS⟩ (by omega)
            | exact VE_round2 (k + 1) (some p) ⟨rfl, rfl, rfl, rfl, rfl, rfl, rfl, rfl, rfl, rfl, rfl, rfl, rfl, rfl, rfl, rfl, rfl, rfl, rfl, rfl, rfl, rfl, rfl, rfl, trivial⟩ ⟨by omega, hn2, hS⟩ (by omega)
            | exact VE_round2 (k + 1) dc ⟨rfl, rfl, rfl, rfl, rfl, rfl, rfl, rfl, rfl, rfl, rfl, rfl, rfl, rfl, rfl, rfl, rfl, rfl, rfl, rfl, rfl, rfl, rfl, rfl, trivial⟩ ⟨by omega, hn1, hS⟩ (by omega)
      · replace h92 := Int.not_lt.1 (of_decide_eq_false h92)
        refine VC_exit ?_
        refine VE_then_exit (VE_then_exit (VE_block_exit ?_))
        refine VE_then ?_
        refine VC_seq ?_
        refine VC_region ?_
        obtain rfl : k = (f.Q b).length := by omega
        rw [List.take_length] at hfold
        obtain ⟨d, rfl, hst⟩ := stepOK hg hC hbm hb0 (hP.mem b) (fun x hx h => hv x hx (by omega)) hfold
        have hdl := hC.lt' hg hst.dn
        have hT' := TI.step hC hst (fun x hx h => hv x hx (by omega)) hall hg (by rw [hbq]; exact hT)
        rw [hbq] at hT'
        refine VL_val rfl rfl rfl (yd_move rfl) ?_
        refine VL_val rfl rfl rfl (yd_move rfl) ?_
        refine VL_val rfl rfl rfl (yd_move rfl) ?_
        refine VL_val rfl rfl rfl (yd_nilc rfl) ?_
        refine VL_val rfl rfl rfl (yd_field rfl T.fld93_0) ?_
        refine VL_val rfl rfl rfl (yd_load rfl T.one90 (hS.cell0 (hA.id b hbl))) ?_
        refine VL_val rfl rfl rfl (yd_index0 rfl rfl Try.underlying72 T.sz82 (by omega)) ?_
        refine VL_val rfl rfl rfl (yd_load rfl T.one82 (ld_cell (hS.get 0 rfl) hL hbl)) ?_
        refine VL_val rfl rfl rfl (yd_neqp rfl rfl Try.underlying82 T.sz93 (by decide) (isC_pA hA1 (fun i h => by cases h; exact hdl)) (isC_pA hA1 (fun i h => hC.lt2 hg h))) ?_
        refine VL_nil ?_
        refine VE_then ?_
        refine VC_cond rfl (fun h122 => ?_) (fun h122 => ?_)
        · replace h122 := of_decide_eq_true h122
          have hne : D b ≠ some d := fun e => h122 (by rw [e])
          refine VC_seq ?_
          refine VC_region ?_
          refine VL_val rfl rfl rfl (yd_move rfl) ?_
          refine VL_val rfl rfl rfl (yd_move rfl) ?_
          refine VL_val rfl rfl rfl (yd_nilc rfl) ?_
          refine VL_val rfl rfl rfl (yd_field rfl T.fld93_0) ?_
          refine VL_val rfl rfl rfl (yd_load rfl T.one90 (hS.cell0 (hA.id b hbl))) ?_
          refine VL_val rfl rfl rfl (yd_move rfl) ?_
          refine VL_val rfl rfl rfl (yd_index0 rfl rfl Try.underlying72 T.sz82 (by omega)) ?_
          refine VL_storeM (f := pP f) (v := some d) rfl rfl rfl rfl rfl T.one82 rfl hS 0 rfl (by rw [hL.1]; omega) rfl ?_
          clear hS; intro w hS
          refine VL_nil ?_
          refine VE_then ?_
          refine VC_region ?_
          have hj12 : j < 13 := by
            by_cases h : j = 13
            · subst h
              obtain ⟨d0, hd0⟩ := Option.ne_none_iff_exists'.1 (hall (by omega) b hbm)
              exact absurd (by rw [hd0, hst.same hg hC hT (hall (by omega)) hd0]) hne
            · omega
          refine VL_val rfl rfl rfl (yd_assign rfl) ?_
          refine VL_nil ?_
          refine VE_block_normal ?_
          refine VE_then ?_
          refine VC_region ?_
          refine VL_val rfl rfl rfl (yd_move rfl) ?_
          refine VL_val rfl rfl rfl (yd_sub rfl rfl (((q : Nat) : Int) - 1) (by rw [wi64 (by omega) (by omega)])) ?_
          refine VL_val rfl rfl rfl (yd_assign rfl) ?_
          refine VL_nil ?_
          first
          | exact VE_round5 _ q (set1 D b d) (L.set (b + 1) (some d)) true ⟨rfl, rfl, rfl, rfl, rfl, rfl, rfl, rfl, rfl, rfl, trivial⟩ ⟨rfl, by omega, hC.step hg hst, hT', fun h x hx => set1_some (hall h x hx), fun x hx h => by (by_cases e : x = b; (subst e; rw [set1_same]; simp); exact set1_some (hv x hx (by have : ps G x ≠ ps G b := fun e' => e (ps_inj hx hbm e'); omega))), fun _ => hj12, fun h => (by cases h), hL.set hbl, hS⟩ (by omega)
          | exact VE_round5 _ q D L ch ⟨rfl, rfl, rfl, rfl, rfl, rfl, rfl, rfl, rfl, rfl, trivial⟩ ⟨rfl, by omega, hC, hT', hall, fun x hx h => by (by_cases e : x = b; (subst e; rw [hDb]; simp); exact hv x hx (by have : ps G x ≠ ps G b := fun e' => e (ps_inj hx hbm e'); omega)), hch, fun hc x hx h h0 => by (by_cases e : x = b; (subst e; exact ⟨d, hDb, hst⟩); exact hfix hc x hx (by have : ps G x ≠ ps G b := fun e' => e (ps_inj hx hbm e'); omega) h0), hL, hS⟩ (by omega)
        · replace h122 := Decidable.not_not.1 (of_decide_eq_false h122)
          have hDb : D b = some d := (pA_inj hA (fun i h => by cases h; exact hdl) (fun i h => hC.lt2 hg h) h122).symm
          rw [set1_id hDb] at hT'
          refine VC_skip ?_
          refine VE_block_normal ?_
          refine VE_then ?_
          refine VC_region ?_
          refine VL_val rfl rfl rfl (yd_move rfl) ?_
          refine VL_val rfl rfl rfl (yd_sub rfl rfl (((q : Nat) : Int) - 1) (by rw [wi64 (by omega) (by omega)])) ?_
          refine VL_val rfl rfl rfl (yd_assign rfl) ?_
          refine VL_nil ?_
          first
          | exact VE_round5 _ q (set1 D b d) (L.set (b + 1) (some d)) true ⟨rfl, rfl, rfl, rfl, rfl, rfl, rfl, rfl, rfl, rfl, trivial⟩ ⟨rfl, by omega, hC.step hg hst, hT', fun h x hx => set1_some (hall h x hx), fun x hx h => by (by_cases e : x = b; (subst e; rw [set1_same]; simp); exact set1_some (hv x hx (by have : ps G x ≠ ps G b := fun e' => e (ps_inj hx hbm e'); omega))), fun _ => hj12, fun h => (by cases h), hL.set hbl, hS⟩ (by omega)
          | exact VE_round5 _ q D L ch ⟨rfl, rfl, rfl, rfl, rfl, rfl, rfl, rfl, rfl, rfl, trivial⟩ ⟨rfl, by omega, hC, hT', hall, fun x hx h => by (by_cases e : x = b; (subst e; rw [hDb]; simp); exact hv x hx (by have : ps G x ≠ ps G b := fun e' => e (ps_inj hx hbm e'); omega)), hch, fun hc x hx h h0 => by (by_cases e : x = b; (subst e; exact ⟨d, hDb, hst⟩); exact hfix hc x hx (by have : ps G x ≠ ps G b := fun e' => e (ps_inj hx hbm e'); omega) h0), hL, hS⟩ (by omega)
    · replace h79 := Int.not_le.1 (of_decide_eq_false h79)
      obtain rfl : m = 0 := by omega
      refine VC_exit ?_
      refine VE_then_exit (VE_then_exit (VE_block_exit ?_))
      refine VE_then ?_
      refine VC_seq ?_
      refine VC_region ?_
      refine VL_val rfl rfl rfl (yd_move rfl) ?_
      refine VL_val rfl rfl rfl (yd_not rfl) ?_
      refine VL_nil ?_
      refine VE_then ?_
      refine VC_cond rfl (fun h131 => ?_) (fun h131 => ?_)
      · replace h131 := V.nt h131
        refine VC_exit ?_
        refine VE_block_past rfl (VE_then_exit (VE_block_exit ?_))
        refine VE_then ?_
        refine VC_seq ?_
        refine VC_region ?_
        have hid := idoms_of hg hC hL (fun x hx => hv x hx (Nat.zero_le _)) (fun x hx h0 => hfix h131 x hx (Nat.zero_le _) h0)
        refine VL_val rfl rfl rfl (yd_move rfl) ?_
        refine VL_val rfl rfl rfl (yd_move rfl) ?_
        refine VL_val rfl rfl rfl (yd_nilc rfl) ?_
        refine VL_val rfl rfl rfl (yd_field rfl T.fld89_0) ?_
        refine VL_val rfl rfl rfl (yd_load rfl T.one82 (hS.cell0 hA.entry)) ?_
        refine VL_val rfl rfl rfl (yd_nilc rfl) ?_
        refine VL_val rfl rfl rfl (yd_field rfl T.fld93_0) ?_
        refine VL_val rfl rfl rfl (yd_load rfl T.one90 (hS.cell0 (hA.id 0 hpos))) ?_
        refine VL_val rfl rfl rfl (yd_index0 rfl rfl Try.underlying72 T.sz82 (by omega)) ?_
        refine VL_storeM (f := pP f) (v := none) rfl rfl rfl rfl rfl T.one82 rfl hS 0 rfl (by rw [hL.1]; omega) rfl ?_
        clear hS; intro w hS
        refine VL_nil ?_
        refine VE_then ?_
        refine VC_seq ?_
        refine VC_region ?_
        refine VL_val rfl rfl rfl (yd_move rfl) ?_
        refine VL_val rfl rfl rfl (yd_assign rfl) ?_
        refine VL_nil ?_
        refine VE_then ?_
        refine VC_ret ?_
        refine VE_ret1D rfl rfl ?_
        intro tmps ht
        refine leaves_one T.call60 freeInt_ok ?_
        intro w1 hR
        have hS := hS.call0 hR
        refine leaves_nil1 rfl ht ?_
        exact ⟨bi, _, rfl, by rw [List.length_set, hL.1], hid, hS.sub (List.Sublist.cons_cons _ (List.nil_sublist _))⟩
      · replace h131 := V.nf h131
        refine VC_skip ?_
        refine VE_block_normal ?_
        exact VE_round3 (j + 1) D L ⟨rfl, rfl, rfl, rfl, rfl, trivial⟩ ⟨by have := hch h131; omega, hC, hT.next hC, fun _ x hx => hv x hx (Nat.zero_le _), hL, hS⟩ (by omega)

end Go.Proofs.Ytmoooaaiohplhac
