/- IsTree, TreeOf; the law on trees over given parents. -/
import Derived.Test.YtmoooaaiohplhaaWy
namespace Go.Proofs.Ytmoooaaiohplhaa
open Go Go.V
set_option linter.unusedVariables false
set_option maxRecDepth 100000

theorem T.agg49 : AggT Try.prog 49 5 := ⟨⟨_, Try.underlying49, rfl⟩, by kernel_rfl⟩
theorem T.fld49_0 : FieldT Try.prog 49 0 0 := FieldT.of (by kernel_rfl)
theorem T.fld49_3 : FieldT Try.prog 49 3 3 := FieldT.of (by kernel_rfl)
theorem T.fld49_4 : FieldT Try.prog 49 4 4 := FieldT.of (by kernel_rfl)
theorem T.call26 : CallT Try.prog 26 := CallT.of Try.func26 (by kernel_rfl) (by kernel_rfl)
theorem T.call28 : CallT Try.prog 28 := CallT.of Try.func28 (by kernel_rfl) (by kernel_rfl)
theorem T.call29 : CallT Try.prog 29 := CallT.of Try.func29 (by kernel_rfl) (by kernel_rfl)
theorem T.call30 : CallT Try.prog 30 := CallT.of Try.func30 (by kernel_rfl) (by kernel_rfl)
theorem T.call43 : CallT Try.prog 43 := CallT.of Try.func43 (by kernel_rfl) (by kernel_rfl)
theorem T.call44 : CallT Try.prog 44 := CallT.of Try.func44 (by kernel_rfl) (by kernel_rfl)
theorem T.call60 : CallT Try.prog 60 := CallT.of Try.func60 (by kernel_rfl) (by kernel_rfl)

open Go.PL
/-- The parents that numbers stand for. -/
def lpar (l : List Int) (n x : Nat) : Option Nat := if x < n ∧ 0 ≤ l[x]! then some l[x]!.toNat else none
/-- What IsTree tells. -/
structure IsTreeL (l : List Int) (n : Nat) : Prop where
  len : l.length = n
  root : l[0]! = -1
  all : ∀ x, x < n → (0 < x → 0 ≤ l[x]! ∧ l[x]! < (n : Int)) ∧ abvI l 0 n (x : Int) = true
section
variable {l : List Int} {n : Nat}
theorem lpar_some {x p : Nat} (h : lpar l n x = some p) : x < n ∧ l[x]! = ((p : Nat) : Int) := by
  unfold lpar at h
  split at h
  · rename_i hc; cases h; exact ⟨hc.1, by omega⟩
  · cases h
theorem IsTreeL.root' (h : IsTreeL l n) : lpar l n 0 = none := by
  unfold lpar; rw [if_neg (by rw [h.root]; omega)]
theorem IsTreeL.ex (h : IsTreeL l n) {x : Nat} (hx : x < n) (h0 : x ≠ 0) : ∃ p, lpar l n x = some p ∧ p < n ∧ l[x]! = ((p : Nat) : Int) := by
  have h1 := (h.all x hx).1 (by omega)
  exact ⟨l[x]!.toNat, by unfold lpar; rw [if_pos ⟨hx, h1.1⟩], by omega, by omega⟩
theorem IsTreeL.par (h : IsTreeL l n) : ParL l n (lpar l n) := by
  refine ⟨h.len, fun y hy => ?_⟩
  by_cases h0 : y = 0
  · subst h0; exact .inl ⟨h.root', by rw [h.root]; decide⟩
  · obtain ⟨p, h1, h2, h3⟩ := h.ex hy h0
    exact .inr ⟨p, h1, h2, h3⟩
theorem IsTreeL.get (h : IsTreeL l n) {x : Nat} (hx : x < n) : l[x]! = nO (lpar l n x) := by
  by_cases h0 : x = 0
  · subst h0; rw [h.root', h.root]; rfl
  · obtain ⟨p, h1, h2, h3⟩ := h.ex hx h0
    rw [h1, h3]; rfl
theorem IsTreeL.top (h : IsTreeL l n) {x : Nat} (hx : x < n) : Abv (lpar l n) 0 x := abvI_sound h.par n x hx (h.all x hx).2
theorem no_circle {P : Nat → Option Nat} (h0 : P 0 = none) {y : Nat} (h : Abv P 0 y) : ∀ p, P y = some p → ¬ Abv P y p := by
  induction h with
  | refl => intro p hp; rw [h0] at hp; cases hp
  | step e _ ih =>
    intro p hp ha
    rw [e] at hp; cases hp
    cases ha with
    | refl => exact ih _ e (.refl _)
    | step e2 h2 => exact ih _ e2 (Abv.trans (.step e (.refl _)) h2)
/-- How many other blocks are above y. -/
noncomputable def ark (P : Nat → Option Nat) (n y : Nat) : Nat := (List.range n).countP fun z => @decide (z ≠ y ∧ Abv P z y) (Classical.propDecidable _)
theorem ark_lt {P : Nat → Option Nat} {y : Nat} (hy : y < n) : ark P n y < n := by
  have h := countP_lt (p := fun z => @decide (z ≠ y ∧ Abv P z y) (Classical.propDecidable _)) (q := fun _ => true) (l := List.range n) (fun _ _ _ => rfl) ⟨y, by simpa using hy, rfl, by simp⟩
  rw [List.countP_true, List.length_range] at h
  exact h
theorem ark_par {P : Nat → Option Nat} {y p : Nat} (hc : ¬ Abv P y p) (hp : P y = some p) (hpn : p < n) : ark P n p < ark P n y := by
  unfold ark
  refine countP_lt (fun z _ hz => ?_) ⟨p, by simpa using hpn, ?_, by simp⟩
  · have hz := @of_decide_eq_true _ (Classical.propDecidable _) hz
    exact @decide_eq_true _ (Classical.propDecidable _) ⟨fun e => hc (by rw [← e]; exact hz.2), .step hp hz.2⟩
  · exact @decide_eq_true _ (Classical.propDecidable _) ⟨fun e => hc (by rw [← e]; exact .refl _), .step hp (.refl _)⟩
theorem IsTreeL.rank (h : IsTreeL l n) (y p : Nat) (e : lpar l n y = some p) : ark (lpar l n) n p < ark (lpar l n) n y := by
  have hy := (lpar_some e).1
  have h0 : y ≠ 0 := fun h0 => by subst h0; rw [h.root'] at e; cases e
  obtain ⟨q, h1, h2, _⟩ := h.ex hy h0
  rw [e] at h1; cases h1
  exact ark_par (no_circle h.root' (h.top hy) p e) e h2
theorem IsTreeL.tree {G : Graph} (hg : Gd G) (hw : ∀ y, y < G.length → Rc G 0 y) (h : IsTreeL l G.length) : TreeP G (lpar l G.length) (ark (lpar l G.length) G.length) := by
  have hm := (postL_ok hg).mem
  refine ⟨h.root', fun y p e => ?_, fun y hy h0 e => ?_, h.rank, fun y hy => Nat.lt_of_lt_of_le (ark_lt ((postL_ok hg).lt y hy)) hg.le⟩
  · have hy := (lpar_some e).1
    have h0 : y ≠ 0 := fun h0 => by subst h0; rw [h.root'] at e; cases e
    obtain ⟨q, h1, h2, _⟩ := h.ex hy h0
    rw [e] at h1; cases h1
    exact ⟨(hm y).2 (hw y hy), (hm p).2 (hw p h2)⟩
  · obtain ⟨q, h1, _⟩ := h.ex ((postL_ok hg).lt y hy) h0
    rw [e] at h1; cases h1
end

theorem isTree_ok {w0 : World} {v pv : Value} {G : Graph} {l : List Int} (hG : GraphAt w0 v G) (hg : Gd G) (hl : IntsAt w0 pv l) : Calls Try.prog 26 #[v, pv] w0 (Ret fun u w' => ∃ b, u = .bool b ∧ w0 = w' ∧ (b = true → IsTreeL l G.length)) := by
  obtain ⟨ga, gc, gb, go, rfl, hga, hrow⟩ := hG
  have hl0 := hl
  obtain ⟨la, lc, lb, lo, rfl, hla, hcl⟩ := hl
  have hle := hg.le
  have hpos := hg.pos
  refine V_enter (N := 44) Try.func26 rfl Try.ntmps26 rfl ?_
  refine VC.sub (τ := [(0, _), (1, _)]) ⟨rfl, rfl, trivial⟩ ?_
  refine VC_seq ?_
  refine VC_region ?_
  refine VL_val rfl rfl rfl (yd_assign rfl) ?_
  refine VL_nil ?_
  refine VE_then ?_
  refine VC_seq ?_
  refine VC_seq ?_
  refine VC_region ?_
  refine VL_val rfl rfl rfl (yd_move rfl) ?_
  refine VL_val rfl rfl rfl (yd_len rfl Try.underlying24) ?_
  refine VL_val rfl rfl rfl (yd_move rfl) ?_
  refine VL_val rfl rfl rfl (yd_len rfl Try.underlying22) ?_
  refine VL_val rfl rfl rfl (yd_neq rfl rfl) ?_
  refine VL_val rfl rfl rfl (yd_move rfl) ?_
  refine VL_split 12 rfl (fun h12 => ?_) (fun h12 => ?_)
  · replace h12 := of_decide_eq_true h12
    refine VL_no rfl rfl rfl rfl rfl rfl rfl ?_
    refine VL_no rfl rfl rfl rfl rfl rfl rfl ?_
    refine VL_no rfl rfl rfl rfl rfl rfl rfl ?_
    refine VL_no rfl rfl rfl rfl rfl rfl rfl ?_
    refine VL_val rfl rfl rfl (yd_pick_t rfl rfl) ?_
    refine VL_nil ?_
    refine VE_then ?_
    refine VC_cond_t rfl ?_
    refine VC_seq ?_
    refine VC_region ?_
    refine VL_val rfl rfl rfl (yd_assign rfl) ?_
    refine VL_nil ?_
    refine VE_then ?_
    refine VC_ret ?_
    refine VE_then_ret (?_)
    refine VE_ret1 (rfl) rfl ?_
    exact ⟨_, rfl, rfl, fun h => by cases h⟩
  · replace h12 := Decidable.not_not.1 (of_decide_eq_false h12)
    have hll : l.length = G.length := by omega
    obtain rfl := hla (by omega)
    refine VL_yes rfl rfl rfl rfl ?_
    refine VL_val rfl rfl rfl (yd_move rfl) ?_
    refine VL_yes rfl rfl rfl rfl ?_
    refine VL_val rfl rfl rfl (yd_index1 (i := 0) rfl rfl Try.underlying24 T.sz3 (by omega)) ?_
    refine VL_yes rfl rfl rfl rfl ?_
    refine VL_val rfl rfl rfl (yd_load rfl T.one3 (hcl 0 (by omega))) ?_
    refine VL_yes rfl rfl rfl rfl ?_
    refine VL_val rfl rfl rfl (yd_neq rfl rfl) ?_
    refine VL_val rfl rfl rfl (yd_pick_f rfl rfl) ?_
    refine VL_nil ?_
    refine VE_then ?_
    refine VC_cond rfl (fun h17 => ?_) (fun h17 => ?_)
    · replace h17 := of_decide_eq_true h17
      refine VC_seq ?_
      refine VC_region ?_
      refine VL_val rfl rfl rfl (yd_assign rfl) ?_
      refine VL_nil ?_
      refine VE_then ?_
      refine VC_ret ?_
      refine VE_then_ret (?_)
      refine VE_ret1 (rfl) rfl ?_
      exact ⟨_, rfl, rfl, fun h => by cases h⟩
    · replace h17 := Decidable.not_not.1 (of_decide_eq_false h17)
      refine VC_skip ?_
      refine VE_then ?_
      refine VC_seq ?_
      refine VC_seq ?_
      refine VC_region ?_
      refine VL_val rfl rfl rfl (yd_move rfl) ?_
      refine VL_val rfl rfl rfl (yd_len rfl Try.underlying24) ?_
      refine VL_val rfl rfl rfl (yd_move rfl) ?_
      refine VL_nil ?_
      refine VE_then ?_
      refine VC_block ?_
      refine VC_loop1 [0, 1, 18, 19] [_, _, _, _] rfl (fun k => [(20, .int .i64 ((k : Nat) : Int))]) (fun k w => k ≤ l.length ∧ (∀ x, x < k → (0 < x → 0 ≤ l[x]! ∧ l[x]! < (G.length : Int)) ∧ abvI l 0 G.length (x : Int) = true) ∧ w0 = w) (fun k => l.length - k) 0 ⟨rfl, trivial⟩ (⟨Nat.zero_le _, fun x h => absurd h (Nat.not_lt_zero _), rfl⟩) ?_
      rintro k w ⟨hk, hall, rfl⟩
      refine VC_seq ?_
      refine VC_region ?_
      refine VL_val rfl rfl rfl (yd_lss rfl rfl) ?_
      refine VL_nil ?_
      refine VE_then ?_
      refine VC_seq ?_
      refine VC_cond rfl (fun h21 => ?_) (fun h21 => ?_)
      · replace h21 := of_decide_eq_true h21
        refine VC_skip ?_
        refine VE_then ?_
        refine VC_seq ?_
        refine VC_block ?_
        refine VC_seq ?_
        refine VC_region ?_
        refine VL_val rfl rfl rfl (yd_move rfl) ?_
        refine VL_val rfl rfl rfl (yd_index1 rfl rfl Try.underlying24 T.sz3 (by omega)) ?_
        refine VL_val rfl rfl rfl (yd_load rfl T.one3 (hcl k (by omega))) ?_
        refine VL_val rfl rfl rfl (yd_assign rfl) ?_
        refine VL_val rfl rfl rfl (yd_assign rfl) ?_
        refine VL_nil ?_
        refine VE_then ?_
        refine VC_seq ?_
        refine VC_region ?_
        refine VL_val rfl rfl rfl (yd_move rfl) ?_
        refine VL_val rfl rfl rfl (yd_gtr rfl rfl) ?_
        refine VL_val rfl rfl rfl (yd_move rfl) ?_
        refine VL_split 27 rfl (fun h27 => ?_) (fun h27 => ?_)
        · replace h27 := of_decide_eq_true h27
          refine VL_yes rfl rfl rfl rfl ?_
          refine VL_val rfl rfl rfl (yd_move rfl) ?_
          refine VL_yes rfl rfl rfl rfl ?_
          refine VL_val rfl rfl rfl (yd_lss rfl rfl) ?_
          refine VL_yes rfl rfl rfl rfl ?_
          refine VL_val rfl rfl rfl (yd_move rfl) ?_
          refine VL_split 30 rfl (fun h30 => ?_) (fun h30 => ?_)
          · replace h30 := of_decide_eq_true h30
            refine VL_no rfl rfl rfl rfl rfl rfl rfl ?_
            refine VL_no rfl rfl rfl rfl rfl rfl rfl ?_
            refine VL_no rfl rfl rfl rfl rfl rfl rfl ?_
            refine VL_no rfl rfl rfl rfl rfl rfl rfl ?_
            refine VL_yes rfl rfl rfl rfl ?_
            refine VL_val rfl rfl rfl (yd_pick_t rfl rfl) ?_
            refine VL_val rfl rfl rfl (yd_pick_t rfl rfl) ?_
            refine VL_val rfl rfl rfl (yd_move rfl) ?_
            refine VL_no rfl rfl rfl rfl rfl rfl rfl ?_
            refine VL_no rfl rfl rfl rfl rfl rfl rfl ?_
            refine VL_no rfl rfl rfl rfl rfl rfl rfl ?_
            refine VL_no rfl rfl rfl rfl rfl rfl rfl ?_
            refine VL_val rfl rfl rfl (yd_pick_t rfl rfl) ?_
            refine VL_nil ?_
            refine VE_then ?_
            refine VC_cond_t rfl ?_
            refine VC_seq ?_
            refine VC_region ?_
            refine VL_val rfl rfl rfl (yd_assign rfl) ?_
            refine VL_nil ?_
            refine VE_then ?_
            refine VC_ret ?_
            refine VE_block_ret (VE_then_ret (VE_then_ret (VE_block_ret (VE_then_ret (?_)))))
            refine VE_ret1 (rfl) rfl ?_
            exact ⟨_, rfl, rfl, fun h => by cases h⟩
          · replace h30 := Int.not_lt.1 (of_decide_eq_false h30)
            refine VL_yes rfl rfl rfl rfl ?_
            refine VL_val rfl rfl rfl (yd_move rfl) ?_
            refine VL_yes rfl rfl rfl rfl ?_
            refine VL_val rfl rfl rfl (yd_move rfl) ?_
            refine VL_yes rfl rfl rfl rfl ?_
            refine VL_val rfl rfl rfl (yd_len rfl Try.underlying22) ?_
            refine VL_yes rfl rfl rfl rfl ?_
            refine VL_val rfl rfl rfl (yd_geq rfl rfl) ?_
            refine VL_yes rfl rfl rfl rfl ?_
            refine VL_val rfl rfl rfl (yd_pick_f rfl rfl) ?_
            refine VL_val rfl rfl rfl (yd_pick_t rfl rfl) ?_
            refine VL_val rfl rfl rfl (yd_move rfl) ?_
            refine VL_split 37 rfl (fun h37 => ?_) (fun h37 => ?_)
            · replace h37 := of_decide_eq_true h37
              refine VL_no rfl rfl rfl rfl rfl rfl rfl ?_
              refine VL_no rfl rfl rfl rfl rfl rfl rfl ?_
              refine VL_no rfl rfl rfl rfl rfl rfl rfl ?_
              refine VL_no rfl rfl rfl rfl rfl rfl rfl ?_
              refine VL_val rfl rfl rfl (yd_pick_t rfl rfl) ?_
              refine VL_nil ?_
              refine VE_then ?_
              refine VC_cond_t rfl ?_
              refine VC_seq ?_
              refine VC_region ?_
              refine VL_val rfl rfl rfl (yd_assign rfl) ?_
              refine VL_nil ?_
              refine VE_then ?_
              refine VC_ret ?_
              refine VE_block_ret (VE_then_ret (VE_then_ret (VE_block_ret (VE_then_ret (?_)))))
              refine VE_ret1 (rfl) rfl ?_
              exact ⟨_, rfl, rfl, fun h => by cases h⟩
            · replace h37 := Int.not_le.1 (of_decide_eq_false h37)
              refine VL_yes rfl rfl rfl rfl ?_
              refine VL_val rfl rfl rfl (yd_move rfl) ?_
              refine VL_yes rfl rfl rfl rfl ?_
              refine VL_val rfl rfl rfl (yd_move rfl) ?_
              refine VL_yes rfl rfl rfl rfl ?_
              refine VL_call rfl rfl rfl rfl T.call31 rfl (above_ok hl0 (by omega)) ?_
              rintro _ _ ⟨rfl, rfl⟩
              refine VL_yes rfl rfl rfl rfl ?_
              refine VL_val rfl rfl rfl (yd_not rfl) ?_
              refine VL_val rfl rfl rfl (yd_pick_f rfl rfl) ?_
              refine VL_nil ?_
              refine VE_then ?_
              refine VC_cond rfl (fun h42 => ?_) (fun h42 => ?_)
              · replace h42 := V.nt h42
                refine VC_seq ?_
                refine VC_region ?_
                refine VL_val rfl rfl rfl (yd_assign rfl) ?_
                refine VL_nil ?_
                refine VE_then ?_
                refine VC_ret ?_
                refine VE_block_ret (VE_then_ret (VE_then_ret (VE_block_ret (VE_then_ret (?_)))))
                refine VE_ret1 (rfl) rfl ?_
                exact ⟨_, rfl, rfl, fun h => by cases h⟩
              · replace h42 := V.nf h42
                rw [hll] at h42
                refine VC_skip ?_
                refine VE_block_normal ?_
                refine VE_then ?_
                refine VC_region ?_
                refine VL_val rfl rfl rfl (yd_add rfl rfl ((k + 1 : Nat) : Int) (by rw [wi64 (by omega) (by omega)]; omega)) ?_
                refine VL_val rfl rfl rfl (yd_move rfl) ?_
                refine VL_nil ?_
                exact VE_round1 (k + 1) ⟨rfl, rfl, rfl, rfl, rfl, trivial⟩ ⟨by omega, all_succ hall ⟨fun h0 => ⟨by omega, by omega⟩, h42⟩, rfl⟩ (by omega)
        · replace h27 := Int.not_lt.1 (of_decide_eq_false h27)
          refine VL_no rfl rfl rfl rfl rfl rfl rfl ?_
          refine VL_no rfl rfl rfl rfl rfl rfl rfl ?_
          refine VL_no rfl rfl rfl rfl rfl rfl rfl ?_
          refine VL_noU rfl rfl rfl rfl rfl rfl ?_
          refine VL_noU rfl rfl rfl rfl rfl rfl ?_
          refine VL_noU rfl rfl rfl rfl rfl rfl ?_
          refine VL_noU rfl rfl rfl rfl rfl rfl ?_
          refine VL_no rfl rfl rfl rfl rfl rfl rfl ?_
          refine VL_val rfl rfl rfl (yd_pick_f rfl rfl) ?_
          refine VL_val rfl rfl rfl (yd_move rfl) ?_
          refine VL_yes rfl rfl rfl rfl ?_
          refine VL_val rfl rfl rfl (yd_move rfl) ?_
          refine VL_yes rfl rfl rfl rfl ?_
          refine VL_val rfl rfl rfl (yd_move rfl) ?_
          refine VL_yes rfl rfl rfl rfl ?_
          refine VL_call rfl rfl rfl rfl T.call31 rfl (above_ok hl0 (by omega)) ?_
          rintro _ _ ⟨rfl, rfl⟩
          refine VL_yes rfl rfl rfl rfl ?_
          refine VL_val rfl rfl rfl (yd_not rfl) ?_
          refine VL_val rfl rfl rfl (yd_pick_f rfl rfl) ?_
          refine VL_nil ?_
          refine VE_then ?_
          refine VC_cond rfl (fun h42 => ?_) (fun h42 => ?_)
          · replace h42 := V.nt h42
            refine VC_seq ?_
            refine VC_region ?_
            refine VL_val rfl rfl rfl (yd_assign rfl) ?_
            refine VL_nil ?_
            refine VE_then ?_
            refine VC_ret ?_
            refine VE_block_ret (VE_then_ret (VE_then_ret (VE_block_ret (VE_then_ret (?_)))))
            refine VE_ret1 (rfl) rfl ?_
            exact ⟨_, rfl, rfl, fun h => by cases h⟩
          · replace h42 := V.nf h42
            rw [hll] at h42
            refine VC_skip ?_
            refine VE_block_normal ?_
            refine VE_then ?_
            refine VC_region ?_
            refine VL_val rfl rfl rfl (yd_add rfl rfl ((k + 1 : Nat) : Int) (by rw [wi64 (by omega) (by omega)]; omega)) ?_
            refine VL_val rfl rfl rfl (yd_move rfl) ?_
            refine VL_nil ?_
            exact VE_round1 (k + 1) ⟨rfl, rfl, rfl, rfl, rfl, trivial⟩ ⟨by omega, all_succ hall ⟨fun h0 => ⟨by omega, by omega⟩, h42⟩, rfl⟩ (by omega)
      · replace h21 := Int.not_lt.1 (of_decide_eq_false h21)
        refine VC_exit ?_
        refine VE_then_exit (VE_then_exit (VE_block_exit ?_))
        refine VE_then ?_
        refine VC_seq ?_
        refine VC_region ?_
        refine VL_val rfl rfl rfl (yd_assign rfl) ?_
        refine VL_nil ?_
        refine VE_then ?_
        refine VC_ret ?_
        refine VE_ret1 (rfl) rfl ?_
        exact ⟨_, rfl, rfl, fun _ => ⟨hll, by omega, fun x hx => hall x (by omega)⟩⟩

theorem TreeOf_ok {w0 : World} {v pv : Value} {G : Graph} {l : List Int} (hG : GraphAt w0 v G) (hg : Gd G) (hl : IntsAt w0 pv l) (hw : ∀ y, y < G.length → Rc G 0 y) (hI : IsTreeL l G.length) : Calls Try.prog 44 #[v, pv] w0 (Ret fun u w' => ∃ t, TOK G (lpar l G.length) t ∧ St w0 M0 [row u 102 5 G.length (nodeC G.length t)] w') := by
  have hS := St.refl w0
  have hle := hg.le
  obtain ⟨la, lc, lb, lo, rfl, hla, hcl⟩ := hl
  have hll := hI.len
  have hpos := hg.pos
  obtain rfl := hla (by omega)
  have hT := hI.tree hg hw
  refine V_enter (N := 40) Try.func44 rfl Try.ntmps44 rfl ?_
  refine VC.sub (τ := [(0, _), (1, _)]) ⟨rfl, rfl, trivial⟩ ?_
  refine VC_seq ?_
  refine VC_region ?_
  refine VL_val rfl rfl rfl (yd_assign rfl) ?_
  refine VL_nil ?_
  refine VE_then ?_
  refine VC_seq ?_
  refine VC_region ?_
  refine VL_val rfl rfl rfl (yd_move rfl) ?_
  refine VL_call rfl rfl rfl rfl T.call52 rfl (newFunc_ok hG hg) ?_
  rintro _ w ⟨f, rfl, hP, hR⟩
  have hS := hS.call0 hR
  refine VL_val rfl rfl rfl (yd_assign rfl) ?_
  refine VL_nil ?_
  refine VE_then ?_
  refine VC_seq ?_
  refine VC_region ?_
  refine VL_val rfl rfl rfl (yd_move rfl) ?_
  refine VL_call rfl rfl rfl rfl T.call53 rfl (numBlocks_ok (hS.get 0 rfl) hg) ?_
  rintro _ _ ⟨rfl, rfl⟩
  refine VL_makeM (pP f) none rfl rfl rfl rfl rfl rfl Try.underlying71 T.e89 rfl rfl (by omega) (by omega) (by omega) hS ?_
  clear hS; intro b13 w hS
  refine VL_val rfl rfl rfl (yd_assign rfl) ?_
  refine VL_nil ?_
  refine VE_then ?_
  refine VC_seq ?_
  refine VC_seq ?_
  refine VC_region ?_
  refine VL_val rfl rfl rfl (yd_move rfl) ?_
  refine VL_val rfl rfl rfl (yd_len rfl Try.underlying24) ?_
  refine VL_val rfl rfl rfl (yd_move rfl) ?_
  refine VL_nil ?_
  refine VE_then ?_
  refine VC_block ?_
  refine VC_loop2 [4, 5, 6, 14, 15] [_, _, _, _, _] rfl (fun (k : Nat) (L : List (Option Nat)) => [(16, .int .i64 ((k : Nat) : Int))]) (fun (k : Nat) (L : List (Option Nat)) w => k ≤ G.length ∧ L.length = G.length + 1 ∧ (∀ i, i < k → L[i + 1]! = lpar l G.length i) ∧ (∀ i, k ≤ i → i < G.length → L[i + 1]! = none) ∧ St w0 M0 [funcR f G, blk b13 89 (L.map (pP f))] w) (fun (k : Nat) (L : List (Option Nat)) => G.length - k) 0 _ ⟨rfl, trivial⟩ (⟨Nat.zero_le _, List.length_replicate, fun i h => absurd h (Nat.not_lt_zero _), fun i _ hi => get!_replicate _ _ _ (by omega), hS⟩) ?_
  clear hS; rintro k L w ⟨hk, hLl, hL1, hL2, hS⟩
  refine VC_seq ?_
  refine VC_region ?_
  refine VL_val rfl rfl rfl (yd_lss rfl rfl) ?_
  refine VL_nil ?_
  refine VE_then ?_
  refine VC_seq ?_
  refine VC_cond rfl (fun h17 => ?_) (fun h17 => ?_)
  · replace h17 := of_decide_eq_true h17
    refine VC_skip ?_
    refine VE_then ?_
    refine VC_seq ?_
    refine VC_block ?_
    refine VC_seq ?_
    refine VC_region ?_
    have hkl : k < G.length := by omega
    obtain ⟨z, hz⟩ : ∃ z, z = l[k]! := ⟨_, rfl⟩
    refine VL_val rfl rfl rfl (yd_move rfl) ?_
    refine VL_val rfl rfl rfl (yd_index1 rfl rfl Try.underlying24 T.sz3 (by omega)) ?_
    refine VL_val rfl rfl rfl (yd_load rfl T.one3 (show _ = some (Value.int .i64 z) by rw [hz]; exact hS.cell0 (hcl k (by omega)))) ?_
    refine VL_val rfl rfl rfl (yd_assign rfl) ?_
    refine VL_val rfl rfl rfl (yd_assign rfl) ?_
    refine VL_nil ?_
    refine VE_then ?_
    refine VC_seq ?_
    refine VC_region ?_
    refine VL_val rfl rfl rfl (yd_move rfl) ?_
    refine VL_val rfl rfl rfl (yd_geq rfl rfl) ?_
    refine VL_nil ?_
    refine VE_then ?_
    refine VC_cond rfl (fun h22 => ?_) (fun h22 => ?_)
    · replace h22 := of_decide_eq_true h22
      have hk0 : k ≠ 0 := fun e => by subst e; have := hI.root; omega
      obtain ⟨p, hp1, hp2, hp3⟩ := hI.ex hkl hk0
      obtain rfl : z = ((p : Nat) : Int) := by rw [hz, hp3]
      refine VC_region ?_
      refine VL_val rfl rfl rfl (yd_move rfl) ?_
      refine VL_val rfl rfl rfl (yd_move rfl) ?_
      refine VL_val rfl rfl rfl (yd_add rfl rfl ((k + 1 : Nat) : Int) (by rw [wi64 (by omega) (by omega)]; omega)) ?_
      refine VL_val rfl rfl rfl (yd_move rfl) ?_
      refine VL_val rfl rfl rfl (yd_nilc rfl) ?_
      refine VL_val rfl rfl rfl (yd_field rfl T.fld96_1) ?_
      refine VL_val rfl rfl rfl (yd_load rfl T.one71 (funcAt (hS.get 0 rfl)).blocks) ?_
      refine VL_val rfl rfl rfl (yd_move rfl) ?_
      refine VL_val rfl rfl rfl (yd_index0 rfl rfl Try.underlying71 T.sz89 (by omega)) ?_
      refine VL_val rfl rfl rfl (yd_load rfl T.one89 ((funcAt (hS.get 0 rfl)).blk p hp2)) ?_
      refine VL_val rfl rfl rfl (yd_index0 rfl rfl Try.underlying71 T.sz89 (by omega)) ?_
      refine VL_storeM (f := pP f) (v := some p) rfl rfl rfl rfl rfl T.one89 rfl hS 1 rfl (by omega) rfl ?_
      clear hS; intro w hS
      refine VL_nil ?_
      refine VE_block_normal ?_
      refine VE_then ?_
      refine VC_region ?_
      refine VL_val rfl rfl rfl (yd_add rfl rfl ((k + 1 : Nat) : Int) (by rw [wi64 (by omega) (by omega)]; omega)) ?_
      refine VL_val rfl rfl rfl (yd_move rfl) ?_
      refine VL_nil ?_
      first
      | exact VE_round2 (k + 1) (L.set (k + 1) (some p)) ⟨rfl, rfl, rfl, rfl, rfl, rfl, trivial⟩ ⟨by omega, by simp [hLl], fun i hi => by (rw [get!_set _ _ _ _ (by omega)]; split; (rename_i e; rw [← hp1]; congr 1; omega); exact hL1 i (by omega)), fun i h1 h2 => by (rw [get!_set_ne _ _ (by omega)]; exact hL2 i (by omega) h2), hS⟩ (by omega)
      | exact VE_round2 (k + 1) L ⟨rfl, rfl, rfl, rfl, rfl, rfl, trivial⟩ ⟨by omega, hLl, all_succ hL1 (by rw [hL2 k (Nat.le_refl _) hkl, hpn]), fun i h1 h2 => hL2 i (by omega) h2, hS⟩ (by omega)
    · replace h22 := Int.not_le.1 (of_decide_eq_false h22)
      have hpn : lpar l G.length k = none := by unfold lpar; rw [if_neg (by omega)]
      refine VC_skip ?_
      refine VE_block_normal ?_
      refine VE_then ?_
      refine VC_region ?_
      refine VL_val rfl rfl rfl (yd_add rfl rfl ((k + 1 : Nat) : Int) (by rw [wi64 (by omega) (by omega)]; omega)) ?_
      refine VL_val rfl rfl rfl (yd_move rfl) ?_
      refine VL_nil ?_
      first
      | exact VE_round2 (k + 1) (L.set (k + 1) (some p)) ⟨rfl, rfl, rfl, rfl, rfl, rfl, trivial⟩ ⟨by omega, by simp [hLl], fun i hi => by (rw [get!_set _ _ _ _ (by omega)]; split; (rename_i e; rw [← hp1]; congr 1; omega); exact hL1 i (by omega)), fun i h1 h2 => by (rw [get!_set_ne _ _ (by omega)]; exact hL2 i (by omega) h2), hS⟩ (by omega)
      | exact VE_round2 (k + 1) L ⟨rfl, rfl, rfl, rfl, rfl, rfl, trivial⟩ ⟨by omega, hLl, all_succ hL1 (by rw [hL2 k (Nat.le_refl _) hkl, hpn]), fun i h1 h2 => hL2 i (by omega) h2, hS⟩ (by omega)
  · replace h17 := Int.not_lt.1 (of_decide_eq_false h17)
    refine VC_exit ?_
    refine VE_then_exit (VE_then_exit (VE_block_exit ?_))
    refine VE_then ?_
    refine VC_seq ?_
    refine VC_region ?_
    refine VL_val rfl rfl rfl (yd_move rfl) ?_
    refine VL_val rfl rfl rfl (yd_move rfl) ?_
    refine VL_val rfl rfl rfl (yd_move rfl) ?_
    refine VL_call rfl rfl rfl rfl T.call61 rfl (newSparseTree_ok (hS.get 0 rfl) hg (hS.get 1 rfl) hLl hT (fun x hx => hL1 x (by omega))) ?_
    rintro _ w ⟨tb, t, rfl, hok, hR2⟩
    have hS := hS.call0 hR2
    refine VL_call rfl rfl rfl rfl T.call60 rfl (nodes_ok (hS.get 0 rfl) hg (hS.get 2 rfl) hok.le (hok.lt hg hT)) ?_
    rintro u w hR3
    have hS := hS.call0 hR3
    refine VL_val rfl rfl rfl (yd_assign rfl) ?_
    refine VL_nil ?_
    refine VE_then ?_
    refine VC_ret ?_
    refine VE_ret1 (rfl) rfl ?_
    exact ⟨t, hok, hS.sub (List.Sublist.cons _ (List.Sublist.cons _ (List.Sublist.cons _ (List.Sublist.refl _))))⟩

theorem implTreeOf_ok {w0 : World} {v pv : Value} {G : Graph} {l : List Int} (hG : GraphAt w0 v G) (hg : Gd G) (hl : IntsAt w0 pv l) (hw : ∀ y, y < G.length → Rc G 0 y) (hI : IsTreeL l G.length) : Calls Try.prog 29 #[v, pv] w0 (Ret fun u w' => ∃ t, TOK G (lpar l G.length) t ∧ St w0 M0 [row u 49 5 G.length (nodeC G.length t)] w') := by
  have hS := St.refl w0
  have hle := hg.le
  refine V_enter (N := 9) Try.func29 rfl Try.ntmps29 rfl ?_
  refine VC.sub (τ := [(0, _), (1, _)]) ⟨rfl, rfl, trivial⟩ ?_
  refine VC_seq ?_
  refine VC_region ?_
  refine VL_val rfl rfl rfl (yd_assign rfl) ?_
  refine VL_nil ?_
  refine VE_then ?_
  refine VC_seq ?_
  refine VC_region ?_
  refine VL_val rfl rfl rfl (yd_move rfl) ?_
  refine VL_val rfl rfl rfl (yd_move rfl) ?_
  refine VL_call rfl rfl rfl rfl T.call44 rfl (TreeOf_ok hG hg hl hw hI) ?_
  rintro u4 w ⟨t, hok, hR⟩
  have hS := hS.call0 hR
  refine VL_call rfl rfl rfl rfl T.call43 rfl (implNodes_ok (hS.get 0 rfl) hg.pos (by omega)) ?_
  rintro u w hR
  have hS := hS.call0 hR
  refine VL_val rfl rfl rfl (yd_assign rfl) ?_
  refine VL_nil ?_
  refine VE_then ?_
  refine VC_ret ?_
  refine VE_ret1 (rfl) rfl ?_
  exact ⟨t, hok, hS.sub (List.Sublist.cons _ (List.Sublist.refl _))⟩

set_option maxHeartbeats 1000000 in
theorem fnTreeOf_calls {w0 : World} {v pv : Value} {G0 : List (List Int)} {l : List Int} (hR : RowsAt w0 v G0) (hl : IntsAt w0 pv l) : Calls Try.prog 7 #[v, pv] w0 (Ret fun u w' => u = .bool true ∧ RowKit.Below w0.heap.size w0 w') := by
  have hS := St.refl w0
  have hl0 := hl
  obtain ⟨la, lc, lb, lo, rfl, hla, hcl⟩ := hl
  refine V_enter (N := 92) Try.func7 rfl Try.ntmps7 rfl ?_
  refine VC.sub (τ := [(0, _), (1, _)]) ⟨rfl, rfl, trivial⟩ ?_
  refine VC_seq ?_
  refine VC_region ?_
  refine VL_val rfl rfl rfl (yd_assign rfl) ?_
  refine VL_nil ?_
  refine VE_then ?_
  refine VC_seq ?_
  refine VC_seq ?_
  refine VC_region ?_
  refine VL_val rfl rfl rfl (yd_move rfl) ?_
  refine VL_call rfl rfl rfl rfl T.call15 rfl (zzFits1_ok (hS.rows hR)) ?_
  rintro _ _ ⟨rfl, bz, rfl, hz⟩
  refine VL_val rfl rfl rfl (yd_not rfl) ?_
  refine VL_val rfl rfl rfl (yd_move rfl) ?_
  refine VL_split 13 rfl (fun h13 => ?_) (fun h13 => ?_)
  · replace h13 := V.nt h13
    refine VL_no rfl rfl rfl rfl rfl rfl rfl ?_
    refine VL_no rfl rfl rfl rfl rfl rfl rfl ?_
    refine VL_no rfl rfl rfl rfl rfl rfl rfl ?_
    refine VL_val rfl rfl rfl (yd_pick_t rfl rfl) ?_
    refine VL_nil ?_
    refine VE_then ?_
    refine VC_cond_t rfl ?_
    refine VC_seq ?_
    refine VC_region ?_
    refine VL_val rfl rfl rfl (yd_assign rfl) ?_
    refine VL_nil ?_
    refine VE_then ?_
    refine VC_ret ?_
    refine VE_then_ret (?_)
    refine VE_ret1 (rfl) rfl ?_
    exact ⟨rfl, hS.below⟩
  · replace h13 := V.nf h13
    have hzt := h13
    refine VL_yes rfl rfl rfl rfl ?_
    refine VL_val rfl rfl rfl (yd_move rfl) ?_
    refine VL_yes rfl rfl rfl rfl ?_
    refine VL_val rfl rfl rfl (yd_len rfl Try.underlying24) ?_
    refine VL_yes rfl rfl rfl rfl ?_
    refine VL_val rfl rfl rfl (yd_gtr rfl rfl) ?_
    refine VL_val rfl rfl rfl (yd_pick_f rfl rfl) ?_
    refine VL_nil ?_
    refine VE_then ?_
    refine VC_cond rfl (fun h17 => ?_) (fun h17 => ?_)
    · replace h17 := of_decide_eq_true h17
      refine VC_seq ?_
      refine VC_region ?_
      refine VL_val rfl rfl rfl (yd_assign rfl) ?_
      refine VL_nil ?_
      refine VE_then ?_
      refine VC_ret ?_
      refine VE_then_ret (?_)
      refine VE_ret1 (rfl) rfl ?_
      exact ⟨rfl, hS.below⟩
    · replace h17 := Int.not_lt.1 (of_decide_eq_false h17)
      refine VC_skip ?_
      refine VE_then ?_
      refine VC_seq ?_
      refine VC_seq ?_
      refine VC_region ?_
      refine VL_val rfl rfl rfl (yd_move rfl) ?_
      refine VL_call rfl rfl rfl rfl T.call16 rfl (good_ok (hS.rows hR) (hz hzt)) ?_
      rintro _ _ ⟨rfl, bg, rfl, hgi⟩
      refine VL_val rfl rfl rfl (yd_not rfl) ?_
      refine VL_val rfl rfl rfl (yd_move rfl) ?_
      refine VL_split 21 rfl (fun h21 => ?_) (fun h21 => ?_)
      · replace h21 := V.nt h21
        refine VL_no rfl rfl rfl rfl rfl rfl rfl ?_
        refine VL_no rfl rfl rfl rfl rfl rfl rfl ?_
        refine VL_no rfl rfl rfl rfl rfl rfl rfl ?_
        refine VL_no rfl rfl rfl rfl rfl rfl rfl ?_
        refine VL_val rfl rfl rfl (yd_pick_t rfl rfl) ?_
        refine VL_val rfl rfl rfl (yd_move rfl) ?_
        refine VL_no rfl rfl rfl rfl rfl rfl rfl ?_
        refine VL_no rfl rfl rfl rfl rfl rfl rfl ?_
        refine VL_no rfl rfl rfl rfl rfl rfl rfl ?_
        refine VL_no rfl rfl rfl rfl rfl rfl rfl ?_
        refine VL_val rfl rfl rfl (yd_pick_t rfl rfl) ?_
        refine VL_nil ?_
        refine VE_then ?_
        refine VC_cond_t rfl ?_
        refine VC_seq ?_
        refine VC_region ?_
        refine VL_val rfl rfl rfl (yd_assign rfl) ?_
        refine VL_nil ?_
        refine VE_then ?_
        refine VC_ret ?_
        refine VE_then_ret (?_)
        refine VE_ret1 (rfl) rfl ?_
        exact ⟨rfl, hS.below⟩
      · replace h21 := V.nf h21
        have hgt := h21
        obtain ⟨G, hG, hg, hGl⟩ := graph_of_rows hR (hgi.1 hgt)
        have hg12 : G.length ≤ 12 := by have := (hgi.1 hgt).2.1; omega
        have hle := hg.le
        have hpos := hg.pos
        have hG0 := hG
        obtain ⟨ga, gc, gb, go, rfl, hga, hrow⟩ := hG
        obtain rfl := hga (by omega)
        refine VL_yes rfl rfl rfl rfl ?_
        refine VL_val rfl rfl rfl (yd_move rfl) ?_
        refine VL_yes rfl rfl rfl rfl ?_
        refine VL_val rfl rfl rfl (yd_move rfl) ?_
        refine VL_yes rfl rfl rfl rfl ?_
        refine VL_call rfl rfl rfl rfl T.call26 rfl (isTree_ok (hS.graph hG0) hg (hS.ints hl0)) ?_
        rintro _ _ ⟨bt, rfl, rfl, hbt⟩
        refine VL_yes rfl rfl rfl rfl ?_
        refine VL_val rfl rfl rfl (yd_not rfl) ?_
        refine VL_val rfl rfl rfl (yd_pick_f rfl rfl) ?_
        refine VL_val rfl rfl rfl (yd_move rfl) ?_
        refine VL_split 27 rfl (fun h27 => ?_) (fun h27 => ?_)
        · replace h27 := V.nt h27
          refine VL_no rfl rfl rfl rfl rfl rfl rfl ?_
          refine VL_no rfl rfl rfl rfl rfl rfl rfl ?_
          refine VL_no rfl rfl rfl rfl rfl rfl rfl ?_
          refine VL_no rfl rfl rfl rfl rfl rfl rfl ?_
          refine VL_val rfl rfl rfl (yd_pick_t rfl rfl) ?_
          refine VL_nil ?_
          refine VE_then ?_
          refine VC_cond_t rfl ?_
          refine VC_seq ?_
          refine VC_region ?_
          refine VL_val rfl rfl rfl (yd_assign rfl) ?_
          refine VL_nil ?_
          refine VE_then ?_
          refine VC_ret ?_
          refine VE_then_ret (?_)
          refine VE_ret1 (rfl) rfl ?_
          exact ⟨rfl, hS.below⟩
        · replace h27 := V.nf h27
          have hI := hbt h27
          have hll := hI.len
          obtain rfl := hla (by omega)
          refine VL_yes rfl rfl rfl rfl ?_
          refine VL_val rfl rfl rfl (yd_move rfl) ?_
          refine VL_yes rfl rfl rfl rfl ?_
          refine VL_call rfl rfl rfl rfl T.call27 rfl (of_ok (hS.graph hG0) hg) ?_
          rintro _ w ⟨s, rfl, hok, hR2⟩
          have hS := hS.call0 hR2
          refine VL_yes rfl rfl rfl rfl ?_
          refine VL_call rfl rfl rfl rfl T.call28 rfl (shWhole_ok (shapeAt (hS.graph hG0) hok (hS.get 0 rfl)) hg) ?_
          rintro _ w ⟨bw, rfl, hbw, hR3⟩
          have hS := hS.call0 hR3
          refine VL_yes rfl rfl rfl rfl ?_
          refine VL_val rfl rfl rfl (yd_not rfl) ?_
          refine VL_val rfl rfl rfl (yd_pick_f rfl rfl) ?_
          refine VL_nil ?_
          refine VE_then ?_
          refine VC_cond rfl (fun h32 => ?_) (fun h32 => ?_)
          · replace h32 := V.nt h32
            refine VC_seq ?_
            refine VC_region ?_
            refine VL_val rfl rfl rfl (yd_assign rfl) ?_
            refine VL_nil ?_
            refine VE_then ?_
            refine VC_ret ?_
            refine VE_then_ret (?_)
            refine VE_ret1 (rfl) rfl ?_
            exact ⟨rfl, hS.below⟩
          · replace h32 := V.nf h32
            have hw := hbw.1 h32
            have hT := hI.tree hg hw
            have hmm : ∀ x, x < G.length → x ∈ postL G := fun x hx => ((postL_ok hg).mem x).2 (hw x hx)
            refine VC_skip ?_
            refine VE_then ?_
            refine VC_seq ?_
            refine VC_region ?_
            refine VL_val rfl rfl rfl (yd_move rfl) ?_
            refine VL_val rfl rfl rfl (yd_move rfl) ?_
            refine VL_call rfl rfl rfl rfl T.call29 rfl (implTreeOf_ok (hS.graph hG0) hg (hS.ints hl0) hw hI) ?_
            rintro utree w ⟨t, hok2, hR4⟩
            have hS := hS.call0 hR4
            obtain ⟨tb, tc, rfl, -⟩ := row_form (hS.get 1 rfl) (.inr (by omega))
            refine VL_val rfl rfl rfl (yd_assign rfl) ?_
            refine VL_nil ?_
            refine VE_then ?_
            refine VC_seq ?_
            refine VC_seq ?_
            refine VC_region ?_
            refine VL_val rfl rfl rfl (yd_move rfl) ?_
            refine VL_val rfl rfl rfl (yd_len rfl Try.underlying45) ?_
            refine VL_val rfl rfl rfl (yd_move rfl) ?_
            refine VL_val rfl rfl rfl (yd_len rfl Try.underlying22) ?_
            refine VL_val rfl rfl rfl (yd_neq rfl rfl) ?_
            refine VL_val rfl rfl rfl (yd_move rfl) ?_
            refine VL_split 41 rfl (fun h41 => ?_) (fun h41 => ?_)
            · replace h41 := of_decide_eq_true h41
              exact absurd (by omega) h41
            · replace h41 := Decidable.not_not.1 (of_decide_eq_false h41)
              refine VL_yes rfl rfl rfl rfl ?_
              refine VL_val rfl rfl rfl (yd_move rfl) ?_
              refine VL_yes rfl rfl rfl rfl ?_
              refine VL_val rfl rfl rfl (yd_move rfl) ?_
              refine VL_yes rfl rfl rfl rfl ?_
              refine VL_call rfl rfl rfl rfl T.call30 rfl (grown_ok hg hT hok2.toTB (hS.get 1 rfl) (hS.ints hl0) hll (fun x hx => hI.get hx)) ?_
              rintro _ w ⟨rfl, hR5⟩
              have hS := hS.call0 hR5
              refine VL_yes rfl rfl rfl rfl ?_
              refine VL_val rfl rfl rfl (yd_not rfl) ?_
              refine VL_val rfl rfl rfl (yd_pick_f rfl rfl) ?_
              refine VL_nil ?_
              refine VE_then ?_
              refine VC_cond rfl (fun h46 => ?_) (fun h46 => ?_)
              · replace h46 := V.nt h46
                cases h46
              · replace h46 := V.nf h46
                refine VC_skip ?_
                refine VE_then ?_
                refine VC_seq ?_
                refine VC_seq ?_
                refine VC_region ?_
                refine VL_val rfl rfl rfl (yd_move rfl) ?_
                refine VL_val rfl rfl rfl (yd_len rfl Try.underlying45) ?_
                refine VL_val rfl rfl rfl (yd_move rfl) ?_
                refine VL_nil ?_
                refine VE_then ?_
                refine VC_block ?_
                refine VC_loop1 [1, 5, 47, 48] [_, _, _, _] rfl (fun (x : Nat) => [(49, .int .i64 ((x : Nat) : Int))]) (fun (x : Nat) w => x ≤ G.length ∧ St w0 M0 [shapeR s G, row (.slice (some ⟨tb, 0, none⟩) G.length tc) 49 5 G.length (nodeC G.length t)] w) (fun (x : Nat) => G.length - x) 0 ⟨rfl, trivial⟩ (⟨Nat.zero_le _, hS⟩) ?_
                clear hS; rintro x w ⟨hx, hS⟩
                refine VC_seq ?_
                refine VC_region ?_
                refine VL_val rfl rfl rfl (yd_lss rfl rfl) ?_
                refine VL_nil ?_
                refine VE_then ?_
                refine VC_seq ?_
                refine VC_cond rfl (fun h50 => ?_) (fun h50 => ?_)
                · replace h50 := of_decide_eq_true h50
                  refine VC_skip ?_
                  refine VE_then ?_
                  refine VC_seq ?_
                  refine VC_block ?_
                  refine VC_seq ?_
                  refine VC_region ?_
                  have hxl : x < G.length := by omega
                  refine VL_val rfl rfl rfl (yd_move rfl) ?_
                  refine VL_val rfl rfl rfl (yd_index rfl rfl Try.underlying45 T.sz49 (by omega) (x * 5) (Nat.zero_add _)) ?_
                  refine VL_val rfl rfl rfl (yd_loadn (node5 t x) rfl T.agg49 (nc_all (hS.get 1 rfl) hxl)) ?_
                  refine VL_alloc rfl rfl rfl rfl T.e49 hS ?_
                  clear hS; intro b7 w hS
                  refine VL_val rfl rfl rfl (yd_assign rfl) ?_
                  refine VL_storeN (cs := node5 t x) rfl rfl rfl rfl rfl T.agg49 node5_one hS 2 rfl (by simp [Value.cells, node5]) ?_
                  clear hS; intro w hS
                  have hS : St w0 M0 [shapeR s G, row (.slice (some ⟨tb, 0, none⟩) G.length tc) 49 5 G.length (nodeC G.length t), blk b7 49 (node5 t x)] w := hS
                  refine VL_nil ?_
                  refine VE_then ?_
                  refine VC_seq ?_
                  refine VC_seq ?_
                  refine VC_draw T.mixed hS ?_
                  clear hS; intro w hS
                  refine VA_take (i := 0) rfl rfl rfl rfl (by kernel_rfl) (by kernel_rfl) (by kernel_rfl) #[true, false, false, false, false, false, false] (by kernel_rfl) (fun _ _ _ _ h => h) (fun w hS => yd_field rfl T.fld49_0) ?_
                  refine VA_take (i := 1) rfl rfl rfl rfl (by kernel_rfl) (by kernel_rfl) (by kernel_rfl) #[true, true, false, false, false, false, false] (by kernel_rfl) (fun _ _ _ _ h => h) (fun w hS => yd_load rfl T.one3 (blk_cell (hS.get 2 rfl) rfl)) ?_
                  refine VA_take (i := 2) rfl rfl rfl rfl (by kernel_rfl) (by kernel_rfl) (by kernel_rfl) #[true, true, true, false, false, false, false] (by kernel_rfl) (fun _ _ _ _ h => h) (fun w hS => yd_move rfl) ?_
                  refine VA_take (i := 3) rfl rfl rfl rfl (by kernel_rfl) (by kernel_rfl) (by kernel_rfl) #[true, true, true, true, false, false, false] (by kernel_rfl) (fun _ _ _ _ h => h) (fun w hS => yd_move rfl) ?_
                  refine VA_take (i := 4) rfl rfl rfl rfl (by kernel_rfl) (by kernel_rfl) (by kernel_rfl) #[true, true, true, true, true, false, false] (by kernel_rfl) (fun _ _ _ _ h => h) (fun w hS => yd_index1 rfl rfl Try.underlying24 T.sz3 (by omega)) ?_
                  refine VA_take (i := 5) rfl rfl rfl rfl (by kernel_rfl) (by kernel_rfl) (by kernel_rfl) #[true, true, true, true, true, true, false] (by kernel_rfl) (fun _ _ _ _ h => h) (fun w hS => yd_load rfl T.one3 (hS.cell0 (hcl x (by omega)))) ?_
                  refine VA_take (i := 6) rfl rfl rfl rfl (by kernel_rfl) (by kernel_rfl) (by kernel_rfl) #[true, true, true, true, true, true, true] (by kernel_rfl) (fun _ _ _ _ h => h) (fun w hS => yd_neq rfl rfl) ?_
                  refine VA_done (by kernel_rfl) hS ?_
                  refine VE_then ?_
                  refine VC_cond rfl (fun h60 => ?_) (fun h60 => ?_)
                  · replace h60 := of_decide_eq_true h60
                    exact absurd (by rw [hok2.pa, hI.get hxl]) h60
                  · replace h60 := Decidable.not_not.1 (of_decide_eq_false h60)
                    refine VC_skip ?_
                    refine VE_then ?_
                    refine VC_seq ?_
                    refine VC_region ?_
                    refine VL_val rfl rfl rfl (yd_move rfl) ?_
                    refine VL_val rfl rfl rfl (yd_len rfl Try.underlying45) ?_
                    refine VL_val rfl rfl rfl (yd_move rfl) ?_
                    refine VL_nil ?_
                    refine VE_then ?_
                    refine VC_block ?_
                    refine VC_loop1 [1, 5, 6, 7, 47, 48, 49, 50, 51, 52, 53, 54, 55, 56, 57, 58, 59, 60, 61, 62] [_, _, _, _, _, _, _, _, _, _, _, _, _, _, _, _, _, _, _, _] rfl (fun (y : Nat) => [(63, .int .i64 ((y : Nat) : Int))]) (fun (y : Nat) w => y ≤ G.length ∧ St w0 M0 [shapeR s G, row (.slice (some ⟨tb, 0, none⟩) G.length tc) 49 5 G.length (nodeC G.length t), blk b7 49 (node5 t x)] w) (fun (y : Nat) => G.length - y) 0 ⟨rfl, trivial⟩ (⟨Nat.zero_le _, hS⟩) ?_
                    clear hS; rintro y w ⟨hy, hS⟩
                    refine VC_seq ?_
                    refine VC_region ?_
                    refine VL_val rfl rfl rfl (yd_lss rfl rfl) ?_
                    refine VL_nil ?_
                    refine VE_then ?_
                    refine VC_seq ?_
                    refine VC_cond rfl (fun h64 => ?_) (fun h64 => ?_)
                    · replace h64 := of_decide_eq_true h64
                      refine VC_skip ?_
                      refine VE_then ?_
                      refine VC_seq ?_
                      refine VC_block ?_
                      refine VC_seq ?_
                      refine VC_region ?_
                      have hyl : y < G.length := by omega
                      refine VL_val rfl rfl rfl (yd_move rfl) ?_
                      refine VL_val rfl rfl rfl (yd_index rfl rfl Try.underlying45 T.sz49 (by omega) (y * 5) (Nat.zero_add _)) ?_
                      refine VL_val rfl rfl rfl (yd_loadn (node5 t y) rfl T.agg49 (nc_all (hS.get 1 rfl) hyl)) ?_
                      refine VL_alloc rfl rfl rfl rfl T.e49 hS ?_
                      clear hS; intro b9 w hS
                      refine VL_val rfl rfl rfl (yd_assign rfl) ?_
                      refine VL_storeN (cs := node5 t y) rfl rfl rfl rfl rfl T.agg49 node5_one hS 3 rfl (by simp [Value.cells, node5]) ?_
                      clear hS; intro w hS
                      have hS : St w0 M0 [shapeR s G, row (.slice (some ⟨tb, 0, none⟩) G.length tc) 49 5 G.length (nodeC G.length t), blk b7 49 (node5 t x), blk b9 49 (node5 t y)] w := hS
                      have key : (x ≠ y ∧ abvI l (x : Int) l.length (y : Int) = true) ↔ (t.en x < t.en y ∧ t.ex y < t.ex x) := by rw [hll, abvI_iff hI.par hI.rank (fun y hy => ark_lt hy) hyl]; exact hok2.num.nest x y (hmm x hxl) (hmm y hyl)
                      refine VL_nil ?_
                      refine VE_then ?_
                      refine VC_seq ?_
                      refine VC_draw T.mixed hS ?_
                      clear hS; intro w hS
                      refine VA_take (i := 0) rfl rfl rfl rfl (by kernel_rfl) (by kernel_rfl) (by kernel_rfl) #[true, false, false, false, false, false, false, false, false, false, false, false, false, false, false, false, false, false, false, false, false, false] (by kernel_rfl) (fun _ _ _ _ h => h) (fun w hS => yd_move rfl) ?_
                      refine VA_take (i := 1) rfl rfl rfl rfl (by kernel_rfl) (by kernel_rfl) (by kernel_rfl) #[true, true, false, false, false, false, false, false, false, false, false, false, false, false, false, false, false, false, false, false, false, false] (by kernel_rfl) (fun _ _ _ _ h => h) (fun w hS => yd_move rfl) ?_
                      refine VA_take (i := 2) rfl rfl rfl rfl (by kernel_rfl) (by kernel_rfl) (by kernel_rfl) #[true, true, true, false, false, false, false, false, false, false, false, false, false, false, false, false, false, false, false, false, false, false] (by kernel_rfl) (fun _ _ _ _ h => h) (fun w hS => yd_neq rfl rfl) ?_
                      refine VA_take (i := 3) rfl rfl rfl rfl (by kernel_rfl) (by kernel_rfl) (by kernel_rfl) #[true, true, true, true, false, false, false, false, false, false, false, false, false, false, false, false, false, false, false, false, false, false] (by kernel_rfl) (fun _ _ _ _ h => h) (fun w hS => yd_move rfl) ?_
                      refine VA_take (i := 9) rfl rfl rfl rfl (by kernel_rfl) (by kernel_rfl) (by kernel_rfl) #[true, true, true, true, false, false, false, false, false, true, false, false, false, false, false, false, false, false, false, false, false, false] (by kernel_rfl) (fun _ _ _ _ h => h) (fun w hS => yd_field rfl T.fld49_3) ?_
                      refine VA_take (i := 10) rfl rfl rfl rfl (by kernel_rfl) (by kernel_rfl) (by kernel_rfl) #[true, true, true, true, false, false, false, false, false, true, true, false, false, false, false, false, false, false, false, false, false, false] (by kernel_rfl) (fun _ _ _ _ h => h) (fun w hS => yd_load rfl T.one3 (blk_cell (hS.get 2 rfl) rfl)) ?_
                      refine VA_take (i := 11) rfl rfl rfl rfl (by kernel_rfl) (by kernel_rfl) (by kernel_rfl) #[true, true, true, true, false, false, false, false, false, true, true, true, false, false, false, false, false, false, false, false, false, false] (by kernel_rfl) (fun _ _ _ _ h => h) (fun w hS => yd_field rfl T.fld49_3) ?_
                      refine VA_take (i := 12) rfl rfl rfl rfl (by kernel_rfl) (by kernel_rfl) (by kernel_rfl) #[true, true, true, true, false, false, false, false, false, true, true, true, true, false, false, false, false, false, false, false, false, false] (by kernel_rfl) (fun _ _ _ _ h => h) (fun w hS => yd_load rfl T.one3 (blk_cell (hS.get 3 rfl) rfl)) ?_
                      refine VA_take (i := 13) rfl rfl rfl rfl (by kernel_rfl) (by kernel_rfl) (by kernel_rfl) #[true, true, true, true, false, false, false, false, false, true, true, true, true, true, false, false, false, false, false, false, false, false] (by kernel_rfl) (fun _ _ _ _ h => h) (fun w hS => yd_lss rfl rfl) ?_
                      refine VA_split 71 rfl (fun h71 => ?_) (fun h71 => ?_)
                      · replace h71 := of_decide_eq_true h71
                        refine VA_takeG (i := 4) rfl rfl rfl rfl rfl rfl rfl (by kernel_rfl) (by kernel_rfl) (by kernel_rfl) #[true, true, true, true, true, false, false, false, false, true, true, true, true, true, false, false, false, false, false, false, false, false] (by kernel_rfl) (fun _ _ _ _ h => h) (fun w hS => yd_move rfl) ?_
                        refine VA_takeG (i := 5) rfl rfl rfl rfl rfl rfl rfl (by kernel_rfl) (by kernel_rfl) (by kernel_rfl) #[true, true, true, true, true, true, false, false, false, true, true, true, true, true, false, false, false, false, false, false, false, false] (by kernel_rfl) (fun _ _ _ _ h => h) (fun w hS => yd_move rfl) ?_
                        refine VA_takeG (i := 6) rfl rfl rfl rfl rfl rfl rfl (by kernel_rfl) (by kernel_rfl) (by kernel_rfl) #[true, true, true, true, true, true, true, false, false, true, true, true, true, true, false, false, false, false, false, false, false, false] (by kernel_rfl) (fun _ _ _ _ h => h) (fun w hS => yd_move rfl) ?_
                        refine VA_only (i := 7) (by kernel_rfl) hS ?_
                        refine VS_call rfl (wanted_yes rfl rfl rfl rfl) #[true, true, true, true, true, true, true, true, false, true, true, true, true, true, false, false, false, false, false, false, false, false] (by kernel_rfl) rfl rfl rfl T.call31 rfl (above_ok (hS.ints hl0) (by omega)) ?_
                        rintro _ _ ⟨rfl, rfl⟩
                        refine VA_take (i := 8) rfl rfl rfl rfl (by kernel_rfl) (by kernel_rfl) (by kernel_rfl) #[true, true, true, true, true, true, true, true, true, true, true, true, true, true, false, false, false, false, false, false, false, false] (by kernel_rfl) (fun _ _ _ _ h => h) (fun w hS => yd_pick_t rfl rfl) ?_
                        refine VA_take (i := 14) rfl rfl rfl rfl (by kernel_rfl) (by kernel_rfl) (by kernel_rfl) #[true, true, true, true, true, true, true, true, true, true, true, true, true, true, true, false, false, false, false, false, false, false] (by kernel_rfl) (fun _ _ _ _ h => h) (fun w hS => yd_move rfl) ?_
                        refine VA_split 82 rfl (fun h82 => ?_) (fun h82 => ?_)
                        · replace h82 := of_decide_eq_true h82
                          refine VA_takeG (i := 15) rfl rfl rfl rfl rfl rfl rfl (by kernel_rfl) (by kernel_rfl) (by kernel_rfl) #[true, true, true, true, true, true, true, true, true, true, true, true, true, true, true, true, false, false, false, false, false, false] (by kernel_rfl) (fun _ _ _ _ h => h) (fun w hS => yd_field rfl T.fld49_4) ?_
                          refine VA_takeG (i := 16) rfl rfl rfl rfl rfl rfl rfl (by kernel_rfl) (by kernel_rfl) (by kernel_rfl) #[true, true, true, true, true, true, true, true, true, true, true, true, true, true, true, true, true, false, false, false, false, false] (by kernel_rfl) (fun _ _ _ _ h => h) (fun w hS => yd_load rfl T.one3 (blk_cell (hS.get 3 rfl) rfl)) ?_
                          refine VA_takeG (i := 17) rfl rfl rfl rfl rfl rfl rfl (by kernel_rfl) (by kernel_rfl) (by kernel_rfl) #[true, true, true, true, true, true, true, true, true, true, true, true, true, true, true, true, true, true, false, false, false, false] (by kernel_rfl) (fun _ _ _ _ h => h) (fun w hS => yd_field rfl T.fld49_4) ?_
                          refine VA_takeG (i := 18) rfl rfl rfl rfl rfl rfl rfl (by kernel_rfl) (by kernel_rfl) (by kernel_rfl) #[true, true, true, true, true, true, true, true, true, true, true, true, true, true, true, true, true, true, true, false, false, false] (by kernel_rfl) (fun _ _ _ _ h => h) (fun w hS => yd_load rfl T.one3 (blk_cell (hS.get 2 rfl) rfl)) ?_
                          refine VA_takeG (i := 19) rfl rfl rfl rfl rfl rfl rfl (by kernel_rfl) (by kernel_rfl) (by kernel_rfl) #[true, true, true, true, true, true, true, true, true, true, true, true, true, true, true, true, true, true, true, true, false, false] (by kernel_rfl) (fun _ _ _ _ h => h) (fun w hS => yd_lss rfl rfl) ?_
                          refine VA_take (i := 20) rfl rfl rfl rfl (by kernel_rfl) (by kernel_rfl) (by kernel_rfl) #[true, true, true, true, true, true, true, true, true, true, true, true, true, true, true, true, true, true, true, true, true, false] (by kernel_rfl) (fun _ _ _ _ h => h) (fun w hS => yd_pick_t rfl rfl) ?_
                          refine VA_take (i := 21) rfl rfl rfl rfl (by kernel_rfl) (by kernel_rfl) (by kernel_rfl) #[true, true, true, true, true, true, true, true, true, true, true, true, true, true, true, true, true, true, true, true, true, true] (by kernel_rfl) (fun _ _ _ _ h => h) (fun w hS => yd_neqb rfl rfl Try.underlying4) ?_
                          refine VA_done (by kernel_rfl) hS ?_
                          refine VE_then ?_
                          refine VC_cond rfl (fun h89 => ?_) (fun h89 => ?_)
                          · replace h89 := of_decide_eq_true h89
                            refine absurd ?_ h89
                            first
                            | rfl
                            | (rw [Bool.eq_iff_iff, decide_eq_true_eq]; exact ⟨fun h => by (have := key.1 ⟨by omega, h⟩; omega), fun h => (key.2 ⟨by omega, by omega⟩).2⟩)
                            | exact Bool.eq_iff_iff.2 ⟨fun h => by (have := key.1 ⟨by omega, h⟩; omega), fun h => (by cases h)⟩
                            | exact Bool.eq_iff_iff.2 ⟨fun h => (by cases h), fun h => by (have e : x = y := (by omega); subst e; omega)⟩
                          · replace h89 := Decidable.not_not.1 (of_decide_eq_false h89)
                            refine VC_skip ?_
                            refine VE_block_normal ?_
                            refine VE_then ?_
                            refine VC_region ?_
                            refine VL_val rfl rfl rfl (yd_add rfl rfl ((y + 1 : Nat) : Int) (by rw [wi64 (by omega) (by omega)]; omega)) ?_
                            refine VL_val rfl rfl rfl (yd_move rfl) ?_
                            refine VL_nil ?_
                            have hS := hS.sub (η' := _) (List.take_sublist 3 _)
                            exact VE_round1 (y + 1) ⟨rfl, rfl, rfl, rfl, rfl, rfl, rfl, rfl, rfl, rfl, rfl, rfl, rfl, rfl, rfl, rfl, rfl, rfl, rfl, rfl, rfl, trivial⟩ ⟨by omega, hS⟩ (by omega)
                        · replace h82 := Int.not_lt.1 (of_decide_eq_false h82)
                          refine VA_no (i := 15) rfl rfl rfl rfl rfl rfl rfl rfl (by kernel_rfl) (by kernel_rfl) (by kernel_rfl) #[true, true, true, true, true, true, true, true, true, true, true, true, true, true, true, true, false, false, false, false, false, false] (by kernel_rfl) (fun _ _ _ _ h => h) ?_
                          refine VA_no (i := 16) rfl rfl rfl rfl rfl rfl rfl rfl (by kernel_rfl) (by kernel_rfl) (by kernel_rfl) #[true, true, true, true, true, true, true, true, true, true, true, true, true, true, true, true, true, false, false, false, false, false] (by kernel_rfl) (fun _ _ _ _ h => h) ?_
                          refine VA_no (i := 17) rfl rfl rfl rfl rfl rfl rfl rfl (by kernel_rfl) (by kernel_rfl) (by kernel_rfl) #[true, true, true, true, true, true, true, true, true, true, true, true, true, true, true, true, true, true, false, false, false, false] (by kernel_rfl) (fun _ _ _ _ h => h) ?_
                          refine VA_no (i := 18) rfl rfl rfl rfl rfl rfl rfl rfl (by kernel_rfl) (by kernel_rfl) (by kernel_rfl) #[true, true, true, true, true, true, true, true, true, true, true, true, true, true, true, true, true, true, true, false, false, false] (by kernel_rfl) (fun _ _ _ _ h => h) ?_
                          refine VA_no (i := 19) rfl rfl rfl rfl rfl rfl rfl rfl (by kernel_rfl) (by kernel_rfl) (by kernel_rfl) #[true, true, true, true, true, true, true, true, true, true, true, true, true, true, true, true, true, true, true, true, false, false] (by kernel_rfl) (fun _ _ _ _ h => h) ?_
                          refine VA_take (i := 20) rfl rfl rfl rfl (by kernel_rfl) (by kernel_rfl) (by kernel_rfl) #[true, true, true, true, true, true, true, true, true, true, true, true, true, true, true, true, true, true, true, true, true, false] (by kernel_rfl) (fun _ _ _ _ h => h) (fun w hS => yd_pick_f rfl rfl) ?_
                          refine VA_take (i := 21) rfl rfl rfl rfl (by kernel_rfl) (by kernel_rfl) (by kernel_rfl) #[true, true, true, true, true, true, true, true, true, true, true, true, true, true, true, true, true, true, true, true, true, true] (by kernel_rfl) (fun _ _ _ _ h => h) (fun w hS => yd_neqb rfl rfl Try.underlying4) ?_
                          refine VA_done (by kernel_rfl) hS ?_
                          refine VE_then ?_
                          refine VC_cond rfl (fun h89 => ?_) (fun h89 => ?_)
                          · replace h89 := of_decide_eq_true h89
                            refine absurd ?_ h89
                            first
                            | rfl
                            | (rw [Bool.eq_iff_iff, decide_eq_true_eq]; exact ⟨fun h => by (have := key.1 ⟨by omega, h⟩; omega), fun h => (key.2 ⟨by omega, by omega⟩).2⟩)
                            | exact Bool.eq_iff_iff.2 ⟨fun h => by (have := key.1 ⟨by omega, h⟩; omega), fun h => (by cases h)⟩
                            | exact Bool.eq_iff_iff.2 ⟨fun h => (by cases h), fun h => by (have e : x = y := (by omega); subst e; omega)⟩
                          · replace h89 := Decidable.not_not.1 (of_decide_eq_false h89)
                            refine VC_skip ?_
                            refine VE_block_normal ?_
                            refine VE_then ?_
                            refine VC_region ?_
                            refine VL_val rfl rfl rfl (yd_add rfl rfl ((y + 1 : Nat) : Int) (by rw [wi64 (by omega) (by omega)]; omega)) ?_
                            refine VL_val rfl rfl rfl (yd_move rfl) ?_
                            refine VL_nil ?_
                            have hS := hS.sub (η' := _) (List.take_sublist 3 _)
                            exact VE_round1 (y + 1) ⟨rfl, rfl, rfl, rfl, rfl, rfl, rfl, rfl, rfl, rfl, rfl, rfl, rfl, rfl, rfl, rfl, rfl, rfl, rfl, rfl, rfl, trivial⟩ ⟨by omega, hS⟩ (by omega)
                      · replace h71 := Decidable.not_not.1 (of_decide_eq_false h71)
                        refine VA_no (i := 4) rfl rfl rfl rfl rfl rfl rfl rfl (by kernel_rfl) (by kernel_rfl) (by kernel_rfl) #[true, true, true, true, true, false, false, false, false, true, true, true, true, true, false, false, false, false, false, false, false, false] (by kernel_rfl) (fun _ _ _ _ h => h) ?_
                        refine VA_no (i := 5) rfl rfl rfl rfl rfl rfl rfl rfl (by kernel_rfl) (by kernel_rfl) (by kernel_rfl) #[true, true, true, true, true, true, false, false, false, true, true, true, true, true, false, false, false, false, false, false, false, false] (by kernel_rfl) (fun _ _ _ _ h => h) ?_
                        refine VA_no (i := 6) rfl rfl rfl rfl rfl rfl rfl rfl (by kernel_rfl) (by kernel_rfl) (by kernel_rfl) #[true, true, true, true, true, true, true, false, false, true, true, true, true, true, false, false, false, false, false, false, false, false] (by kernel_rfl) (fun _ _ _ _ h => h) ?_
                        refine VA_no (i := 7) rfl rfl rfl rfl rfl rfl rfl rfl (by kernel_rfl) (by kernel_rfl) (by kernel_rfl) #[true, true, true, true, true, true, true, true, false, true, true, true, true, true, false, false, false, false, false, false, false, false] (by kernel_rfl) (fun _ _ _ _ h => h) ?_
                        refine VA_take (i := 8) rfl rfl rfl rfl (by kernel_rfl) (by kernel_rfl) (by kernel_rfl) #[true, true, true, true, true, true, true, true, true, true, true, true, true, true, false, false, false, false, false, false, false, false] (by kernel_rfl) (fun _ _ _ _ h => h) (fun w hS => yd_pick_f rfl rfl) ?_
                        refine VA_take (i := 14) rfl rfl rfl rfl (by kernel_rfl) (by kernel_rfl) (by kernel_rfl) #[true, true, true, true, true, true, true, true, true, true, true, true, true, true, true, false, false, false, false, false, false, false] (by kernel_rfl) (fun _ _ _ _ h => h) (fun w hS => yd_move rfl) ?_
                        refine VA_split 82 rfl (fun h82 => ?_) (fun h82 => ?_)
                        · replace h82 := of_decide_eq_true h82
                          refine VA_takeG (i := 15) rfl rfl rfl rfl rfl rfl rfl (by kernel_rfl) (by kernel_rfl) (by kernel_rfl) #[true, true, true, true, true, true, true, true, true, true, true, true, true, true, true, true, false, false, false, false, false, false] (by kernel_rfl) (fun _ _ _ _ h => h) (fun w hS => yd_field rfl T.fld49_4) ?_
                          refine VA_takeG (i := 16) rfl rfl rfl rfl rfl rfl rfl (by kernel_rfl) (by kernel_rfl) (by kernel_rfl) #[true, true, true, true, true, true, true, true, true, true, true, true, true, true, true, true, true, false, false, false, false, false] (by kernel_rfl) (fun _ _ _ _ h => h) (fun w hS => yd_load rfl T.one3 (blk_cell (hS.get 3 rfl) rfl)) ?_
                          refine VA_takeG (i := 17) rfl rfl rfl rfl rfl rfl rfl (by kernel_rfl) (by kernel_rfl) (by kernel_rfl) #[true, true, true, true, true, true, true, true, true, true, true, true, true, true, true, true, true, true, false, false, false, false] (by kernel_rfl) (fun _ _ _ _ h => h) (fun w hS => yd_field rfl T.fld49_4) ?_
                          refine VA_takeG (i := 18) rfl rfl rfl rfl rfl rfl rfl (by kernel_rfl) (by kernel_rfl) (by kernel_rfl) #[true, true, true, true, true, true, true, true, true, true, true, true, true, true, true, true, true, true, true, false, false, false] (by kernel_rfl) (fun _ _ _ _ h => h) (fun w hS => yd_load rfl T.one3 (blk_cell (hS.get 2 rfl) rfl)) ?_
                          refine VA_takeG (i := 19) rfl rfl rfl rfl rfl rfl rfl (by kernel_rfl) (by kernel_rfl) (by kernel_rfl) #[true, true, true, true, true, true, true, true, true, true, true, true, true, true, true, true, true, true, true, true, false, false] (by kernel_rfl) (fun _ _ _ _ h => h) (fun w hS => yd_lss rfl rfl) ?_
                          refine VA_take (i := 20) rfl rfl rfl rfl (by kernel_rfl) (by kernel_rfl) (by kernel_rfl) #[true, true, true, true, true, true, true, true, true, true, true, true, true, true, true, true, true, true, true, true, true, false] (by kernel_rfl) (fun _ _ _ _ h => h) (fun w hS => yd_pick_t rfl rfl) ?_
                          refine VA_take (i := 21) rfl rfl rfl rfl (by kernel_rfl) (by kernel_rfl) (by kernel_rfl) #[true, true, true, true, true, true, true, true, true, true, true, true, true, true, true, true, true, true, true, true, true, true] (by kernel_rfl) (fun _ _ _ _ h => h) (fun w hS => yd_neqb rfl rfl Try.underlying4) ?_
                          refine VA_done (by kernel_rfl) hS ?_
                          refine VE_then ?_
                          refine VC_cond rfl (fun h89 => ?_) (fun h89 => ?_)
                          · replace h89 := of_decide_eq_true h89
                            refine absurd ?_ h89
                            first
                            | rfl
                            | (rw [Bool.eq_iff_iff, decide_eq_true_eq]; exact ⟨fun h => by (have := key.1 ⟨by omega, h⟩; omega), fun h => (key.2 ⟨by omega, by omega⟩).2⟩)
                            | exact Bool.eq_iff_iff.2 ⟨fun h => by (have := key.1 ⟨by omega, h⟩; omega), fun h => (by cases h)⟩
                            | exact Bool.eq_iff_iff.2 ⟨fun h => (by cases h), fun h => by (have e : x = y := (by omega); subst e; omega)⟩
                          · replace h89 := Decidable.not_not.1 (of_decide_eq_false h89)
                            refine VC_skip ?_
                            refine VE_block_normal ?_
                            refine VE_then ?_
                            refine VC_region ?_
                            refine VL_val rfl rfl rfl (yd_add rfl rfl ((y + 1 : Nat) : Int) (by rw [wi64 (by omega) (by omega)]; omega)) ?_
                            refine VL_val rfl rfl rfl (yd_move rfl) ?_
                            refine VL_nil ?_
                            have hS := hS.sub (η' := _) (List.take_sublist 3 _)
                            exact VE_round1 (y + 1) ⟨rfl, rfl, rfl, rfl, rfl, rfl, rfl, rfl, rfl, rfl, rfl, rfl, rfl, rfl, rfl, rfl, rfl, rfl, rfl, rfl, rfl, trivial⟩ ⟨by omega, hS⟩ (by omega)
                        · replace h82 := Int.not_lt.1 (of_decide_eq_false h82)
                          refine VA_no (i := 15) rfl rfl rfl rfl rfl rfl rfl rfl (by kernel_rfl) (by kernel_rfl) (by kernel_rfl) #[true, true, true, true, true, true, true, true, true, true, true, true, true, true, true, true, false, false, false, false, false, false] (by kernel_rfl) (fun _ _ _ _ h => h) ?_
                          refine VA_no (i := 16) rfl rfl rfl rfl rfl rfl rfl rfl (by kernel_rfl) (by kernel_rfl) (by kernel_rfl) #[true, true, true, true, true, true, true, true, true, true, true, true, true, true, true, true, true, false, false, false, false, false] (by kernel_rfl) (fun _ _ _ _ h => h) ?_
                          refine VA_no (i := 17) rfl rfl rfl rfl rfl rfl rfl rfl (by kernel_rfl) (by kernel_rfl) (by kernel_rfl) #[true, true, true, true, true, true, true, true, true, true, true, true, true, true, true, true, true, true, false, false, false, false] (by kernel_rfl) (fun _ _ _ _ h => h) ?_
                          refine VA_no (i := 18) rfl rfl rfl rfl rfl rfl rfl rfl (by kernel_rfl) (by kernel_rfl) (by kernel_rfl) #[true, true, true, true, true, true, true, true, true, true, true, true, true, true, true, true, true, true, true, false, false, false] (by kernel_rfl) (fun _ _ _ _ h => h) ?_
                          refine VA_no (i := 19) rfl rfl rfl rfl rfl rfl rfl rfl (by kernel_rfl) (by kernel_rfl) (by kernel_rfl) #[true, true, true, true, true, true, true, true, true, true, true, true, true, true, true, true, true, true, true, true, false, false] (by kernel_rfl) (fun _ _ _ _ h => h) ?_
                          refine VA_take (i := 20) rfl rfl rfl rfl (by kernel_rfl) (by kernel_rfl) (by kernel_rfl) #[true, true, true, true, true, true, true, true, true, true, true, true, true, true, true, true, true, true, true, true, true, false] (by kernel_rfl) (fun _ _ _ _ h => h) (fun w hS => yd_pick_f rfl rfl) ?_
                          refine VA_take (i := 21) rfl rfl rfl rfl (by kernel_rfl) (by kernel_rfl) (by kernel_rfl) #[true, true, true, true, true, true, true, true, true, true, true, true, true, true, true, true, true, true, true, true, true, true] (by kernel_rfl) (fun _ _ _ _ h => h) (fun w hS => yd_neqb rfl rfl Try.underlying4) ?_
                          refine VA_done (by kernel_rfl) hS ?_
                          refine VE_then ?_
                          refine VC_cond rfl (fun h89 => ?_) (fun h89 => ?_)
                          · replace h89 := of_decide_eq_true h89
                            refine absurd ?_ h89
                            first
                            | rfl
                            | (rw [Bool.eq_iff_iff, decide_eq_true_eq]; exact ⟨fun h => by (have := key.1 ⟨by omega, h⟩; omega), fun h => (key.2 ⟨by omega, by omega⟩).2⟩)
                            | exact Bool.eq_iff_iff.2 ⟨fun h => by (have := key.1 ⟨by omega, h⟩; omega), fun h => (by cases h)⟩
                            | exact Bool.eq_iff_iff.2 ⟨fun h => (by cases h), fun h => by (have e : x = y := (by omega); subst e; omega)⟩
                          · replace h89 := Decidable.not_not.1 (of_decide_eq_false h89)
                            refine VC_skip ?_
                            refine VE_block_normal ?_
                            refine VE_then ?_
                            refine VC_region ?_
                            refine VL_val rfl rfl rfl (yd_add rfl rfl ((y + 1 : Nat) : Int) (by rw [wi64 (by omega) (by omega)]; omega)) ?_
                            refine VL_val rfl rfl rfl (yd_move rfl) ?_
                            refine VL_nil ?_
                            have hS := hS.sub (η' := _) (List.take_sublist 3 _)
                            exact VE_round1 (y + 1) ⟨rfl, rfl, rfl, rfl, rfl, rfl, rfl, rfl, rfl, rfl, rfl, rfl, rfl, rfl, rfl, rfl, rfl, rfl, rfl, rfl, rfl, trivial⟩ ⟨by omega, hS⟩ (by omega)
                    · replace h64 := Int.not_lt.1 (of_decide_eq_false h64)
                      refine VC_exit ?_
                      refine VE_then_exit (VE_then_exit (VE_block_exit ?_))
                      refine VE_block_normal ?_
                      refine VE_then ?_
                      refine VC_region ?_
                      refine VL_val rfl rfl rfl (yd_add rfl rfl ((x + 1 : Nat) : Int) (by rw [wi64 (by omega) (by omega)]; omega)) ?_
                      refine VL_val rfl rfl rfl (yd_move rfl) ?_
                      refine VL_nil ?_
                      have hS := hS.sub (η' := _) (List.take_sublist 2 _)
                      exact VE_round1 (x + 1) ⟨rfl, rfl, rfl, rfl, rfl, trivial⟩ ⟨by omega, hS⟩ (by omega)
                · replace h50 := Int.not_lt.1 (of_decide_eq_false h50)
                  refine VC_exit ?_
                  refine VE_then_exit (VE_then_exit (VE_block_exit ?_))
                  refine VE_then ?_
                  refine VC_seq ?_
                  refine VC_region ?_
                  refine VL_val rfl rfl rfl (yd_assign rfl) ?_
                  refine VL_nil ?_
                  refine VE_then ?_
                  refine VC_ret ?_
                  refine VE_ret1 (rfl) rfl ?_
                  exact ⟨rfl, hS.below⟩

end Go.Proofs.Ytmoooaaiohplhaa
