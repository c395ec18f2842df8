/- Both roads find the same. -/
import Derived.Test.YtmoooaaiohplhacWr
namespace Go.Proofs.Ytmoooaaiohplhac
open Go Go.V
set_option linter.unusedVariables false
set_option maxRecDepth 100000

theorem T.call12 : CallT Try.prog 12 := CallT.of Try.func12 (by kernel_rfl) (by kernel_rfl)
theorem T.call13 : CallT Try.prog 13 := CallT.of Try.func13 (by kernel_rfl) (by kernel_rfl)
theorem T.call20 : CallT Try.prog 20 := CallT.of Try.func20 (by kernel_rfl) (by kernel_rfl)
theorem T.call21 : CallT Try.prog 21 := CallT.of Try.func21 (by kernel_rfl) (by kernel_rfl)
theorem T.call22 : CallT Try.prog 22 := CallT.of Try.func22 (by kernel_rfl) (by kernel_rfl)
open Go.PL
theorem fnTwoRoads_calls {w0 : World} {v : Value} {G0 : List (List Int)} (hR : RowsAt w0 v G0) : Calls Try.prog 4 #[v] w0 (Ret fun u w' => u = .bool true ∧ RowKit.Below w0.heap.size w0 w') := by
  have hS := St.refl w0
  refine V_enter (N := 23) Try.func4 rfl Try.ntmps4 rfl ?_
  refine VC.sub (τ := [(0, _)]) ⟨rfl, trivial⟩ ?_
  refine VC_seq ?_
  refine VC_region ?_
  refine VL_val rfl rfl rfl (yd_assign rfl) ?_
  refine VL_nil ?_
  refine VE_then ?_
  refine VC_seq ?_
  refine VC_seq ?_
  refine VC_region ?_
  refine VL_val rfl rfl rfl (yd_move rfl) ?_
  refine VL_call rfl rfl rfl rfl T.call12 rfl (zzFits1_ok (hS.rows hR)) ?_
  rintro _ _ ⟨rfl, bz, rfl, hz⟩
  refine VL_val rfl rfl rfl (yd_not rfl) ?_
  refine VL_nil ?_
  refine VE_then ?_
  refine VC_cond rfl (fun h6 => ?_) (fun h6 => ?_)
  · replace h6 := V.nt h6
    refine VC_seq ?_
    refine VC_region ?_
    refine VL_val rfl rfl rfl (yd_assign rfl) ?_
    refine VL_nil ?_
    refine VE_then ?_
    refine VC_ret ?_
    refine VE_then_ret (?_)
    refine VE_ret1 (rfl) rfl ?_
    exact ⟨rfl, hS.below⟩
  · replace h6 := V.nf h6
    have hzt := h6
    refine VC_skip ?_
    refine VE_then ?_
    refine VC_seq ?_
    refine VC_seq ?_
    refine VC_region ?_
    refine VL_val rfl rfl rfl (yd_move rfl) ?_
    refine VL_call rfl rfl rfl rfl T.call13 rfl (good_ok (hS.rows hR) (hz hzt)) ?_
    rintro _ _ ⟨rfl, bg, rfl, hgi⟩
    refine VL_val rfl rfl rfl (yd_not rfl) ?_
    refine VL_nil ?_
    refine VE_then ?_
    refine VC_cond rfl (fun h9 => ?_) (fun h9 => ?_)
    · replace h9 := V.nt h9
      refine VC_seq ?_
      refine VC_region ?_
      refine VL_val rfl rfl rfl (yd_assign rfl) ?_
      refine VL_nil ?_
      refine VE_then ?_
      refine VC_ret ?_
      refine VE_then_ret (?_)
      refine VE_ret1 (rfl) rfl ?_
      exact ⟨rfl, hS.below⟩
    · replace h9 := V.nf h9
      have hgt := h9
      obtain ⟨G, hG, hg, hGl⟩ := graph_of_rows hR (hgi.1 hgt)
      have hg12 : G.length ≤ 12 := by have := (hgi.1 hgt).2.1; omega
      have hle := hg.le
      have hpos := hg.pos
      have hG0 := hG
      obtain ⟨ga, gc, gb, go, rfl, hga, hrow⟩ := hG
      obtain rfl := hga (by omega)
      refine VC_skip ?_
      refine VE_then ?_
      refine VC_seq ?_
      refine VC_region ?_
      refine VL_val rfl rfl rfl (yd_move rfl) ?_
      refine VL_call rfl rfl rfl rfl T.call20 rfl (implDominators_ok (hS.graph hG0) hg) ?_
      rintro uL w ⟨L, hid, hR1⟩
      have hS := hS.call0 hR1
      have hidl := hid.len
      obtain ⟨ib, ic, rfl, -⟩ := row_form (hS.get 0 rfl) (.inr (by omega))
      refine VL_val rfl rfl rfl (yd_assign rfl) ?_
      refine VL_nil ?_
      refine VE_then ?_
      refine VC_seq ?_
      refine VC_region ?_
      refine VL_val rfl rfl rfl (yd_move rfl) ?_
      refine VL_val rfl rfl rfl (yd_len rfl Try.underlying29) ?_
      refine VL_val rfl rfl rfl (yd_move rfl) ?_
      refine VL_val rfl rfl rfl (yd_len rfl Try.underlying22) ?_
      refine VL_val rfl rfl rfl (yd_eql rfl rfl) ?_
      refine VL_val rfl rfl rfl (yd_move rfl) ?_
      refine VL_split 17 rfl (fun h17 => ?_) (fun h17 => ?_)
      · replace h17 := of_decide_eq_true h17
        refine VL_yes rfl rfl rfl rfl ?_
        refine VL_val rfl rfl rfl (yd_move rfl) ?_
        refine VL_yes rfl rfl rfl rfl ?_
        refine VL_val rfl rfl rfl (yd_move rfl) ?_
        refine VL_yes rfl rfl rfl rfl ?_
        refine VL_call rfl rfl rfl rfl T.call22 rfl (implDominatorsSimple_ok (hS.graph hG0) hg) ?_
        rintro u42 w ⟨L2, hid2, hR2⟩
        have hS := hS.call0 hR2
        have hil2 := hid2.len
        refine VL_yes rfl rfl rfl rfl ?_
        refine VL_call rfl rfl rfl rfl T.call21 rfl (same_ok (la := L.map nO) (lb := L2.map nO) (got_ints (hS.get 0 rfl)) (got_ints (hS.get 1 rfl)) (by simp; omega)) ?_
        rintro _ w ⟨rfl, hR4⟩
        have hS := hS.call0 hR4
        refine VL_val rfl rfl rfl (yd_pick_t rfl rfl) ?_
        refine VL_val rfl rfl rfl (yd_assign rfl) ?_
        refine VL_nil ?_
        refine VE_then ?_
        refine VC_ret ?_
        refine VE_ret1 (rfl) rfl ?_
        refine ⟨?_, hS.below⟩
        rw [decide_eq_true (by rw [hid.unique hid2])]
      · replace h17 := of_decide_eq_false h17
        exact absurd (by omega) h17

end Go.Proofs.Ytmoooaaiohplhac
