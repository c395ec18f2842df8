/- The law on circles without a way back. -/
import Derived.Test.YtmoooaaiohplhacYc
namespace Go.Proofs.Ytmoooaaiohplhac
open Go Go.V
set_option linter.unusedVariables false
set_option maxRecDepth 100000

theorem T.call12 : CallT Try.prog 12 := CallT.of Try.func12 (by kernel_rfl) (by kernel_rfl)
theorem T.call24 : CallT Try.prog 24 := CallT.of Try.func24 (by kernel_rfl) (by kernel_rfl)
open Go.PL
theorem fnIrreducible_calls {w0 : World} {v : Value} {G0 : List (List Int)} (hR : RowsAt w0 v G0) : Calls Try.prog 11 #[v] w0 (Ret fun u w' => u = .bool true ∧ RowKit.Below w0.heap.size w0 w') := by
  have hS := St.refl w0
  refine V_enter (N := 38) Try.func11 rfl Try.ntmps11 rfl ?_
  refine VC.sub (τ := [(0, _)]) ⟨rfl, trivial⟩ ?_
  refine VC_seq ?_
  refine VC_region ?_
  refine VL_val rfl rfl rfl (yd_assign rfl) ?_
  refine VL_nil ?_
  refine VE_then ?_
  refine VC_seq ?_
  refine VC_seq ?_
  refine VC_region ?_
  refine VL_val rfl rfl rfl (yd_move rfl) ?_
  refine VL_call rfl rfl rfl rfl T.call12 rfl (zzFits1_ok (hS.rows hR)) ?_
  rintro _ _ ⟨rfl, bz, rfl, hz⟩
  refine VL_val rfl rfl rfl (yd_not rfl) ?_
  refine VL_nil ?_
  refine VE_then ?_
  refine VC_cond rfl (fun h10 => ?_) (fun h10 => ?_)
  · replace h10 := V.nt h10
    refine VC_seq ?_
    refine VC_region ?_
    refine VL_val rfl rfl rfl (yd_assign rfl) ?_
    refine VL_nil ?_
    refine VE_then ?_
    refine VC_ret ?_
    refine VE_then_ret (?_)
    refine VE_ret1 (rfl) rfl ?_
    exact ⟨rfl, hS.below⟩
  · replace h10 := V.nf h10
    have hzt := h10
    refine VC_skip ?_
    refine VE_then ?_
    refine VC_seq ?_
    refine VC_seq ?_
    refine VC_region ?_
    refine VL_val rfl rfl rfl (yd_move rfl) ?_
    refine VL_call rfl rfl rfl rfl T.call13 rfl (good_ok (hS.rows hR) (hz hzt)) ?_
    rintro _ _ ⟨rfl, bg, rfl, hgi⟩
    refine VL_val rfl rfl rfl (yd_not rfl) ?_
    refine VL_nil ?_
    refine VE_then ?_
    refine VC_cond rfl (fun h13 => ?_) (fun h13 => ?_)
    · replace h13 := V.nt h13
      refine VC_seq ?_
      refine VC_region ?_
      refine VL_val rfl rfl rfl (yd_assign rfl) ?_
      refine VL_nil ?_
      refine VE_then ?_
      refine VC_ret ?_
      refine VE_then_ret (?_)
      refine VE_ret1 (rfl) rfl ?_
      exact ⟨rfl, hS.below⟩
    · replace h13 := V.nf h13
      have hgt := h13
      obtain ⟨G, hG, hg, hGl⟩ := graph_of_rows hR (hgi.1 hgt)
      have hg12 : G.length ≤ 12 := by have := (hgi.1 hgt).2.1; omega
      have hle := hg.le
      have hpos := hg.pos
      have hG0 := hG
      obtain ⟨ga, gc, gb, go, rfl, hga, hrow⟩ := hG
      obtain rfl := hga (by omega)
      refine VC_skip ?_
      refine VE_then ?_
      refine VC_seq ?_
      refine VC_region ?_
      refine VL_val rfl rfl rfl (yd_move rfl) ?_
      refine VL_call rfl rfl rfl rfl T.call31 rfl (of_ok (hS.graph hG0) hg) ?_
      rintro _ w ⟨s, rfl, hok, hR2⟩
      have hS := hS.call0 hR2
      refine VL_alloc rfl rfl rfl rfl T.e37 hS ?_
      clear hS; intro b3 w hS
      refine VL_storeN (cs := [.slice (some ⟨gb, go, none⟩) G.length gc, s.live G, s.dom G]) rfl rfl rfl rfl rfl T.agg37 (by intro u hu; simp at hu; rcases hu with rfl | rfl | rfl <;> rfl) hS 1 rfl (by simp [Value.cells]) ?_
      clear hS; intro w hS
      have hS : St w0 M0 [shapeR s G, blk b3 37 [.slice (some ⟨gb, go, none⟩) G.length gc, s.live G, s.dom G]] w := hS
      refine VL_nil ?_
      refine VE_then ?_
      refine VC_seq ?_
      refine VC_seq ?_
      refine VC_region ?_
      refine VL_val rfl rfl rfl (yd_loadn [.slice (some ⟨gb, go, none⟩) G.length gc, s.live G, s.dom G] rfl T.agg37 (fun j u hj => by rw [Nat.zero_add]; exact blk_cell (hS.get 1 rfl) hj)) ?_
      refine VL_call rfl rfl rfl rfl T.call32 rfl (shWhole_ok (shapeAt (hS.graph hG0) hok (hS.get 0 rfl)) hg) ?_
      rintro _ w ⟨bw, rfl, hbw, hR3⟩
      have hS := hS.call0 hR3
      refine VL_val rfl rfl rfl (yd_not rfl) ?_
      refine VL_nil ?_
      refine VE_then ?_
      refine VC_cond rfl (fun h18 => ?_) (fun h18 => ?_)
      · replace h18 := V.nt h18
        refine VC_seq ?_
        refine VC_region ?_
        refine VL_val rfl rfl rfl (yd_assign rfl) ?_
        refine VL_nil ?_
        refine VE_then ?_
        refine VC_ret ?_
        refine VE_then_ret (?_)
        refine VE_ret1 (rfl) rfl ?_
        exact ⟨rfl, hS.below⟩
      · replace h18 := V.nf h18
        have hw := hbw.1 h18
        refine VC_skip ?_
        refine VE_then ?_
        refine VC_seq ?_
        refine VC_region ?_
        refine VL_val rfl rfl rfl (yd_move rfl) ?_
        refine VL_call rfl rfl rfl rfl T.call24 rfl (implLoops_ok (hS.graph hG0) hg hw) ?_
        rintro _ w ⟨hs, s2, B, irr, v1, v2, v3, rfl, hN, hR3⟩
        have hS := hS.call0 hR3
        obtain ⟨ib, ic, rfl, -⟩ := row_form (hS.get 3 rfl) (.inr (by omega))
        refine VL_val rfl rfl rfl (yd_move rfl) ?_
        refine VL_val rfl rfl rfl (yd_extract rfl rfl) ?_
        refine VL_val rfl rfl rfl (yd_extract rfl rfl) ?_
        refine VL_val rfl rfl rfl (yd_extract rfl rfl) ?_
        refine VL_val rfl rfl rfl (yd_extract rfl rfl) ?_
        refine VL_val rfl rfl rfl (yd_assign rfl) ?_
        refine VL_val rfl rfl rfl (yd_assign rfl) ?_
        refine VL_val rfl rfl rfl (yd_assign rfl) ?_
        refine VL_val rfl rfl rfl (yd_assign rfl) ?_
        refine VL_nil ?_
        refine VE_then ?_
        refine VC_seq ?_
        refine VC_region ?_
        refine VL_val rfl rfl rfl (yd_move rfl) ?_
        refine VL_val rfl rfl rfl (yd_len rfl Try.underlying29) ?_
        refine VL_val rfl rfl rfl (yd_move rfl) ?_
        refine VL_val rfl rfl rfl (yd_len rfl Try.underlying22) ?_
        refine VL_val rfl rfl rfl (yd_eql rfl rfl) ?_
        refine VL_val rfl rfl rfl (yd_move rfl) ?_
        refine VL_split 31 rfl (fun h31 => ?_) (fun h31 => ?_)
        · replace h31 := of_decide_eq_true h31
          refine VL_yes rfl rfl rfl rfl ?_
          refine VL_val rfl rfl rfl (yd_move rfl) ?_
          refine VL_yes rfl rfl rfl rfl ?_
          refine VL_val rfl rfl rfl (yd_loadn [.slice (some ⟨gb, go, none⟩) G.length gc, s.live G, s.dom G] rfl T.agg37 (fun j u hj => by rw [Nat.zero_add]; exact blk_cell (hS.get 1 rfl) hj)) ?_
          refine VL_yes rfl rfl rfl rfl ?_
          refine VL_call rfl rfl rfl rfl T.call33 rfl (reducible_ok (shapeAt (hS.graph hG0) hok (hS.get 0 rfl)) hg hw) ?_
          rintro _ w ⟨br, rfl, hbr, hR4⟩
          have hS := hS.call0 hR4
          refine VL_yes rfl rfl rfl rfl ?_
          refine VL_val rfl rfl rfl (yd_not rfl) ?_
          refine VL_yes rfl rfl rfl rfl ?_
          refine VL_val rfl rfl rfl (yd_eqlb rfl rfl Try.underlying4) ?_
          refine VL_val rfl rfl rfl (yd_pick_t rfl rfl) ?_
          refine VL_val rfl rfl rfl (yd_assign rfl) ?_
          refine VL_nil ?_
          refine VE_then ?_
          refine VC_ret ?_
          refine VE_ret1 (rfl) rfl ?_
          refine ⟨congrArg Value.bool (decide_eq_true ?_), hS.below⟩
          have h1 := hN.irr
          cases irr with
          | true => cases br with
            | true => exact absurd (hbr.1 rfl) (h1.1 rfl)
            | false => rfl
          | false => cases br with
            | true => rfl
            | false =>
              have h2 : ¬ Red G := fun h => by have := hbr.2 h; cases this
              have := h1.2 h2; cases this
        · replace h31 := of_decide_eq_false h31
          exact absurd (by omega) h31

end Go.Proofs.Ytmoooaaiohplhac
