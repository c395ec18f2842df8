/- dominators, Dominators; the law on it. -/
import Derived.Test.YtmoooaaiohplhaaWp
namespace Go.Proofs.Ytmoooaaiohplhaa
open Go Go.V
set_option linter.unusedVariables false
set_option maxRecDepth 100000

theorem T.call37 : CallT Try.prog 37 := CallT.of Try.func37 (by kernel_rfl) (by kernel_rfl)
theorem T.call49 : CallT Try.prog 49 := CallT.of Try.func49 (by kernel_rfl) (by kernel_rfl)
theorem T.call63 : CallT Try.prog 63 := CallT.of Try.func63 (by kernel_rfl) (by kernel_rfl)
theorem T.call77 : CallT Try.prog 77 := CallT.of Try.func77 (by kernel_rfl) (by kernel_rfl)
open Go.PL
theorem dominators_ok {w0 : World} {f : FRep} {G : Graph} (hF : (funcR f G).holds w0) (hP : PredsOk f G) (hg : Gd G) : Calls Try.prog 63 #[ptr f.bf] w0 (Ret fun u w' => ∃ b, ∃ L : List (Option Nat), u = .slice (some ⟨b, 0, none⟩) (G.length + 1) (G.length + 1) ∧ L.length = G.length + 1 ∧ IdomsOK G (L.drop 1) ∧ St w0 M0 [blk b 89 (L.map (pP f))] w') := by
  have hA := funcAt hF
  refine V_enter (N := 9) Try.func63 rfl Try.ntmps63 rfl ?_
  refine VC.sub (τ := [(0, _)]) ⟨rfl, trivial⟩ ?_
  refine VC_seq ?_
  refine VC_region ?_
  refine VL_val rfl rfl rfl (yd_assign rfl) ?_
  refine VL_nil ?_
  refine VE_then ?_
  refine VC_seq ?_
  refine VC_region ?_
  refine VL_val rfl rfl rfl (yd_move rfl) ?_
  refine VL_val rfl rfl rfl (yd_move rfl) ?_
  refine VL_val rfl rfl rfl (yd_nilc rfl) ?_
  refine VL_val rfl rfl rfl (yd_field rfl T.fld96_0) ?_
  refine VL_val rfl rfl rfl (yd_load rfl T.one89 hA.entry) ?_
  refine VL_call rfl rfl rfl rfl T.call77 rfl (dominatorsLT_ok hF hP hg) ?_
  rintro u w hS
  refine VL_val rfl rfl rfl (yd_assign rfl) ?_
  refine VL_nil ?_
  refine VE_then ?_
  refine VC_ret ?_
  refine VE_ret1 (rfl) rfl ?_
  exact hS

theorem Dominators_ok {w0 : World} {v : Value} {G : Graph} (hG : GraphAt w0 v G) (hg : Gd G) : Calls Try.prog 49 #[v] w0 (Ret fun u w' => ∃ L, IdomsOK G L ∧ St w0 M0 [row u 3 1 L.length ((L.map nO).map (Value.int .i64))] w') := by
  have hS := St.refl w0
  have hle := hg.le
  have hpos := hg.pos
  refine V_enter (N := 8) Try.func49 rfl Try.ntmps49 rfl ?_
  refine VC.sub (τ := [(0, _)]) ⟨rfl, trivial⟩ ?_
  refine VC_seq ?_
  refine VC_region ?_
  refine VL_val rfl rfl rfl (yd_assign rfl) ?_
  refine VL_nil ?_
  refine VE_then ?_
  refine VC_seq ?_
  refine VC_region ?_
  refine VL_val rfl rfl rfl (yd_move rfl) ?_
  refine VL_call rfl rfl rfl rfl T.call52 rfl (newFunc_ok hG hg) ?_
  rintro _ w ⟨f, rfl, hP, hR⟩
  have hS := hS.call0 hR
  refine VL_call rfl rfl rfl rfl T.call63 rfl (dominators_ok (hS.get 0 rfl) hP hg) ?_
  rintro _ w ⟨bi, L, rfl, hLl, hid, hR⟩
  have hS := hS.call0 hR
  have hil := hid.len
  refine VL_val rfl rfl rfl (yd_slice_lo (m := 1) rfl rfl Try.underlying71 T.sz89 (by omega) (by omega)) ?_
  refine VL_call rfl rfl rfl rfl T.call50 rfl (numbers_ok (L := L.drop 1) (hS.get 0 rfl) hg (ptrs_drop (hS.get 1 rfl) hLl) (by omega) (fun j hj i hi => hid.lt hg (by rw [← hil]; exact hj) hi)) ?_
  rintro u w hR
  have hS := hS.call0 hR
  refine VL_val rfl rfl rfl (yd_assign rfl) ?_
  refine VL_nil ?_
  refine VE_then ?_
  refine VC_ret ?_
  refine VE_ret1 (rfl) rfl ?_
  exact ⟨_, hid, hS.sub (List.Sublist.cons _ (List.Sublist.cons _ (List.Sublist.refl _)))⟩

theorem implDominators_ok {w0 : World} {v : Value} {G : Graph} (hG : GraphAt w0 v G) (hg : Gd G) : Calls Try.prog 37 #[v] w0 (Ret fun u w' => ∃ L, IdomsOK G L ∧ St w0 M0 [row u 3 1 L.length ((L.map nO).map (Value.int .i64))] w') := by
  refine V_enter (N := 5) Try.func37 rfl Try.ntmps37 rfl ?_
  refine VC.sub (τ := [(0, _)]) ⟨rfl, trivial⟩ ?_
  refine VC_seq ?_
  refine VC_region ?_
  refine VL_val rfl rfl rfl (yd_assign rfl) ?_
  refine VL_nil ?_
  refine VE_then ?_
  refine VC_seq ?_
  refine VC_region ?_
  refine VL_val rfl rfl rfl (yd_move rfl) ?_
  refine VL_call rfl rfl rfl rfl T.call49 rfl (Dominators_ok hG hg) ?_
  rintro u w hS
  refine VL_val rfl rfl rfl (yd_assign rfl) ?_
  refine VL_nil ?_
  refine VE_then ?_
  refine VC_ret ?_
  refine VE_ret1 (rfl) rfl ?_
  exact hS

theorem fnDominators_calls {w0 : World} {v : Value} {G0 : List (List Int)} (hR : RowsAt w0 v G0) : Calls Try.prog 13 #[v] w0 (Ret fun u w' => u = .bool true ∧ RowKit.Below w0.heap.size w0 w') := by
  have hS := St.refl w0
  refine V_enter (N := 15) Try.func13 rfl Try.ntmps13 rfl ?_
  refine VC.sub (τ := [(0, _)]) ⟨rfl, trivial⟩ ?_
  refine VC_seq ?_
  refine VC_region ?_
  refine VL_val rfl rfl rfl (yd_assign rfl) ?_
  refine VL_nil ?_
  refine VE_then ?_
  refine VC_seq ?_
  refine VC_seq ?_
  refine VC_region ?_
  refine VL_val rfl rfl rfl (yd_move rfl) ?_
  refine VL_call rfl rfl rfl rfl T.call15 rfl (zzFits1_ok (hS.rows hR)) ?_
  rintro _ _ ⟨rfl, bz, rfl, hz⟩
  refine VL_val rfl rfl rfl (yd_not rfl) ?_
  refine VL_nil ?_
  refine VE_then ?_
  refine VC_cond rfl (fun h5 => ?_) (fun h5 => ?_)
  · replace h5 := V.nt h5
    refine VC_seq ?_
    refine VC_region ?_
    refine VL_val rfl rfl rfl (yd_assign rfl) ?_
    refine VL_nil ?_
    refine VE_then ?_
    refine VC_ret ?_
    refine VE_then_ret (?_)
    refine VE_ret1 (rfl) rfl ?_
    exact ⟨rfl, hS.below⟩
  · replace h5 := V.nf h5
    have hzt := h5
    refine VC_skip ?_
    refine VE_then ?_
    refine VC_seq ?_
    refine VC_seq ?_
    refine VC_region ?_
    refine VL_val rfl rfl rfl (yd_move rfl) ?_
    refine VL_call rfl rfl rfl rfl T.call16 rfl (good_ok (hS.rows hR) (hz hzt)) ?_
    rintro _ _ ⟨rfl, bg, rfl, hgi⟩
    refine VL_val rfl rfl rfl (yd_not rfl) ?_
    refine VL_nil ?_
    refine VE_then ?_
    refine VC_cond rfl (fun h8 => ?_) (fun h8 => ?_)
    · replace h8 := V.nt h8
      refine VC_seq ?_
      refine VC_region ?_
      refine VL_val rfl rfl rfl (yd_assign rfl) ?_
      refine VL_nil ?_
      refine VE_then ?_
      refine VC_ret ?_
      refine VE_then_ret (?_)
      refine VE_ret1 (rfl) rfl ?_
      exact ⟨rfl, hS.below⟩
    · replace h8 := V.nf h8
      have hgt := h8
      obtain ⟨G, hG, hg, -⟩ := graph_of_rows hR (hgi.1 hgt)
      have hle := hg.le
      have hpos := hg.pos
      have hG0 := hG
      obtain ⟨ga, gc, gb, go, rfl, hga, hrow⟩ := hG
      obtain rfl := hga (by omega)
      refine VC_skip ?_
      refine VE_then ?_
      refine VC_seq ?_
      refine VC_region ?_
      refine VL_val rfl rfl rfl (yd_move rfl) ?_
      refine VL_call rfl rfl rfl rfl T.call37 rfl (implDominators_ok (hS.graph hG0) hg) ?_
      rintro u10 w ⟨L, hid, hR1⟩
      have hS := hS.call0 hR1
      have hil := hid.len
      refine VL_val rfl rfl rfl (yd_move rfl) ?_
      refine VL_call rfl rfl rfl rfl T.call27 rfl (of_ok (hS.graph hG0) hg) ?_
      rintro _ w ⟨s, rfl, hok, hR2⟩
      have hS := hS.call0 hR2
      refine VL_call rfl rfl rfl rfl T.call33 rfl (idoms_ok (shapeAt (hS.graph hG0) hok (hS.get 1 rfl)) hg) ?_
      rintro u13 w ⟨L2, hid2, hR3⟩
      have hS := hS.call0 hR3
      have hil2 := hid2.len
      refine VL_call rfl rfl rfl rfl T.call21 rfl (same_ok (la := L.map nO) (lb := L2.map nO) (by have h := hS.get 0 rfl; exact ints_of_row (by rw [List.length_map]; exact h)) (by have h := hS.get 2 rfl; exact ints_of_row (by rw [List.length_map]; exact h)) (by simp; omega)) ?_
      rintro _ w ⟨rfl, hR4⟩
      have hS := hS.call0 hR4
      refine VL_val rfl rfl rfl (yd_assign rfl) ?_
      refine VL_nil ?_
      refine VE_then ?_
      refine VC_ret ?_
      refine VE_ret1 (rfl) rfl ?_
      refine ⟨?_, hS.below⟩
      rw [decide_eq_true (by rw [hid.unique hid2])]

end Go.Proofs.Ytmoooaaiohplhaa
