/- dominators, Dominators; the law on it. -/
import Derived.Test.YtmoooaaiohplhacWp
namespace Go.Proofs.Ytmoooaaiohplhac
open Go Go.V
set_option linter.unusedVariables false
set_option maxRecDepth 100000

theorem T.call37 : CallT Try.prog 37 := CallT.of Try.func37 (by kernel_rfl) (by kernel_rfl)
theorem T.call48 : CallT Try.prog 48 := CallT.of Try.func48 (by kernel_rfl) (by kernel_rfl)
theorem T.call56 : CallT Try.prog 56 := CallT.of Try.func56 (by kernel_rfl) (by kernel_rfl)
open Go.PL
theorem dominators_ok {w0 : World} {f : FRep} {G : Graph} (hF : (funcR f G).holds w0) (hP : PredsOk f G) (hg : Gd G) : Calls Try.prog 48 #[ptr f.bf] w0 (Ret fun u w' => ∃ b, ∃ L : List (Option Nat), u = .slice (some ⟨b, 0, none⟩) (G.length + 1) (G.length + 1) ∧ L.length = G.length + 1 ∧ IdomsOK G (L.drop 1) ∧ St w0 M0 [blk b 82 (L.map (pP f))] w') := by
  have hA := funcAt hF
  refine V_enter (N := 9) Try.func48 rfl Try.ntmps48 rfl ?_
  refine VC.sub (τ := [(0, _)]) ⟨rfl, trivial⟩ ?_
  refine VC_seq ?_
  refine VC_region ?_
  refine VL_val rfl rfl rfl (yd_assign rfl) ?_
  refine VL_nil ?_
  refine VE_then ?_
  refine VC_seq ?_
  refine VC_region ?_
  refine VL_val rfl rfl rfl (yd_move rfl) ?_
  refine VL_val rfl rfl rfl (yd_move rfl) ?_
  refine VL_val rfl rfl rfl (yd_nilc rfl) ?_
  refine VL_val rfl rfl rfl (yd_field rfl T.fld89_0) ?_
  refine VL_val rfl rfl rfl (yd_load rfl T.one82 hA.entry) ?_
  refine VL_call rfl rfl rfl rfl T.call56 rfl (dominatorsLT_ok hF hP hg) ?_
  rintro u w hS
  refine VL_val rfl rfl rfl (yd_assign rfl) ?_
  refine VL_nil ?_
  refine VE_then ?_
  refine VC_ret ?_
  refine VE_ret1 (rfl) rfl ?_
  exact hS

theorem Dominators_ok {w0 : World} {v : Value} {G : Graph} (hG : GraphAt w0 v G) (hg : Gd G) : Calls Try.prog 37 #[v] w0 (Ret fun u w' => ∃ L, IdomsOK G L ∧ St w0 M0 [row u 3 1 L.length ((L.map nO).map (Value.int .i64))] w') := by
  have hS := St.refl w0
  have hle := hg.le
  have hpos := hg.pos
  refine V_enter (N := 8) Try.func37 rfl Try.ntmps37 rfl ?_
  refine VC.sub (τ := [(0, _)]) ⟨rfl, trivial⟩ ?_
  refine VC_seq ?_
  refine VC_region ?_
  refine VL_val rfl rfl rfl (yd_assign rfl) ?_
  refine VL_nil ?_
  refine VE_then ?_
  refine VC_seq ?_
  refine VC_region ?_
  refine VL_val rfl rfl rfl (yd_move rfl) ?_
  refine VL_call rfl rfl rfl rfl T.call43 rfl (newFunc_ok hG hg) ?_
  rintro _ w ⟨f, rfl, hP, hR⟩
  have hS := hS.call0 hR
  refine VL_call rfl rfl rfl rfl T.call48 rfl (dominators_ok (hS.get 0 rfl) hP hg) ?_
  rintro _ w ⟨bi, L, rfl, hLl, hid, hR⟩
  have hS := hS.call0 hR
  have hil := hid.len
  refine VL_val rfl rfl rfl (yd_slice_lo (m := 1) rfl rfl Try.underlying72 T.sz82 (by omega) (by omega)) ?_
  refine VL_call rfl rfl rfl rfl T.call46 rfl (numbers_ok (L := L.drop 1) (hS.get 0 rfl) hg (ptrs_drop (hS.get 1 rfl) hLl) (by omega) (fun j hj i hi => hid.lt hg (by rw [← hil]; exact hj) hi)) ?_
  rintro u w hR
  have hS := hS.call0 hR
  refine VL_val rfl rfl rfl (yd_assign rfl) ?_
  refine VL_nil ?_
  refine VE_then ?_
  refine VC_ret ?_
  refine VE_ret1 (rfl) rfl ?_
  exact ⟨_, hid, hS.sub (List.Sublist.cons _ (List.Sublist.cons _ (List.Sublist.refl _)))⟩

theorem implDominators_ok {w0 : World} {v : Value} {G : Graph} (hG : GraphAt w0 v G) (hg : Gd G) : Calls Try.prog 20 #[v] w0 (Ret fun u w' => ∃ L, IdomsOK G L ∧ St w0 M0 [row u 3 1 L.length ((L.map nO).map (Value.int .i64))] w') := by
  refine V_enter (N := 5) Try.func20 rfl Try.ntmps20 rfl ?_
  refine VC.sub (τ := [(0, _)]) ⟨rfl, trivial⟩ ?_
  refine VC_seq ?_
  refine VC_region ?_
  refine VL_val rfl rfl rfl (yd_assign rfl) ?_
  refine VL_nil ?_
  refine VE_then ?_
  refine VC_seq ?_
  refine VC_region ?_
  refine VL_val rfl rfl rfl (yd_move rfl) ?_
  refine VL_call rfl rfl rfl rfl T.call37 rfl (Dominators_ok hG hg) ?_
  rintro u w hS
  refine VL_val rfl rfl rfl (yd_assign rfl) ?_
  refine VL_nil ?_
  refine VE_then ?_
  refine VC_ret ?_
  refine VE_ret1 (rfl) rfl ?_
  exact hS

end Go.Proofs.Ytmoooaaiohplhac
