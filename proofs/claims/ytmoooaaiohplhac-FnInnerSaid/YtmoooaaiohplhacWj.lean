/- DominatorsSimple; the law on it. -/
import Derived.Test.YtmoooaaiohplhacWh
import Derived.Test.YtmoooaaiohplhacWi
namespace Go.Proofs.Ytmoooaaiohplhac
open Go Go.V
set_option linter.unusedVariables false
set_option maxRecDepth 100000

theorem T.call38 : CallT Try.prog 38 := CallT.of Try.func38 (by kernel_rfl) (by kernel_rfl)
theorem T.call49 : CallT Try.prog 49 := CallT.of Try.func49 (by kernel_rfl) (by kernel_rfl)

open Go.PL
theorem get!_drop1 {α : Type} [Inhabited α] {l : List α} {j : Nat} (h : j + 1 < l.length) : (l.drop 1)[j]! = l[j + 1]! := by
  have h2 : j < (l.drop 1).length := by simp; omega
  rw [getElem!_pos _ j h2, getElem!_pos _ (j + 1) h, List.getElem_drop]; congr 1; omega
theorem ptrs_drop {w : World} {f : FRep} {L : List (Option Nat)} {b n : Nat} {t : TypeId} (h : (blk b t (L.map (pP f))).holds w) (hl : L.length = n + 1) : PtrsAt w (.slice (some ⟨b, 0 + 1 * 1, none⟩) (n + 1 - 1) (n + 1 - 1)) f (L.drop 1) := by
  refine ⟨_, _, b, 0 + 1 * 1, by rw [List.length_drop, hl], fun _ => rfl, fun j hj => ?_⟩
  have hj' : j + 1 < L.length := by simp at hj; omega
  rw [get!_drop1 hj', ← pP_eq, show 0 + 1 * 1 + j = j + 1 by omega]
  exact blk_cellM h hj'

theorem DominatorsSimple_ok {w0 : World} {v : Value} {G : Graph} (hG : GraphAt w0 v G) (hg : Gd G) : Calls Try.prog 38 #[v] w0 (Ret fun u w' => ∃ L, IdomsOK G L ∧ St w0 M0 [row u 3 1 L.length ((L.map nO).map (Value.int .i64))] w') := by
  have hS := St.refl w0
  have hle := hg.le
  have hpos := hg.pos
  refine V_enter (N := 8) Try.func38 rfl Try.ntmps38 rfl ?_
  refine VC.sub (τ := [(0, _)]) ⟨rfl, trivial⟩ ?_
  refine VC_seq ?_
  refine VC_region ?_
  refine VL_val rfl rfl rfl (yd_assign rfl) ?_
  refine VL_nil ?_
  refine VE_then ?_
  refine VC_seq ?_
  refine VC_region ?_
  refine VL_val rfl rfl rfl (yd_move rfl) ?_
  refine VL_call rfl rfl rfl rfl T.call43 rfl (newFunc_ok hG hg) ?_
  rintro _ w ⟨f, rfl, hP, hR⟩
  have hS := hS.call0 hR
  refine VL_call rfl rfl rfl rfl T.call49 rfl (dominatorsSimple_ok (hS.get 0 rfl) hP hg) ?_
  rintro _ w ⟨bi, L, rfl, hLl, hid, hR⟩
  have hS := hS.call0 hR
  have hil := hid.len
  refine VL_val rfl rfl rfl (yd_slice_lo (m := 1) rfl rfl Try.underlying72 T.sz82 (by omega) (by omega)) ?_
  refine VL_call rfl rfl rfl rfl T.call46 rfl (numbers_ok (L := L.drop 1) (hS.get 0 rfl) hg (ptrs_drop (hS.get 1 rfl) hLl) (by omega) (fun j hj i hi => hid.lt hg (by rw [← hil]; exact hj) hi)) ?_
  rintro u w hR
  have hS := hS.call0 hR
  refine VL_val rfl rfl rfl (yd_assign rfl) ?_
  refine VL_nil ?_
  refine VE_then ?_
  refine VC_ret ?_
  refine VE_ret1 (rfl) rfl ?_
  exact ⟨_, hid, hS.sub (List.Sublist.cons _ (List.Sublist.cons _ (List.Sublist.refl _)))⟩

theorem implDominatorsSimple_ok {w0 : World} {v : Value} {G : Graph} (hG : GraphAt w0 v G) (hg : Gd G) : Calls Try.prog 22 #[v] w0 (Ret fun u w' => ∃ L, IdomsOK G L ∧ St w0 M0 [row u 3 1 L.length ((L.map nO).map (Value.int .i64))] w') := by
  refine V_enter (N := 5) Try.func22 rfl Try.ntmps22 rfl ?_
  refine VC.sub (τ := [(0, _)]) ⟨rfl, trivial⟩ ?_
  refine VC_seq ?_
  refine VC_region ?_
  refine VL_val rfl rfl rfl (yd_assign rfl) ?_
  refine VL_nil ?_
  refine VE_then ?_
  refine VC_seq ?_
  refine VC_region ?_
  refine VL_val rfl rfl rfl (yd_move rfl) ?_
  refine VL_call rfl rfl rfl rfl T.call38 rfl (DominatorsSimple_ok hG hg) ?_
  rintro u w hS
  refine VL_val rfl rfl rfl (yd_assign rfl) ?_
  refine VL_nil ?_
  refine VE_then ?_
  refine VC_ret ?_
  refine VE_ret1 (rfl) rfl ?_
  exact hS

end Go.Proofs.Ytmoooaaiohplhac
