/- Laws on ancestors. -/
import Derived.Test.YtmoooaaiohplhabWx
namespace Go.Proofs.Ytmoooaaiohplhab
open Go Go.V
set_option linter.unusedVariables false
set_option maxRecDepth 100000

theorem T.call32 : CallT Try.prog 32 := CallT.of Try.func32 (by kernel_rfl) (by kernel_rfl)
theorem T.call33 : CallT Try.prog 33 := CallT.of Try.func33 (by kernel_rfl) (by kernel_rfl)
open Go.PL
theorem fnAncestor_calls {w0 : World} {v : Value} {G0 : List (List Int)} {x y : Int} (hR : RowsAt w0 v G0) : Calls Try.prog 7 #[v, .int .i64 x, .int .i64 y] w0 (Ret fun u w' => u = .bool true ∧ RowKit.Below w0.heap.size w0 w') := by
  have hS := St.refl w0
  refine V_enter (N := 62) Try.func7 rfl Try.ntmps7 rfl ?_
  refine VC.sub (τ := [(0, _), (1, _), (2, _)]) ⟨rfl, rfl, rfl, trivial⟩ ?_
  refine VC_seq ?_
  refine VC_region ?_
  refine VL_val rfl rfl rfl (yd_assign rfl) ?_
  refine VL_nil ?_
  refine VE_then ?_
  refine VC_seq ?_
  refine VC_seq ?_
  refine VC_region ?_
  refine VL_val rfl rfl rfl (yd_move rfl) ?_
  refine VL_call rfl rfl rfl rfl T.call15 rfl (zzFits1_ok (hS.rows hR)) ?_
  rintro _ _ ⟨rfl, bz, rfl, hz⟩
  refine VL_val rfl rfl rfl (yd_not rfl) ?_
  refine VL_nil ?_
  refine VE_then ?_
  refine VC_cond rfl (fun h10 => ?_) (fun h10 => ?_)
  · replace h10 := V.nt h10
    refine VC_seq ?_
    refine VC_region ?_
    refine VL_val rfl rfl rfl (yd_assign rfl) ?_
    refine VL_nil ?_
    refine VE_then ?_
    refine VC_ret ?_
    refine VE_then_ret (?_)
    refine VE_ret1 (rfl) rfl ?_
    exact ⟨rfl, hS.below⟩
  · replace h10 := V.nf h10
    have hzt := h10
    refine VC_skip ?_
    refine VE_then ?_
    refine VC_seq ?_
    refine VC_seq ?_
    refine VC_region ?_
    refine VL_val rfl rfl rfl (yd_move rfl) ?_
    refine VL_call rfl rfl rfl rfl T.call22 rfl (good_ok (hS.rows hR) (hz hzt)) ?_
    rintro _ _ ⟨rfl, bg, rfl, hgi⟩
    refine VL_val rfl rfl rfl (yd_not rfl) ?_
    refine VL_val rfl rfl rfl (yd_move rfl) ?_
    refine VL_split 14 rfl (fun h14 => ?_) (fun h14 => ?_)
    · replace h14 := V.nt h14
      refine VL_no rfl rfl rfl rfl rfl rfl rfl ?_
      refine VL_no rfl rfl rfl rfl rfl rfl rfl ?_
      refine VL_no rfl rfl rfl rfl rfl rfl rfl ?_
      refine VL_no rfl rfl rfl rfl rfl rfl rfl ?_
      refine VL_val rfl rfl rfl (yd_pick_t rfl rfl) ?_
      refine VL_val rfl rfl rfl (yd_move rfl) ?_
      refine VL_no rfl rfl rfl rfl rfl rfl rfl ?_
      refine VL_no rfl rfl rfl rfl rfl rfl rfl ?_
      refine VL_no rfl rfl rfl rfl rfl rfl rfl ?_
      refine VL_no rfl rfl rfl rfl rfl rfl rfl ?_
      refine VL_val rfl rfl rfl (yd_pick_t rfl rfl) ?_
      refine VL_nil ?_
      refine VE_then ?_
      refine VC_cond_t rfl ?_
      refine VC_seq ?_
      refine VC_region ?_
      refine VL_val rfl rfl rfl (yd_assign rfl) ?_
      refine VL_nil ?_
      refine VE_then ?_
      refine VC_ret ?_
      refine VE_then_ret (?_)
      refine VE_ret1 (rfl) rfl ?_
      exact ⟨rfl, hS.below⟩
    · replace h14 := V.nf h14
      have hgt := h14
      obtain ⟨G, hG, hg, hGl⟩ := graph_of_rows hR (hgi.1 hgt)
      have hg12 : G.length ≤ 12 := by have := (hgi.1 hgt).2.1; omega
      have hle := hg.le
      have hpos := hg.pos
      have hG0 := hG
      obtain ⟨ga, gc, gb, go, rfl, hga, hrow⟩ := hG
      obtain rfl := hga (by omega)
      refine VL_yes rfl rfl rfl rfl ?_
      refine VL_val rfl rfl rfl (yd_move rfl) ?_
      refine VL_yes rfl rfl rfl rfl ?_
      refine VL_val rfl rfl rfl (yd_move rfl) ?_
      refine VL_yes rfl rfl rfl rfl ?_
      refine VL_call rfl rfl rfl rfl T.call23 rfl (block_ok (hS.graph hG0)) ?_
      rintro _ _ ⟨rfl, bx, rfl, hbx⟩
      refine VL_yes rfl rfl rfl rfl ?_
      refine VL_val rfl rfl rfl (yd_not rfl) ?_
      refine VL_val rfl rfl rfl (yd_pick_f rfl rfl) ?_
      refine VL_val rfl rfl rfl (yd_move rfl) ?_
      refine VL_split 20 rfl (fun h20 => ?_) (fun h20 => ?_)
      · replace h20 := V.nt h20
        refine VL_no rfl rfl rfl rfl rfl rfl rfl ?_
        refine VL_no rfl rfl rfl rfl rfl rfl rfl ?_
        refine VL_no rfl rfl rfl rfl rfl rfl rfl ?_
        refine VL_no rfl rfl rfl rfl rfl rfl rfl ?_
        refine VL_val rfl rfl rfl (yd_pick_t rfl rfl) ?_
        refine VL_nil ?_
        refine VE_then ?_
        refine VC_cond_t rfl ?_
        refine VC_seq ?_
        refine VC_region ?_
        refine VL_val rfl rfl rfl (yd_assign rfl) ?_
        refine VL_nil ?_
        refine VE_then ?_
        refine VC_ret ?_
        refine VE_then_ret (?_)
        refine VE_ret1 (rfl) rfl ?_
        exact ⟨rfl, hS.below⟩
      · replace h20 := V.nf h20
        have hx := hbx.1 h20
        obtain ⟨xn, rfl⟩ : ∃ xn : Nat, x = xn := ⟨x.toNat, by omega⟩
        have hxn : xn < G.length := by omega
        refine VL_yes rfl rfl rfl rfl ?_
        refine VL_val rfl rfl rfl (yd_move rfl) ?_
        refine VL_yes rfl rfl rfl rfl ?_
        refine VL_val rfl rfl rfl (yd_move rfl) ?_
        refine VL_yes rfl rfl rfl rfl ?_
        refine VL_call rfl rfl rfl rfl T.call23 rfl (block_ok (hS.graph hG0)) ?_
        rintro _ _ ⟨rfl, bo, rfl, hby⟩
        refine VL_yes rfl rfl rfl rfl ?_
        refine VL_val rfl rfl rfl (yd_not rfl) ?_
        refine VL_val rfl rfl rfl (yd_pick_f rfl rfl) ?_
        refine VL_nil ?_
        refine VE_then ?_
        refine VC_cond rfl (fun h25 => ?_) (fun h25 => ?_)
        · replace h25 := V.nt h25
          refine VC_seq ?_
          refine VC_region ?_
          refine VL_val rfl rfl rfl (yd_assign rfl) ?_
          refine VL_nil ?_
          refine VE_then ?_
          refine VC_ret ?_
          refine VE_then_ret (?_)
          refine VE_ret1 (rfl) rfl ?_
          exact ⟨rfl, hS.below⟩
        · replace h25 := V.nf h25
          have hy := hby.1 h25
          obtain ⟨yn, rfl⟩ : ∃ yn : Nat, y = yn := ⟨y.toNat, by omega⟩
          have hyn : yn < G.length := by omega
          refine VC_skip ?_
          refine VE_then ?_
          refine VC_seq ?_
          refine VC_region ?_
          refine VL_val rfl rfl rfl (yd_move rfl) ?_
          refine VL_call rfl rfl rfl rfl T.call30 rfl (of_ok (hS.graph hG0) hg) ?_
          rintro _ w ⟨s, rfl, hok, hR2⟩
          have hS := hS.call0 hR2
          refine VL_alloc rfl rfl rfl rfl T.e27 hS ?_
          clear hS; intro b7 w hS
          refine VL_storeN (cs := [.slice (some ⟨gb, go, none⟩) G.length gc, s.live G, s.dom G]) rfl rfl rfl rfl rfl T.agg27 (by intro u hu; simp at hu; rcases hu with rfl | rfl | rfl <;> rfl) hS 1 rfl (by simp [Value.cells]) ?_
          clear hS; intro w hS
          have hS : St w0 M0 [shapeR s G, blk b7 27 [.slice (some ⟨gb, go, none⟩) G.length gc, s.live G, s.dom G]] w := hS
          refine VL_nil ?_
          refine VE_then ?_
          refine VC_seq ?_
          refine VC_region ?_
          refine VL_val rfl rfl rfl (yd_field rfl T.fld27_1) ?_
          refine VL_val rfl rfl rfl (yd_load rfl T.one24 (blk_cell (hS.get 1 rfl) rfl)) ?_
          refine VL_val rfl rfl rfl (yd_move rfl) ?_
          refine VL_val rfl rfl rfl (yd_index0 rfl rfl Try.underlying24 T.sz4 (by omega)) ?_
          refine VL_val rfl rfl rfl (yd_load rfl T.one4 ((shapeAt (hS.graph hG0) hok (hS.get 0 rfl)).live xn hxn)) ?_
          refine VL_val rfl rfl rfl (yd_not rfl) ?_
          refine VL_val rfl rfl rfl (yd_move rfl) ?_
          refine VL_split 34 rfl (fun h34 => ?_) (fun h34 => ?_)
          · replace h34 := V.nt h34
            refine VL_no rfl rfl rfl rfl rfl rfl rfl ?_
            refine VL_no rfl rfl rfl rfl rfl rfl rfl ?_
            refine VL_no rfl rfl rfl rfl rfl rfl rfl ?_
            refine VL_no rfl rfl rfl rfl rfl rfl rfl ?_
            refine VL_no rfl rfl rfl rfl rfl rfl rfl ?_
            refine VL_no rfl rfl rfl rfl rfl rfl rfl ?_
            refine VL_val rfl rfl rfl (yd_pick_t rfl rfl) ?_
            refine VL_val rfl rfl rfl (yd_move rfl) ?_
            refine VL_no rfl rfl rfl rfl rfl rfl rfl ?_
            refine VL_no rfl rfl rfl rfl rfl rfl rfl ?_
            refine VL_no rfl rfl rfl rfl rfl rfl rfl ?_
            refine VL_no rfl rfl rfl rfl rfl rfl rfl ?_
            refine VL_no rfl rfl rfl rfl rfl rfl rfl ?_
            refine VL_no rfl rfl rfl rfl rfl rfl rfl ?_
            refine VL_no rfl rfl rfl rfl rfl rfl rfl ?_
            refine VL_no rfl rfl rfl rfl rfl rfl rfl ?_
            refine VL_noU rfl rfl rfl rfl rfl rfl ?_
            refine VL_noU rfl rfl rfl rfl rfl rfl ?_
            refine VL_noU rfl rfl rfl rfl rfl rfl ?_
            refine VL_noU rfl rfl rfl rfl rfl rfl ?_
            refine VL_noU rfl rfl rfl rfl rfl rfl ?_
            refine VL_noU rfl rfl rfl rfl rfl rfl ?_
            refine VL_noU rfl rfl rfl rfl rfl rfl ?_
            refine VL_noU rfl rfl rfl rfl rfl rfl ?_
            refine VL_no rfl rfl rfl rfl rfl rfl rfl ?_
            refine VL_no rfl rfl rfl rfl rfl rfl rfl ?_
            refine VL_val rfl rfl rfl (yd_pick_t rfl rfl) ?_
            refine VL_val rfl rfl rfl (yd_assign rfl) ?_
            refine VL_nil ?_
            refine VE_then ?_
            refine VC_ret ?_
            refine VE_ret1 (rfl) rfl ?_
            first
            | exact ⟨rfl, hS.below⟩
            | (refine ⟨congrArg Value.bool (decide_eq_true ?_), hS.below⟩; rw [Bool.eq_iff_iff, hb, hok.dm xn yn]; exact ⟨fun h => h.2, fun h => ⟨by omega, h⟩⟩)
            | (refine ⟨congrArg Value.bool (decide_eq_true ?_), hS.below⟩; rw [Bool.eq_iff_iff, hb]; exact ⟨fun h => absurd (by omega) h.1, fun h => (by cases h)⟩)
          · replace h34 := V.nf h34
            have hlx := (hok.lv xn).1 h34
            have hxm := ((postL_ok hg).mem xn).2 hlx
            refine VL_yes rfl rfl rfl rfl ?_
            refine VL_val rfl rfl rfl (yd_field rfl T.fld27_1) ?_
            refine VL_yes rfl rfl rfl rfl ?_
            refine VL_val rfl rfl rfl (yd_load rfl T.one24 (blk_cell (hS.get 1 rfl) rfl)) ?_
            refine VL_yes rfl rfl rfl rfl ?_
            refine VL_val rfl rfl rfl (yd_move rfl) ?_
            refine VL_yes rfl rfl rfl rfl ?_
            refine VL_val rfl rfl rfl (yd_index0 rfl rfl Try.underlying24 T.sz4 (by omega)) ?_
            refine VL_yes rfl rfl rfl rfl ?_
            refine VL_val rfl rfl rfl (yd_load rfl T.one4 ((shapeAt (hS.graph hG0) hok (hS.get 0 rfl)).live yn hyn)) ?_
            refine VL_yes rfl rfl rfl rfl ?_
            refine VL_val rfl rfl rfl (yd_not rfl) ?_
            refine VL_val rfl rfl rfl (yd_pick_f rfl rfl) ?_
            refine VL_val rfl rfl rfl (yd_move rfl) ?_
            refine VL_split 42 rfl (fun h42 => ?_) (fun h42 => ?_)
            · replace h42 := V.nt h42
              refine VL_no rfl rfl rfl rfl rfl rfl rfl ?_
              refine VL_no rfl rfl rfl rfl rfl rfl rfl ?_
              refine VL_no rfl rfl rfl rfl rfl rfl rfl ?_
              refine VL_no rfl rfl rfl rfl rfl rfl rfl ?_
              refine VL_no rfl rfl rfl rfl rfl rfl rfl ?_
              refine VL_no rfl rfl rfl rfl rfl rfl rfl ?_
              refine VL_no rfl rfl rfl rfl rfl rfl rfl ?_
              refine VL_no rfl rfl rfl rfl rfl rfl rfl ?_
              refine VL_noU rfl rfl rfl rfl rfl rfl ?_
              refine VL_noU rfl rfl rfl rfl rfl rfl ?_
              refine VL_noU rfl rfl rfl rfl rfl rfl ?_
              refine VL_noU rfl rfl rfl rfl rfl rfl ?_
              refine VL_noU rfl rfl rfl rfl rfl rfl ?_
              refine VL_noU rfl rfl rfl rfl rfl rfl ?_
              refine VL_noU rfl rfl rfl rfl rfl rfl ?_
              refine VL_noU rfl rfl rfl rfl rfl rfl ?_
              refine VL_no rfl rfl rfl rfl rfl rfl rfl ?_
              refine VL_no rfl rfl rfl rfl rfl rfl rfl ?_
              refine VL_val rfl rfl rfl (yd_pick_t rfl rfl) ?_
              refine VL_val rfl rfl rfl (yd_assign rfl) ?_
              refine VL_nil ?_
              refine VE_then ?_
              refine VC_ret ?_
              refine VE_ret1 (rfl) rfl ?_
              first
              | exact ⟨rfl, hS.below⟩
              | (refine ⟨congrArg Value.bool (decide_eq_true ?_), hS.below⟩; rw [Bool.eq_iff_iff, hb, hok.dm xn yn]; exact ⟨fun h => h.2, fun h => ⟨by omega, h⟩⟩)
              | (refine ⟨congrArg Value.bool (decide_eq_true ?_), hS.below⟩; rw [Bool.eq_iff_iff, hb]; exact ⟨fun h => absurd (by omega) h.1, fun h => (by cases h)⟩)
            · replace h42 := V.nf h42
              have hly := (hok.lv yn).1 h42
              have hym := ((postL_ok hg).mem yn).2 hly
              refine VL_yes rfl rfl rfl rfl ?_
              refine VL_val rfl rfl rfl (yd_move rfl) ?_
              refine VL_yes rfl rfl rfl rfl ?_
              refine VL_val rfl rfl rfl (yd_move rfl) ?_
              refine VL_yes rfl rfl rfl rfl ?_
              refine VL_val rfl rfl rfl (yd_move rfl) ?_
              refine VL_yes rfl rfl rfl rfl ?_
              refine VL_call rfl rfl rfl rfl T.call32 rfl (implIsAncestor_ok (hS.graph hG0) hg hxn hyn hlx hly) ?_
              rintro _ w ⟨b, rfl, hb, hR3⟩
              have hS := hS.call0 hR3
              refine VL_yes rfl rfl rfl rfl ?_
              refine VL_val rfl rfl rfl (yd_move rfl) ?_
              refine VL_yes rfl rfl rfl rfl ?_
              refine VL_val rfl rfl rfl (yd_move rfl) ?_
              refine VL_yes rfl rfl rfl rfl ?_
              refine VL_val rfl rfl rfl (yd_neq rfl rfl) ?_
              refine VL_yes rfl rfl rfl rfl ?_
              refine VL_val rfl rfl rfl (yd_move rfl) ?_
              refine VL_split 50 rfl (fun h50 => ?_) (fun h50 => ?_)
              · replace h50 := of_decide_eq_true h50
                refine VL_yes rfl rfl rfl rfl ?_
                refine VL_val rfl rfl rfl (yd_field rfl T.fld27_2) ?_
                refine VL_yes rfl rfl rfl rfl ?_
                refine VL_val rfl rfl rfl (yd_load rfl T.one25 (blk_cell (hS.get 1 rfl) rfl)) ?_
                refine VL_yes rfl rfl rfl rfl ?_
                refine VL_val rfl rfl rfl (yd_move rfl) ?_
                refine VL_yes rfl rfl rfl rfl ?_
                refine VL_val rfl rfl rfl (yd_index0 rfl rfl Try.underlying25 T.sz24 (by omega)) ?_
                refine VL_yes rfl rfl rfl rfl ?_
                refine VL_val rfl rfl rfl (yd_load rfl T.one24 ((shapeAt (hS.graph hG0) hok (hS.get 0 rfl)).row xn hxn)) ?_
                refine VL_yes rfl rfl rfl rfl ?_
                refine VL_val rfl rfl rfl (yd_move rfl) ?_
                refine VL_yes rfl rfl rfl rfl ?_
                refine VL_val rfl rfl rfl (yd_index0 rfl rfl Try.underlying24 T.sz4 (by omega)) ?_
                refine VL_yes rfl rfl rfl rfl ?_
                refine VL_val rfl rfl rfl (yd_load rfl T.one4 ((shapeAt (hS.graph hG0) hok (hS.get 0 rfl)).dom xn yn hxn hyn)) ?_
                refine VL_yes rfl rfl rfl rfl ?_
                refine VL_val rfl rfl rfl (yd_pick_t rfl rfl) ?_
                refine VL_yes rfl rfl rfl rfl ?_
                refine VL_val rfl rfl rfl (yd_eqlb rfl rfl Try.underlying4) ?_
                refine VL_val rfl rfl rfl (yd_pick_f rfl rfl) ?_
                refine VL_val rfl rfl rfl (yd_assign rfl) ?_
                refine VL_nil ?_
                refine VE_then ?_
                refine VC_ret ?_
                refine VE_ret1 (rfl) rfl ?_
                first
                | exact ⟨rfl, hS.below⟩
                | (refine ⟨congrArg Value.bool (decide_eq_true ?_), hS.below⟩; rw [Bool.eq_iff_iff, hb, hok.dm xn yn]; exact ⟨fun h => h.2, fun h => ⟨by omega, h⟩⟩)
                | (refine ⟨congrArg Value.bool (decide_eq_true ?_), hS.below⟩; rw [Bool.eq_iff_iff, hb]; exact ⟨fun h => absurd (by omega) h.1, fun h => (by cases h)⟩)
              · replace h50 := Decidable.not_not.1 (of_decide_eq_false h50)
                refine VL_no rfl rfl rfl rfl rfl rfl rfl ?_
                refine VL_no rfl rfl rfl rfl rfl rfl rfl ?_
                refine VL_no rfl rfl rfl rfl rfl rfl rfl ?_
                refine VL_no rfl rfl rfl rfl rfl rfl rfl ?_
                refine VL_no rfl rfl rfl rfl rfl rfl rfl ?_
                refine VL_no rfl rfl rfl rfl rfl rfl rfl ?_
                refine VL_no rfl rfl rfl rfl rfl rfl rfl ?_
                refine VL_no rfl rfl rfl rfl rfl rfl rfl ?_
                refine VL_yes rfl rfl rfl rfl ?_
                refine VL_val rfl rfl rfl (yd_pick_f rfl rfl) ?_
                refine VL_yes rfl rfl rfl rfl ?_
                refine VL_val rfl rfl rfl (yd_eqlb rfl rfl Try.underlying4) ?_
                refine VL_val rfl rfl rfl (yd_pick_f rfl rfl) ?_
                refine VL_val rfl rfl rfl (yd_assign rfl) ?_
                refine VL_nil ?_
                refine VE_then ?_
                refine VC_ret ?_
                refine VE_ret1 (rfl) rfl ?_
                first
                | exact ⟨rfl, hS.below⟩
                | (refine ⟨congrArg Value.bool (decide_eq_true ?_), hS.below⟩; rw [Bool.eq_iff_iff, hb, hok.dm xn yn]; exact ⟨fun h => h.2, fun h => ⟨by omega, h⟩⟩)
                | (refine ⟨congrArg Value.bool (decide_eq_true ?_), hS.below⟩; rw [Bool.eq_iff_iff, hb]; exact ⟨fun h => absurd (by omega) h.1, fun h => (by cases h)⟩)

theorem fnAncestorEq_calls {w0 : World} {v : Value} {G0 : List (List Int)} {x y : Int} (hR : RowsAt w0 v G0) : Calls Try.prog 8 #[v, .int .i64 x, .int .i64 y] w0 (Ret fun u w' => u = .bool true ∧ RowKit.Below w0.heap.size w0 w') := by
  have hS := St.refl w0
  refine V_enter (N := 57) Try.func8 rfl Try.ntmps8 rfl ?_
  refine VC.sub (τ := [(0, _), (1, _), (2, _)]) ⟨rfl, rfl, rfl, trivial⟩ ?_
  refine VC_seq ?_
  refine VC_region ?_
  refine VL_val rfl rfl rfl (yd_assign rfl) ?_
  refine VL_nil ?_
  refine VE_then ?_
  refine VC_seq ?_
  refine VC_seq ?_
  refine VC_region ?_
  refine VL_val rfl rfl rfl (yd_move rfl) ?_
  refine VL_call rfl rfl rfl rfl T.call15 rfl (zzFits1_ok (hS.rows hR)) ?_
  rintro _ _ ⟨rfl, bz, rfl, hz⟩
  refine VL_val rfl rfl rfl (yd_not rfl) ?_
  refine VL_nil ?_
  refine VE_then ?_
  refine VC_cond rfl (fun h10 => ?_) (fun h10 => ?_)
  · replace h10 := V.nt h10
    refine VC_seq ?_
    refine VC_region ?_
    refine VL_val rfl rfl rfl (yd_assign rfl) ?_
    refine VL_nil ?_
    refine VE_then ?_
    refine VC_ret ?_
    refine VE_then_ret (?_)
    refine VE_ret1 (rfl) rfl ?_
    exact ⟨rfl, hS.below⟩
  · replace h10 := V.nf h10
    have hzt := h10
    refine VC_skip ?_
    refine VE_then ?_
    refine VC_seq ?_
    refine VC_seq ?_
    refine VC_region ?_
    refine VL_val rfl rfl rfl (yd_move rfl) ?_
    refine VL_call rfl rfl rfl rfl T.call22 rfl (good_ok (hS.rows hR) (hz hzt)) ?_
    rintro _ _ ⟨rfl, bg, rfl, hgi⟩
    refine VL_val rfl rfl rfl (yd_not rfl) ?_
    refine VL_val rfl rfl rfl (yd_move rfl) ?_
    refine VL_split 14 rfl (fun h14 => ?_) (fun h14 => ?_)
    · replace h14 := V.nt h14
      refine VL_no rfl rfl rfl rfl rfl rfl rfl ?_
      refine VL_no rfl rfl rfl rfl rfl rfl rfl ?_
      refine VL_no rfl rfl rfl rfl rfl rfl rfl ?_
      refine VL_no rfl rfl rfl rfl rfl rfl rfl ?_
      refine VL_val rfl rfl rfl (yd_pick_t rfl rfl) ?_
      refine VL_val rfl rfl rfl (yd_move rfl) ?_
      refine VL_no rfl rfl rfl rfl rfl rfl rfl ?_
      refine VL_no rfl rfl rfl rfl rfl rfl rfl ?_
      refine VL_no rfl rfl rfl rfl rfl rfl rfl ?_
      refine VL_no rfl rfl rfl rfl rfl rfl rfl ?_
      refine VL_val rfl rfl rfl (yd_pick_t rfl rfl) ?_
      refine VL_nil ?_
      refine VE_then ?_
      refine VC_cond_t rfl ?_
      refine VC_seq ?_
      refine VC_region ?_
      refine VL_val rfl rfl rfl (yd_assign rfl) ?_
      refine VL_nil ?_
      refine VE_then ?_
      refine VC_ret ?_
      refine VE_then_ret (?_)
      refine VE_ret1 (rfl) rfl ?_
      exact ⟨rfl, hS.below⟩
    · replace h14 := V.nf h14
      have hgt := h14
      obtain ⟨G, hG, hg, hGl⟩ := graph_of_rows hR (hgi.1 hgt)
      have hg12 : G.length ≤ 12 := by have := (hgi.1 hgt).2.1; omega
      have hle := hg.le
      have hpos := hg.pos
      have hG0 := hG
      obtain ⟨ga, gc, gb, go, rfl, hga, hrow⟩ := hG
      obtain rfl := hga (by omega)
      refine VL_yes rfl rfl rfl rfl ?_
      refine VL_val rfl rfl rfl (yd_move rfl) ?_
      refine VL_yes rfl rfl rfl rfl ?_
      refine VL_val rfl rfl rfl (yd_move rfl) ?_
      refine VL_yes rfl rfl rfl rfl ?_
      refine VL_call rfl rfl rfl rfl T.call23 rfl (block_ok (hS.graph hG0)) ?_
      rintro _ _ ⟨rfl, bx, rfl, hbx⟩
      refine VL_yes rfl rfl rfl rfl ?_
      refine VL_val rfl rfl rfl (yd_not rfl) ?_
      refine VL_val rfl rfl rfl (yd_pick_f rfl rfl) ?_
      refine VL_val rfl rfl rfl (yd_move rfl) ?_
      refine VL_split 20 rfl (fun h20 => ?_) (fun h20 => ?_)
      · replace h20 := V.nt h20
        refine VL_no rfl rfl rfl rfl rfl rfl rfl ?_
        refine VL_no rfl rfl rfl rfl rfl rfl rfl ?_
        refine VL_no rfl rfl rfl rfl rfl rfl rfl ?_
        refine VL_no rfl rfl rfl rfl rfl rfl rfl ?_
        refine VL_val rfl rfl rfl (yd_pick_t rfl rfl) ?_
        refine VL_nil ?_
        refine VE_then ?_
        refine VC_cond_t rfl ?_
        refine VC_seq ?_
        refine VC_region ?_
        refine VL_val rfl rfl rfl (yd_assign rfl) ?_
        refine VL_nil ?_
        refine VE_then ?_
        refine VC_ret ?_
        refine VE_then_ret (?_)
        refine VE_ret1 (rfl) rfl ?_
        exact ⟨rfl, hS.below⟩
      · replace h20 := V.nf h20
        have hx := hbx.1 h20
        obtain ⟨xn, rfl⟩ : ∃ xn : Nat, x = xn := ⟨x.toNat, by omega⟩
        have hxn : xn < G.length := by omega
        refine VL_yes rfl rfl rfl rfl ?_
        refine VL_val rfl rfl rfl (yd_move rfl) ?_
        refine VL_yes rfl rfl rfl rfl ?_
        refine VL_val rfl rfl rfl (yd_move rfl) ?_
        refine VL_yes rfl rfl rfl rfl ?_
        refine VL_call rfl rfl rfl rfl T.call23 rfl (block_ok (hS.graph hG0)) ?_
        rintro _ _ ⟨rfl, bo, rfl, hby⟩
        refine VL_yes rfl rfl rfl rfl ?_
        refine VL_val rfl rfl rfl (yd_not rfl) ?_
        refine VL_val rfl rfl rfl (yd_pick_f rfl rfl) ?_
        refine VL_nil ?_
        refine VE_then ?_
        refine VC_cond rfl (fun h25 => ?_) (fun h25 => ?_)
        · replace h25 := V.nt h25
          refine VC_seq ?_
          refine VC_region ?_
          refine VL_val rfl rfl rfl (yd_assign rfl) ?_
          refine VL_nil ?_
          refine VE_then ?_
          refine VC_ret ?_
          refine VE_then_ret (?_)
          refine VE_ret1 (rfl) rfl ?_
          exact ⟨rfl, hS.below⟩
        · replace h25 := V.nf h25
          have hy := hby.1 h25
          obtain ⟨yn, rfl⟩ : ∃ yn : Nat, y = yn := ⟨y.toNat, by omega⟩
          have hyn : yn < G.length := by omega
          refine VC_skip ?_
          refine VE_then ?_
          refine VC_seq ?_
          refine VC_region ?_
          refine VL_val rfl rfl rfl (yd_move rfl) ?_
          refine VL_call rfl rfl rfl rfl T.call30 rfl (of_ok (hS.graph hG0) hg) ?_
          rintro _ w ⟨s, rfl, hok, hR2⟩
          have hS := hS.call0 hR2
          refine VL_alloc rfl rfl rfl rfl T.e27 hS ?_
          clear hS; intro b7 w hS
          refine VL_storeN (cs := [.slice (some ⟨gb, go, none⟩) G.length gc, s.live G, s.dom G]) rfl rfl rfl rfl rfl T.agg27 (by intro u hu; simp at hu; rcases hu with rfl | rfl | rfl <;> rfl) hS 1 rfl (by simp [Value.cells]) ?_
          clear hS; intro w hS
          have hS : St w0 M0 [shapeR s G, blk b7 27 [.slice (some ⟨gb, go, none⟩) G.length gc, s.live G, s.dom G]] w := hS
          refine VL_nil ?_
          refine VE_then ?_
          refine VC_seq ?_
          refine VC_draw T.mixed hS ?_
          clear hS; intro w hS
          refine VA_take (i := 0) rfl rfl rfl rfl (by kernel_rfl) (by kernel_rfl) (by kernel_rfl) #[true, false, false, false, false, false, false, false, false, false, false, false, false, false, false, false, false, false, false, false, false, false, false, false, false, false, false, false, false, false] (by kernel_rfl) (fun _ _ _ _ h => h) (fun w hS => yd_field rfl T.fld27_1) ?_
          refine VA_take (i := 1) rfl rfl rfl rfl (by kernel_rfl) (by kernel_rfl) (by kernel_rfl) #[true, true, false, false, false, false, false, false, false, false, false, false, false, false, false, false, false, false, false, false, false, false, false, false, false, false, false, false, false, false] (by kernel_rfl) (fun _ _ _ _ h => h) (fun w hS => yd_load rfl T.one24 (blk_cell (hS.get 1 rfl) rfl)) ?_
          refine VA_take (i := 2) rfl rfl rfl rfl (by kernel_rfl) (by kernel_rfl) (by kernel_rfl) #[true, true, true, false, false, false, false, false, false, false, false, false, false, false, false, false, false, false, false, false, false, false, false, false, false, false, false, false, false, false] (by kernel_rfl) (fun _ _ _ _ h => h) (fun w hS => yd_move rfl) ?_
          refine VA_take (i := 3) rfl rfl rfl rfl (by kernel_rfl) (by kernel_rfl) (by kernel_rfl) #[true, true, true, true, false, false, false, false, false, false, false, false, false, false, false, false, false, false, false, false, false, false, false, false, false, false, false, false, false, false] (by kernel_rfl) (fun _ _ _ _ h => h) (fun w hS => yd_index0 rfl rfl Try.underlying24 T.sz4 (by omega)) ?_
          refine VA_take (i := 4) rfl rfl rfl rfl (by kernel_rfl) (by kernel_rfl) (by kernel_rfl) #[true, true, true, true, true, false, false, false, false, false, false, false, false, false, false, false, false, false, false, false, false, false, false, false, false, false, false, false, false, false] (by kernel_rfl) (fun _ _ _ _ h => h) (fun w hS => yd_load rfl T.one4 ((shapeAt (hS.graph hG0) hok (hS.get 0 rfl)).live xn hxn)) ?_
          refine VA_take (i := 5) rfl rfl rfl rfl (by kernel_rfl) (by kernel_rfl) (by kernel_rfl) #[true, true, true, true, true, true, false, false, false, false, false, false, false, false, false, false, false, false, false, false, false, false, false, false, false, false, false, false, false, false] (by kernel_rfl) (fun _ _ _ _ h => h) (fun w hS => yd_not rfl) ?_
          refine VA_take (i := 6) rfl rfl rfl rfl (by kernel_rfl) (by kernel_rfl) (by kernel_rfl) #[true, true, true, true, true, true, true, false, false, false, false, false, false, false, false, false, false, false, false, false, false, false, false, false, false, false, false, false, false, false] (by kernel_rfl) (fun _ _ _ _ h => h) (fun w hS => yd_move rfl) ?_
          refine VA_split 34 rfl (fun h34 => ?_) (fun h34 => ?_)
          · replace h34 := V.nt h34
            refine VA_no (i := 7) rfl rfl rfl rfl rfl rfl rfl rfl (by kernel_rfl) (by kernel_rfl) (by kernel_rfl) #[true, true, true, true, true, true, true, true, false, false, false, false, false, false, false, false, false, false, false, false, false, false, false, false, false, false, false, false, false, false] (by kernel_rfl) (fun _ _ _ _ h => h) ?_
            refine VA_no (i := 8) rfl rfl rfl rfl rfl rfl rfl rfl (by kernel_rfl) (by kernel_rfl) (by kernel_rfl) #[true, true, true, true, true, true, true, true, true, false, false, false, false, false, false, false, false, false, false, false, false, false, false, false, false, false, false, false, false, false] (by kernel_rfl) (fun _ _ _ _ h => h) ?_
            refine VA_no (i := 9) rfl rfl rfl rfl rfl rfl rfl rfl (by kernel_rfl) (by kernel_rfl) (by kernel_rfl) #[true, true, true, true, true, true, true, true, true, true, false, false, false, false, false, false, false, false, false, false, false, false, false, false, false, false, false, false, false, false] (by kernel_rfl) (fun _ _ _ _ h => h) ?_
            refine VA_no (i := 10) rfl rfl rfl rfl rfl rfl rfl rfl (by kernel_rfl) (by kernel_rfl) (by kernel_rfl) #[true, true, true, true, true, true, true, true, true, true, true, false, false, false, false, false, false, false, false, false, false, false, false, false, false, false, false, false, false, false] (by kernel_rfl) (fun _ _ _ _ h => h) ?_
            refine VA_no (i := 11) rfl rfl rfl rfl rfl rfl rfl rfl (by kernel_rfl) (by kernel_rfl) (by kernel_rfl) #[true, true, true, true, true, true, true, true, true, true, true, true, false, false, false, false, false, false, false, false, false, false, false, false, false, false, false, false, false, false] (by kernel_rfl) (fun _ _ _ _ h => h) ?_
            refine VA_no (i := 12) rfl rfl rfl rfl rfl rfl rfl rfl (by kernel_rfl) (by kernel_rfl) (by kernel_rfl) #[true, true, true, true, true, true, true, true, true, true, true, true, true, false, false, false, false, false, false, false, false, false, false, false, false, false, false, false, false, false] (by kernel_rfl) (fun _ _ _ _ h => h) ?_
            refine VA_take (i := 13) rfl rfl rfl rfl (by kernel_rfl) (by kernel_rfl) (by kernel_rfl) #[true, true, true, true, true, true, true, true, true, true, true, true, true, true, false, false, false, false, false, false, false, false, false, false, false, false, false, false, false, false] (by kernel_rfl) (fun _ _ _ _ h => h) (fun w hS => yd_pick_t rfl rfl) ?_
            refine VA_take (i := 14) rfl rfl rfl rfl (by kernel_rfl) (by kernel_rfl) (by kernel_rfl) #[true, true, true, true, true, true, true, true, true, true, true, true, true, true, true, false, false, false, false, false, false, false, false, false, false, false, false, false, false, false] (by kernel_rfl) (fun _ _ _ _ h => h) (fun w hS => yd_move rfl) ?_
            refine VA_no (i := 15) rfl rfl rfl rfl rfl rfl rfl rfl (by kernel_rfl) (by kernel_rfl) (by kernel_rfl) #[true, true, true, true, true, true, true, true, true, true, true, true, true, true, true, true, false, false, false, false, false, false, false, false, false, false, false, false, false, false] (by kernel_rfl) (fun _ _ _ _ h => h) ?_
            refine VA_no (i := 16) rfl rfl rfl rfl rfl rfl rfl rfl (by kernel_rfl) (by kernel_rfl) (by kernel_rfl) #[true, true, true, true, true, true, true, true, true, true, true, true, true, true, true, true, true, false, false, false, false, false, false, false, false, false, false, false, false, false] (by kernel_rfl) (fun _ _ _ _ h => h) ?_
            refine VA_no (i := 17) rfl rfl rfl rfl rfl rfl rfl rfl (by kernel_rfl) (by kernel_rfl) (by kernel_rfl) #[true, true, true, true, true, true, true, true, true, true, true, true, true, true, true, true, true, true, false, false, false, false, false, false, false, false, false, false, false, false] (by kernel_rfl) (fun _ _ _ _ h => h) ?_
            refine VA_no (i := 18) rfl rfl rfl rfl rfl rfl rfl rfl (by kernel_rfl) (by kernel_rfl) (by kernel_rfl) #[true, true, true, true, true, true, true, true, true, true, true, true, true, true, true, true, true, true, true, false, false, false, false, false, false, false, false, false, false, false] (by kernel_rfl) (fun _ _ _ _ h => h) ?_
            refine VA_no (i := 19) rfl rfl rfl rfl rfl rfl rfl rfl (by kernel_rfl) (by kernel_rfl) (by kernel_rfl) #[true, true, true, true, true, true, true, true, true, true, true, true, true, true, true, true, true, true, true, true, false, false, false, false, false, false, false, false, false, false] (by kernel_rfl) (fun _ _ _ _ h => h) ?_
            refine VA_no (i := 20) rfl rfl rfl rfl rfl rfl rfl rfl (by kernel_rfl) (by kernel_rfl) (by kernel_rfl) #[true, true, true, true, true, true, true, true, true, true, true, true, true, true, true, true, true, true, true, true, true, false, false, false, false, false, false, false, false, false] (by kernel_rfl) (fun _ _ _ _ h => h) ?_
            refine VA_no (i := 21) rfl rfl rfl rfl rfl rfl rfl rfl (by kernel_rfl) (by kernel_rfl) (by kernel_rfl) #[true, true, true, true, true, true, true, true, true, true, true, true, true, true, true, true, true, true, true, true, true, true, false, false, false, false, false, false, false, false] (by kernel_rfl) (fun _ _ _ _ h => h) ?_
            refine VA_no (i := 22) rfl rfl rfl rfl rfl rfl rfl rfl (by kernel_rfl) (by kernel_rfl) (by kernel_rfl) #[true, true, true, true, true, true, true, true, true, true, true, true, true, true, true, true, true, true, true, true, true, true, true, false, false, false, false, false, false, false] (by kernel_rfl) (fun _ _ _ _ h => h) ?_
            refine VA_no (i := 23) rfl rfl rfl rfl rfl rfl rfl rfl (by kernel_rfl) (by kernel_rfl) (by kernel_rfl) #[true, true, true, true, true, true, true, true, true, true, true, true, true, true, true, true, true, true, true, true, true, true, true, true, false, false, false, false, false, false] (by kernel_rfl) (fun _ _ _ _ h => h) ?_
            refine VA_no (i := 24) rfl rfl rfl rfl rfl rfl rfl rfl (by kernel_rfl) (by kernel_rfl) (by kernel_rfl) #[true, true, true, true, true, true, true, true, true, true, true, true, true, true, true, true, true, true, true, true, true, true, true, true, true, false, false, false, false, false] (by kernel_rfl) (fun _ _ _ _ h => h) ?_
            refine VA_no (i := 25) rfl rfl rfl rfl rfl rfl rfl rfl (by kernel_rfl) (by kernel_rfl) (by kernel_rfl) #[true, true, true, true, true, true, true, true, true, true, true, true, true, true, true, true, true, true, true, true, true, true, true, true, true, true, false, false, false, false] (by kernel_rfl) (fun _ _ _ _ h => h) ?_
            refine VA_no (i := 26) rfl rfl rfl rfl rfl rfl rfl rfl (by kernel_rfl) (by kernel_rfl) (by kernel_rfl) #[true, true, true, true, true, true, true, true, true, true, true, true, true, true, true, true, true, true, true, true, true, true, true, true, true, true, true, false, false, false] (by kernel_rfl) (fun _ _ _ _ h => h) ?_
            refine VA_no (i := 27) rfl rfl rfl rfl rfl rfl rfl rfl (by kernel_rfl) (by kernel_rfl) (by kernel_rfl) #[true, true, true, true, true, true, true, true, true, true, true, true, true, true, true, true, true, true, true, true, true, true, true, true, true, true, true, true, false, false] (by kernel_rfl) (fun _ _ _ _ h => h) ?_
            refine VA_take (i := 28) rfl rfl rfl rfl (by kernel_rfl) (by kernel_rfl) (by kernel_rfl) #[true, true, true, true, true, true, true, true, true, true, true, true, true, true, true, true, true, true, true, true, true, true, true, true, true, true, true, true, true, false] (by kernel_rfl) (fun _ _ _ _ h => h) (fun w hS => yd_pick_t rfl rfl) ?_
            refine VA_take (i := 29) rfl rfl rfl rfl (by kernel_rfl) (by kernel_rfl) (by kernel_rfl) #[true, true, true, true, true, true, true, true, true, true, true, true, true, true, true, true, true, true, true, true, true, true, true, true, true, true, true, true, true, true] (by kernel_rfl) (fun _ _ _ _ h => h) (fun w hS => yd_assign rfl) ?_
            refine VA_done (by kernel_rfl) hS ?_
            refine VE_then ?_
            refine VC_ret ?_
            refine VE_ret1 (rfl) rfl ?_
            first
            | exact ⟨rfl, hS.below⟩
            | (refine ⟨congrArg Value.bool (decide_eq_true ?_), hS.below⟩; rw [Bool.eq_iff_iff, hb, hok.dm xn yn])
          · replace h34 := V.nf h34
            have hlx := (hok.lv xn).1 h34
            have hxm := ((postL_ok hg).mem xn).2 hlx
            refine VA_takeG (i := 7) rfl rfl rfl rfl rfl rfl rfl (by kernel_rfl) (by kernel_rfl) (by kernel_rfl) #[true, true, true, true, true, true, true, true, false, false, false, false, false, false, false, false, false, false, false, false, false, false, false, false, false, false, false, false, false, false] (by kernel_rfl) (fun _ _ _ _ h => h) (fun w hS => yd_field rfl T.fld27_1) ?_
            refine VA_takeG (i := 8) rfl rfl rfl rfl rfl rfl rfl (by kernel_rfl) (by kernel_rfl) (by kernel_rfl) #[true, true, true, true, true, true, true, true, true, false, false, false, false, false, false, false, false, false, false, false, false, false, false, false, false, false, false, false, false, false] (by kernel_rfl) (fun _ _ _ _ h => h) (fun w hS => yd_load rfl T.one24 (blk_cell (hS.get 1 rfl) rfl)) ?_
            refine VA_takeG (i := 9) rfl rfl rfl rfl rfl rfl rfl (by kernel_rfl) (by kernel_rfl) (by kernel_rfl) #[true, true, true, true, true, true, true, true, true, true, false, false, false, false, false, false, false, false, false, false, false, false, false, false, false, false, false, false, false, false] (by kernel_rfl) (fun _ _ _ _ h => h) (fun w hS => yd_move rfl) ?_
            refine VA_takeG (i := 10) rfl rfl rfl rfl rfl rfl rfl (by kernel_rfl) (by kernel_rfl) (by kernel_rfl) #[true, true, true, true, true, true, true, true, true, true, true, false, false, false, false, false, false, false, false, false, false, false, false, false, false, false, false, false, false, false] (by kernel_rfl) (fun _ _ _ _ h => h) (fun w hS => yd_index0 rfl rfl Try.underlying24 T.sz4 (by omega)) ?_
            refine VA_takeG (i := 11) rfl rfl rfl rfl rfl rfl rfl (by kernel_rfl) (by kernel_rfl) (by kernel_rfl) #[true, true, true, true, true, true, true, true, true, true, true, true, false, false, false, false, false, false, false, false, false, false, false, false, false, false, false, false, false, false] (by kernel_rfl) (fun _ _ _ _ h => h) (fun w hS => yd_load rfl T.one4 ((shapeAt (hS.graph hG0) hok (hS.get 0 rfl)).live yn hyn)) ?_
            refine VA_takeG (i := 12) rfl rfl rfl rfl rfl rfl rfl (by kernel_rfl) (by kernel_rfl) (by kernel_rfl) #[true, true, true, true, true, true, true, true, true, true, true, true, true, false, false, false, false, false, false, false, false, false, false, false, false, false, false, false, false, false] (by kernel_rfl) (fun _ _ _ _ h => h) (fun w hS => yd_not rfl) ?_
            refine VA_take (i := 13) rfl rfl rfl rfl (by kernel_rfl) (by kernel_rfl) (by kernel_rfl) #[true, true, true, true, true, true, true, true, true, true, true, true, true, true, false, false, false, false, false, false, false, false, false, false, false, false, false, false, false, false] (by kernel_rfl) (fun _ _ _ _ h => h) (fun w hS => yd_pick_f rfl rfl) ?_
            refine VA_take (i := 14) rfl rfl rfl rfl (by kernel_rfl) (by kernel_rfl) (by kernel_rfl) #[true, true, true, true, true, true, true, true, true, true, true, true, true, true, true, false, false, false, false, false, false, false, false, false, false, false, false, false, false, false] (by kernel_rfl) (fun _ _ _ _ h => h) (fun w hS => yd_move rfl) ?_
            refine VA_split 42 rfl (fun h42 => ?_) (fun h42 => ?_)
            · replace h42 := V.nt h42
              refine VA_no (i := 15) rfl rfl rfl rfl rfl rfl rfl rfl (by kernel_rfl) (by kernel_rfl) (by kernel_rfl) #[true, true, true, true, true, true, true, true, true, true, true, true, true, true, true, true, false, false, false, false, false, false, false, false, false, false, false, false, false, false] (by kernel_rfl) (fun _ _ _ _ h => h) ?_
              refine VA_no (i := 16) rfl rfl rfl rfl rfl rfl rfl rfl (by kernel_rfl) (by kernel_rfl) (by kernel_rfl) #[true, true, true, true, true, true, true, true, true, true, true, true, true, true, true, true, true, false, false, false, false, false, false, false, false, false, false, false, false, false] (by kernel_rfl) (fun _ _ _ _ h => h) ?_
              refine VA_no (i := 17) rfl rfl rfl rfl rfl rfl rfl rfl (by kernel_rfl) (by kernel_rfl) (by kernel_rfl) #[true, true, true, true, true, true, true, true, true, true, true, true, true, true, true, true, true, true, false, false, false, false, false, false, false, false, false, false, false, false] (by kernel_rfl) (fun _ _ _ _ h => h) ?_
              refine VA_no (i := 18) rfl rfl rfl rfl rfl rfl rfl rfl (by kernel_rfl) (by kernel_rfl) (by kernel_rfl) #[true, true, true, true, true, true, true, true, true, true, true, true, true, true, true, true, true, true, true, false, false, false, false, false, false, false, false, false, false, false] (by kernel_rfl) (fun _ _ _ _ h => h) ?_
              refine VA_no (i := 19) rfl rfl rfl rfl rfl rfl rfl rfl (by kernel_rfl) (by kernel_rfl) (by kernel_rfl) #[true, true, true, true, true, true, true, true, true, true, true, true, true, true, true, true, true, true, true, true, false, false, false, false, false, false, false, false, false, false] (by kernel_rfl) (fun _ _ _ _ h => h) ?_
              refine VA_no (i := 20) rfl rfl rfl rfl rfl rfl rfl rfl (by kernel_rfl) (by kernel_rfl) (by kernel_rfl) #[true, true, true, true, true, true, true, true, true, true, true, true, true, true, true, true, true, true, true, true, true, false, false, false, false, false, false, false, false, false] (by kernel_rfl) (fun _ _ _ _ h => h) ?_
              refine VA_no (i := 21) rfl rfl rfl rfl rfl rfl rfl rfl (by kernel_rfl) (by kernel_rfl) (by kernel_rfl) #[true, true, true, true, true, true, true, true, true, true, true, true, true, true, true, true, true, true, true, true, true, true, false, false, false, false, false, false, false, false] (by kernel_rfl) (fun _ _ _ _ h => h) ?_
              refine VA_no (i := 22) rfl rfl rfl rfl rfl rfl rfl rfl (by kernel_rfl) (by kernel_rfl) (by kernel_rfl) #[true, true, true, true, true, true, true, true, true, true, true, true, true, true, true, true, true, true, true, true, true, true, true, false, false, false, false, false, false, false] (by kernel_rfl) (fun _ _ _ _ h => h) ?_
              refine VA_no (i := 23) rfl rfl rfl rfl rfl rfl rfl rfl (by kernel_rfl) (by kernel_rfl) (by kernel_rfl) #[true, true, true, true, true, true, true, true, true, true, true, true, true, true, true, true, true, true, true, true, true, true, true, true, false, false, false, false, false, false] (by kernel_rfl) (fun _ _ _ _ h => h) ?_
              refine VA_no (i := 24) rfl rfl rfl rfl rfl rfl rfl rfl (by kernel_rfl) (by kernel_rfl) (by kernel_rfl) #[true, true, true, true, true, true, true, true, true, true, true, true, true, true, true, true, true, true, true, true, true, true, true, true, true, false, false, false, false, false] (by kernel_rfl) (fun _ _ _ _ h => h) ?_
              refine VA_no (i := 25) rfl rfl rfl rfl rfl rfl rfl rfl (by kernel_rfl) (by kernel_rfl) (by kernel_rfl) #[true, true, true, true, true, true, true, true, true, true, true, true, true, true, true, true, true, true, true, true, true, true, true, true, true, true, false, false, false, false] (by kernel_rfl) (fun _ _ _ _ h => h) ?_
              refine VA_no (i := 26) rfl rfl rfl rfl rfl rfl rfl rfl (by kernel_rfl) (by kernel_rfl) (by kernel_rfl) #[true, true, true, true, true, true, true, true, true, true, true, true, true, true, true, true, true, true, true, true, true, true, true, true, true, true, true, false, false, false] (by kernel_rfl) (fun _ _ _ _ h => h) ?_
              refine VA_no (i := 27) rfl rfl rfl rfl rfl rfl rfl rfl (by kernel_rfl) (by kernel_rfl) (by kernel_rfl) #[true, true, true, true, true, true, true, true, true, true, true, true, true, true, true, true, true, true, true, true, true, true, true, true, true, true, true, true, false, false] (by kernel_rfl) (fun _ _ _ _ h => h) ?_
              refine VA_take (i := 28) rfl rfl rfl rfl (by kernel_rfl) (by kernel_rfl) (by kernel_rfl) #[true, true, true, true, true, true, true, true, true, true, true, true, true, true, true, true, true, true, true, true, true, true, true, true, true, true, true, true, true, false] (by kernel_rfl) (fun _ _ _ _ h => h) (fun w hS => yd_pick_t rfl rfl) ?_
              refine VA_take (i := 29) rfl rfl rfl rfl (by kernel_rfl) (by kernel_rfl) (by kernel_rfl) #[true, true, true, true, true, true, true, true, true, true, true, true, true, true, true, true, true, true, true, true, true, true, true, true, true, true, true, true, true, true] (by kernel_rfl) (fun _ _ _ _ h => h) (fun w hS => yd_assign rfl) ?_
              refine VA_done (by kernel_rfl) hS ?_
              refine VE_then ?_
              refine VC_ret ?_
              refine VE_ret1 (rfl) rfl ?_
              first
              | exact ⟨rfl, hS.below⟩
              | (refine ⟨congrArg Value.bool (decide_eq_true ?_), hS.below⟩; rw [Bool.eq_iff_iff, hb, hok.dm xn yn])
            · replace h42 := V.nf h42
              have hly := (hok.lv yn).1 h42
              have hym := ((postL_ok hg).mem yn).2 hly
              refine VA_takeG (i := 15) rfl rfl rfl rfl rfl rfl rfl (by kernel_rfl) (by kernel_rfl) (by kernel_rfl) #[true, true, true, true, true, true, true, true, true, true, true, true, true, true, true, true, false, false, false, false, false, false, false, false, false, false, false, false, false, false] (by kernel_rfl) (fun _ _ _ _ h => h) (fun w hS => yd_move rfl) ?_
              refine VA_takeG (i := 16) rfl rfl rfl rfl rfl rfl rfl (by kernel_rfl) (by kernel_rfl) (by kernel_rfl) #[true, true, true, true, true, true, true, true, true, true, true, true, true, true, true, true, true, false, false, false, false, false, false, false, false, false, false, false, false, false] (by kernel_rfl) (fun _ _ _ _ h => h) (fun w hS => yd_move rfl) ?_
              refine VA_takeG (i := 17) rfl rfl rfl rfl rfl rfl rfl (by kernel_rfl) (by kernel_rfl) (by kernel_rfl) #[true, true, true, true, true, true, true, true, true, true, true, true, true, true, true, true, true, true, false, false, false, false, false, false, false, false, false, false, false, false] (by kernel_rfl) (fun _ _ _ _ h => h) (fun w hS => yd_move rfl) ?_
              refine VA_takeG (i := 19) rfl rfl rfl rfl rfl rfl rfl (by kernel_rfl) (by kernel_rfl) (by kernel_rfl) #[true, true, true, true, true, true, true, true, true, true, true, true, true, true, true, true, true, true, false, true, false, false, false, false, false, false, false, false, false, false] (by kernel_rfl) (fun _ _ _ _ h => h) (fun w hS => yd_field rfl T.fld27_2) ?_
              refine VA_takeG (i := 20) rfl rfl rfl rfl rfl rfl rfl (by kernel_rfl) (by kernel_rfl) (by kernel_rfl) #[true, true, true, true, true, true, true, true, true, true, true, true, true, true, true, true, true, true, false, true, true, false, false, false, false, false, false, false, false, false] (by kernel_rfl) (fun _ _ _ _ h => h) (fun w hS => yd_load rfl T.one25 (blk_cell (hS.get 1 rfl) rfl)) ?_
              refine VA_takeG (i := 21) rfl rfl rfl rfl rfl rfl rfl (by kernel_rfl) (by kernel_rfl) (by kernel_rfl) #[true, true, true, true, true, true, true, true, true, true, true, true, true, true, true, true, true, true, false, true, true, true, false, false, false, false, false, false, false, false] (by kernel_rfl) (fun _ _ _ _ h => h) (fun w hS => yd_move rfl) ?_
              refine VA_takeG (i := 22) rfl rfl rfl rfl rfl rfl rfl (by kernel_rfl) (by kernel_rfl) (by kernel_rfl) #[true, true, true, true, true, true, true, true, true, true, true, true, true, true, true, true, true, true, false, true, true, true, true, false, false, false, false, false, false, false] (by kernel_rfl) (fun _ _ _ _ h => h) (fun w hS => yd_index0 rfl rfl Try.underlying25 T.sz24 (by omega)) ?_
              refine VA_takeG (i := 23) rfl rfl rfl rfl rfl rfl rfl (by kernel_rfl) (by kernel_rfl) (by kernel_rfl) #[true, true, true, true, true, true, true, true, true, true, true, true, true, true, true, true, true, true, false, true, true, true, true, true, false, false, false, false, false, false] (by kernel_rfl) (fun _ _ _ _ h => h) (fun w hS => yd_load rfl T.one24 ((shapeAt (hS.graph hG0) hok (hS.get 0 rfl)).row xn hxn)) ?_
              refine VA_takeG (i := 24) rfl rfl rfl rfl rfl rfl rfl (by kernel_rfl) (by kernel_rfl) (by kernel_rfl) #[true, true, true, true, true, true, true, true, true, true, true, true, true, true, true, true, true, true, false, true, true, true, true, true, true, false, false, false, false, false] (by kernel_rfl) (fun _ _ _ _ h => h) (fun w hS => yd_move rfl) ?_
              refine VA_takeG (i := 25) rfl rfl rfl rfl rfl rfl rfl (by kernel_rfl) (by kernel_rfl) (by kernel_rfl) #[true, true, true, true, true, true, true, true, true, true, true, true, true, true, true, true, true, true, false, true, true, true, true, true, true, true, false, false, false, false] (by kernel_rfl) (fun _ _ _ _ h => h) (fun w hS => yd_index0 rfl rfl Try.underlying24 T.sz4 (by omega)) ?_
              refine VA_takeG (i := 26) rfl rfl rfl rfl rfl rfl rfl (by kernel_rfl) (by kernel_rfl) (by kernel_rfl) #[true, true, true, true, true, true, true, true, true, true, true, true, true, true, true, true, true, true, false, true, true, true, true, true, true, true, true, false, false, false] (by kernel_rfl) (fun _ _ _ _ h => h) (fun w hS => yd_load rfl T.one4 ((shapeAt (hS.graph hG0) hok (hS.get 0 rfl)).dom xn yn hxn hyn)) ?_
              refine VA_only (i := 18) (by kernel_rfl) hS ?_
              refine VS_call rfl (wanted_yes rfl rfl rfl rfl) #[true, true, true, true, true, true, true, true, true, true, true, true, true, true, true, true, true, true, true, true, true, true, true, true, true, true, true, false, false, false] (by kernel_rfl) rfl rfl rfl T.call33 rfl (implIsAncestorEq_ok (hS.graph hG0) hg hxn hyn hlx hly) ?_
              rintro _ w ⟨b, rfl, hb, hR3⟩
              have hS := hS.call0 hR3
              refine VA_takeG (i := 27) rfl rfl rfl rfl rfl rfl rfl (by kernel_rfl) (by kernel_rfl) (by kernel_rfl) #[true, true, true, true, true, true, true, true, true, true, true, true, true, true, true, true, true, true, true, true, true, true, true, true, true, true, true, true, false, false] (by kernel_rfl) (fun _ _ _ _ h => h) (fun w hS => yd_eqlb rfl rfl Try.underlying4) ?_
              refine VA_take (i := 28) rfl rfl rfl rfl (by kernel_rfl) (by kernel_rfl) (by kernel_rfl) #[true, true, true, true, true, true, true, true, true, true, true, true, true, true, true, true, true, true, true, true, true, true, true, true, true, true, true, true, true, false] (by kernel_rfl) (fun _ _ _ _ h => h) (fun w hS => yd_pick_f rfl rfl) ?_
              refine VA_take (i := 29) rfl rfl rfl rfl (by kernel_rfl) (by kernel_rfl) (by kernel_rfl) #[true, true, true, true, true, true, true, true, true, true, true, true, true, true, true, true, true, true, true, true, true, true, true, true, true, true, true, true, true, true] (by kernel_rfl) (fun _ _ _ _ h => h) (fun w hS => yd_assign rfl) ?_
              refine VA_done (by kernel_rfl) hS ?_
              refine VE_then ?_
              refine VC_ret ?_
              refine VE_ret1 (rfl) rfl ?_
              first
              | exact ⟨rfl, hS.below⟩
              | (refine ⟨congrArg Value.bool (decide_eq_true ?_), hS.below⟩; rw [Bool.eq_iff_iff, hb, hok.dm xn yn])

theorem fnAncestors_calls {w0 : World} {v : Value} {G0 : List (List Int)} {x y z : Int} (hR : RowsAt w0 v G0) : Calls Try.prog 9 #[v, .int .i64 x, .int .i64 y, .int .i64 z] w0 (Ret fun u w' => u = .bool true ∧ RowKit.Below w0.heap.size w0 w') := by
  have hS := St.refl w0
  refine V_enter (N := 90) Try.func9 rfl Try.ntmps9 rfl ?_
  refine VC.sub (τ := [(0, _), (1, _), (2, _), (3, _)]) ⟨rfl, rfl, rfl, rfl, trivial⟩ ?_
  refine VC_seq ?_
  refine VC_region ?_
  refine VL_val rfl rfl rfl (yd_assign rfl) ?_
  refine VL_nil ?_
  refine VE_then ?_
  refine VC_seq ?_
  refine VC_seq ?_
  refine VC_region ?_
  refine VL_val rfl rfl rfl (yd_move rfl) ?_
  refine VL_call rfl rfl rfl rfl T.call15 rfl (zzFits1_ok (hS.rows hR)) ?_
  rintro _ _ ⟨rfl, bz, rfl, hz⟩
  refine VL_val rfl rfl rfl (yd_not rfl) ?_
  refine VL_nil ?_
  refine VE_then ?_
  refine VC_cond rfl (fun h12 => ?_) (fun h12 => ?_)
  · replace h12 := V.nt h12
    refine VC_seq ?_
    refine VC_region ?_
    refine VL_val rfl rfl rfl (yd_assign rfl) ?_
    refine VL_nil ?_
    refine VE_then ?_
    refine VC_ret ?_
    refine VE_then_ret (?_)
    refine VE_ret1 (rfl) rfl ?_
    exact ⟨rfl, hS.below⟩
  · replace h12 := V.nf h12
    have hzt := h12
    refine VC_skip ?_
    refine VE_then ?_
    refine VC_seq ?_
    refine VC_seq ?_
    refine VC_region ?_
    refine VL_val rfl rfl rfl (yd_move rfl) ?_
    refine VL_call rfl rfl rfl rfl T.call22 rfl (good_ok (hS.rows hR) (hz hzt)) ?_
    rintro _ _ ⟨rfl, bg, rfl, hgi⟩
    refine VL_val rfl rfl rfl (yd_not rfl) ?_
    refine VL_val rfl rfl rfl (yd_move rfl) ?_
    refine VL_split 16 rfl (fun h16 => ?_) (fun h16 => ?_)
    · replace h16 := V.nt h16
      refine VL_no rfl rfl rfl rfl rfl rfl rfl ?_
      refine VL_no rfl rfl rfl rfl rfl rfl rfl ?_
      refine VL_no rfl rfl rfl rfl rfl rfl rfl ?_
      refine VL_no rfl rfl rfl rfl rfl rfl rfl ?_
      refine VL_val rfl rfl rfl (yd_pick_t rfl rfl) ?_
      refine VL_val rfl rfl rfl (yd_move rfl) ?_
      refine VL_no rfl rfl rfl rfl rfl rfl rfl ?_
      refine VL_no rfl rfl rfl rfl rfl rfl rfl ?_
      refine VL_no rfl rfl rfl rfl rfl rfl rfl ?_
      refine VL_no rfl rfl rfl rfl rfl rfl rfl ?_
      refine VL_val rfl rfl rfl (yd_pick_t rfl rfl) ?_
      refine VL_val rfl rfl rfl (yd_move rfl) ?_
      refine VL_no rfl rfl rfl rfl rfl rfl rfl ?_
      refine VL_no rfl rfl rfl rfl rfl rfl rfl ?_
      refine VL_no rfl rfl rfl rfl rfl rfl rfl ?_
      refine VL_no rfl rfl rfl rfl rfl rfl rfl ?_
      refine VL_val rfl rfl rfl (yd_pick_t rfl rfl) ?_
      refine VL_nil ?_
      refine VE_then ?_
      refine VC_cond_t rfl ?_
      refine VC_seq ?_
      refine VC_region ?_
      refine VL_val rfl rfl rfl (yd_assign rfl) ?_
      refine VL_nil ?_
      refine VE_then ?_
      refine VC_ret ?_
      refine VE_then_ret (?_)
      refine VE_ret1 (rfl) rfl ?_
      exact ⟨rfl, hS.below⟩
    · replace h16 := V.nf h16
      have hgt := h16
      obtain ⟨G, hG, hg, hGl⟩ := graph_of_rows hR (hgi.1 hgt)
      have hg12 : G.length ≤ 12 := by have := (hgi.1 hgt).2.1; omega
      have hle := hg.le
      have hpos := hg.pos
      have hG0 := hG
      obtain ⟨ga, gc, gb, go, rfl, hga, hrow⟩ := hG
      obtain rfl := hga (by omega)
      refine VL_yes rfl rfl rfl rfl ?_
      refine VL_val rfl rfl rfl (yd_move rfl) ?_
      refine VL_yes rfl rfl rfl rfl ?_
      refine VL_val rfl rfl rfl (yd_move rfl) ?_
      refine VL_yes rfl rfl rfl rfl ?_
      refine VL_call rfl rfl rfl rfl T.call23 rfl (block_ok (hS.graph hG0)) ?_
      rintro _ _ ⟨rfl, bx, rfl, hbx⟩
      refine VL_yes rfl rfl rfl rfl ?_
      refine VL_val rfl rfl rfl (yd_not rfl) ?_
      refine VL_val rfl rfl rfl (yd_pick_f rfl rfl) ?_
      refine VL_val rfl rfl rfl (yd_move rfl) ?_
      refine VL_split 22 rfl (fun h22 => ?_) (fun h22 => ?_)
      · replace h22 := V.nt h22
        refine VL_no rfl rfl rfl rfl rfl rfl rfl ?_
        refine VL_no rfl rfl rfl rfl rfl rfl rfl ?_
        refine VL_no rfl rfl rfl rfl rfl rfl rfl ?_
        refine VL_no rfl rfl rfl rfl rfl rfl rfl ?_
        refine VL_val rfl rfl rfl (yd_pick_t rfl rfl) ?_
        refine VL_val rfl rfl rfl (yd_move rfl) ?_
        refine VL_no rfl rfl rfl rfl rfl rfl rfl ?_
        refine VL_no rfl rfl rfl rfl rfl rfl rfl ?_
        refine VL_no rfl rfl rfl rfl rfl rfl rfl ?_
        refine VL_no rfl rfl rfl rfl rfl rfl rfl ?_
        refine VL_val rfl rfl rfl (yd_pick_t rfl rfl) ?_
        refine VL_nil ?_
        refine VE_then ?_
        refine VC_cond_t rfl ?_
        refine VC_seq ?_
        refine VC_region ?_
        refine VL_val rfl rfl rfl (yd_assign rfl) ?_
        refine VL_nil ?_
        refine VE_then ?_
        refine VC_ret ?_
        refine VE_then_ret (?_)
        refine VE_ret1 (rfl) rfl ?_
        exact ⟨rfl, hS.below⟩
      · replace h22 := V.nf h22
        have hx := hbx.1 h22
        obtain ⟨xn, rfl⟩ : ∃ xn : Nat, x = xn := ⟨x.toNat, by omega⟩
        have hxn : xn < G.length := by omega
        refine VL_yes rfl rfl rfl rfl ?_
        refine VL_val rfl rfl rfl (yd_move rfl) ?_
        refine VL_yes rfl rfl rfl rfl ?_
        refine VL_val rfl rfl rfl (yd_move rfl) ?_
        refine VL_yes rfl rfl rfl rfl ?_
        refine VL_call rfl rfl rfl rfl T.call23 rfl (block_ok (hS.graph hG0)) ?_
        rintro _ _ ⟨rfl, bo, rfl, hby⟩
        refine VL_yes rfl rfl rfl rfl ?_
        refine VL_val rfl rfl rfl (yd_not rfl) ?_
        refine VL_val rfl rfl rfl (yd_pick_f rfl rfl) ?_
        refine VL_val rfl rfl rfl (yd_move rfl) ?_
        refine VL_split 28 rfl (fun h28 => ?_) (fun h28 => ?_)
        · replace h28 := V.nt h28
          refine VL_no rfl rfl rfl rfl rfl rfl rfl ?_
          refine VL_no rfl rfl rfl rfl rfl rfl rfl ?_
          refine VL_no rfl rfl rfl rfl rfl rfl rfl ?_
          refine VL_no rfl rfl rfl rfl rfl rfl rfl ?_
          refine VL_val rfl rfl rfl (yd_pick_t rfl rfl) ?_
          refine VL_nil ?_
          refine VE_then ?_
          refine VC_cond_t rfl ?_
          refine VC_seq ?_
          refine VC_region ?_
          refine VL_val rfl rfl rfl (yd_assign rfl) ?_
          refine VL_nil ?_
          refine VE_then ?_
          refine VC_ret ?_
          refine VE_then_ret (?_)
          refine VE_ret1 (rfl) rfl ?_
          exact ⟨rfl, hS.below⟩
        · replace h28 := V.nf h28
          have hy := hby.1 h28
          obtain ⟨yn, rfl⟩ : ∃ yn : Nat, y = yn := ⟨y.toNat, by omega⟩
          have hyn : yn < G.length := by omega
          refine VL_yes rfl rfl rfl rfl ?_
          refine VL_val rfl rfl rfl (yd_move rfl) ?_
          refine VL_yes rfl rfl rfl rfl ?_
          refine VL_val rfl rfl rfl (yd_move rfl) ?_
          refine VL_yes rfl rfl rfl rfl ?_
          refine VL_call rfl rfl rfl rfl T.call23 rfl (block_ok (hS.graph hG0)) ?_
          rintro _ _ ⟨rfl, bq, rfl, hbz⟩
          refine VL_yes rfl rfl rfl rfl ?_
          refine VL_val rfl rfl rfl (yd_not rfl) ?_
          refine VL_val rfl rfl rfl (yd_pick_f rfl rfl) ?_
          refine VL_nil ?_
          refine VE_then ?_
          refine VC_cond rfl (fun h33 => ?_) (fun h33 => ?_)
          · replace h33 := V.nt h33
            refine VC_seq ?_
            refine VC_region ?_
            refine VL_val rfl rfl rfl (yd_assign rfl) ?_
            refine VL_nil ?_
            refine VE_then ?_
            refine VC_ret ?_
            refine VE_then_ret (?_)
            refine VE_ret1 (rfl) rfl ?_
            exact ⟨rfl, hS.below⟩
          · replace h33 := V.nf h33
            have hz := hbz.1 h33
            obtain ⟨zn, rfl⟩ : ∃ zn : Nat, z = zn := ⟨z.toNat, by omega⟩
            have hzn : zn < G.length := by omega
            refine VC_skip ?_
            refine VE_then ?_
            refine VC_seq ?_
            refine VC_region ?_
            refine VL_val rfl rfl rfl (yd_move rfl) ?_
            refine VL_call rfl rfl rfl rfl T.call30 rfl (of_ok (hS.graph hG0) hg) ?_
            rintro _ w ⟨s, rfl, hok, hR2⟩
            have hS := hS.call0 hR2
            refine VL_alloc rfl rfl rfl rfl T.e27 hS ?_
            clear hS; intro b9 w hS
            refine VL_storeN (cs := [.slice (some ⟨gb, go, none⟩) G.length gc, s.live G, s.dom G]) rfl rfl rfl rfl rfl T.agg27 (by intro u hu; simp at hu; rcases hu with rfl | rfl | rfl <;> rfl) hS 1 rfl (by simp [Value.cells]) ?_
            clear hS; intro w hS
            have hS : St w0 M0 [shapeR s G, blk b9 27 [.slice (some ⟨gb, go, none⟩) G.length gc, s.live G, s.dom G]] w := hS
            refine VL_nil ?_
            refine VE_then ?_
            refine VC_seq ?_
            refine VC_seq ?_
            refine VC_region ?_
            refine VL_val rfl rfl rfl (yd_field rfl T.fld27_1) ?_
            refine VL_val rfl rfl rfl (yd_load rfl T.one24 (blk_cell (hS.get 1 rfl) rfl)) ?_
            refine VL_val rfl rfl rfl (yd_move rfl) ?_
            refine VL_val rfl rfl rfl (yd_index0 rfl rfl Try.underlying24 T.sz4 (by omega)) ?_
            refine VL_val rfl rfl rfl (yd_load rfl T.one4 ((shapeAt (hS.graph hG0) hok (hS.get 0 rfl)).live xn hxn)) ?_
            refine VL_val rfl rfl rfl (yd_not rfl) ?_
            refine VL_val rfl rfl rfl (yd_move rfl) ?_
            refine VL_split 42 rfl (fun h42 => ?_) (fun h42 => ?_)
            · replace h42 := V.nt h42
              refine VL_no rfl rfl rfl rfl rfl rfl rfl ?_
              refine VL_no rfl rfl rfl rfl rfl rfl rfl ?_
              refine VL_no rfl rfl rfl rfl rfl rfl rfl ?_
              refine VL_no rfl rfl rfl rfl rfl rfl rfl ?_
              refine VL_no rfl rfl rfl rfl rfl rfl rfl ?_
              refine VL_no rfl rfl rfl rfl rfl rfl rfl ?_
              refine VL_val rfl rfl rfl (yd_pick_t rfl rfl) ?_
              refine VL_val rfl rfl rfl (yd_move rfl) ?_
              refine VL_no rfl rfl rfl rfl rfl rfl rfl ?_
              refine VL_no rfl rfl rfl rfl rfl rfl rfl ?_
              refine VL_no rfl rfl rfl rfl rfl rfl rfl ?_
              refine VL_no rfl rfl rfl rfl rfl rfl rfl ?_
              refine VL_no rfl rfl rfl rfl rfl rfl rfl ?_
              refine VL_no rfl rfl rfl rfl rfl rfl rfl ?_
              refine VL_val rfl rfl rfl (yd_pick_t rfl rfl) ?_
              refine VL_val rfl rfl rfl (yd_move rfl) ?_
              refine VL_no rfl rfl rfl rfl rfl rfl rfl ?_
              refine VL_no rfl rfl rfl rfl rfl rfl rfl ?_
              refine VL_no rfl rfl rfl rfl rfl rfl rfl ?_
              refine VL_no rfl rfl rfl rfl rfl rfl rfl ?_
              refine VL_no rfl rfl rfl rfl rfl rfl rfl ?_
              refine VL_no rfl rfl rfl rfl rfl rfl rfl ?_
              refine VL_no rfl rfl rfl rfl rfl rfl rfl ?_
              refine VL_no rfl rfl rfl rfl rfl rfl rfl ?_
              refine VL_no rfl rfl rfl rfl rfl rfl rfl ?_
              refine VL_val rfl rfl rfl (yd_pick_t rfl rfl) ?_
              refine VL_val rfl rfl rfl (yd_move rfl) ?_
              refine VL_no rfl rfl rfl rfl rfl rfl rfl ?_
              refine VL_no rfl rfl rfl rfl rfl rfl rfl ?_
              refine VL_no rfl rfl rfl rfl rfl rfl rfl ?_
              refine VL_no rfl rfl rfl rfl rfl rfl rfl ?_
              refine VL_no rfl rfl rfl rfl rfl rfl rfl ?_
              refine VL_no rfl rfl rfl rfl rfl rfl rfl ?_
              refine VL_no rfl rfl rfl rfl rfl rfl rfl ?_
              refine VL_no rfl rfl rfl rfl rfl rfl rfl ?_
              refine VL_no rfl rfl rfl rfl rfl rfl rfl ?_
              refine VL_val rfl rfl rfl (yd_pick_t rfl rfl) ?_
              refine VL_nil ?_
              refine VE_then ?_
              refine VC_cond_t rfl ?_
              refine VC_seq ?_
              refine VC_region ?_
              refine VL_val rfl rfl rfl (yd_assign rfl) ?_
              refine VL_nil ?_
              refine VE_then ?_
              refine VC_ret ?_
              refine VE_then_ret (?_)
              refine VE_ret1 (rfl) rfl ?_
              exact ⟨rfl, hS.below⟩
            · replace h42 := V.nf h42
              have hlx := (hok.lv xn).1 h42
              have hxm := ((postL_ok hg).mem xn).2 hlx
              refine VL_yes rfl rfl rfl rfl ?_
              refine VL_val rfl rfl rfl (yd_field rfl T.fld27_1) ?_
              refine VL_yes rfl rfl rfl rfl ?_
              refine VL_val rfl rfl rfl (yd_load rfl T.one24 (blk_cell (hS.get 1 rfl) rfl)) ?_
              refine VL_yes rfl rfl rfl rfl ?_
              refine VL_val rfl rfl rfl (yd_move rfl) ?_
              refine VL_yes rfl rfl rfl rfl ?_
              refine VL_val rfl rfl rfl (yd_index0 rfl rfl Try.underlying24 T.sz4 (by omega)) ?_
              refine VL_yes rfl rfl rfl rfl ?_
              refine VL_val rfl rfl rfl (yd_load rfl T.one4 ((shapeAt (hS.graph hG0) hok (hS.get 0 rfl)).live yn hyn)) ?_
              refine VL_yes rfl rfl rfl rfl ?_
              refine VL_val rfl rfl rfl (yd_not rfl) ?_
              refine VL_val rfl rfl rfl (yd_pick_f rfl rfl) ?_
              refine VL_val rfl rfl rfl (yd_move rfl) ?_
              refine VL_split 50 rfl (fun h50 => ?_) (fun h50 => ?_)
              · replace h50 := V.nt h50
                refine VL_no rfl rfl rfl rfl rfl rfl rfl ?_
                refine VL_no rfl rfl rfl rfl rfl rfl rfl ?_
                refine VL_no rfl rfl rfl rfl rfl rfl rfl ?_
                refine VL_no rfl rfl rfl rfl rfl rfl rfl ?_
                refine VL_no rfl rfl rfl rfl rfl rfl rfl ?_
                refine VL_no rfl rfl rfl rfl rfl rfl rfl ?_
                refine VL_val rfl rfl rfl (yd_pick_t rfl rfl) ?_
                refine VL_val rfl rfl rfl (yd_move rfl) ?_
                refine VL_no rfl rfl rfl rfl rfl rfl rfl ?_
                refine VL_no rfl rfl rfl rfl rfl rfl rfl ?_
                refine VL_no rfl rfl rfl rfl rfl rfl rfl ?_
                refine VL_no rfl rfl rfl rfl rfl rfl rfl ?_
                refine VL_no rfl rfl rfl rfl rfl rfl rfl ?_
                refine VL_no rfl rfl rfl rfl rfl rfl rfl ?_
                refine VL_no rfl rfl rfl rfl rfl rfl rfl ?_
                refine VL_no rfl rfl rfl rfl rfl rfl rfl ?_
                refine VL_no rfl rfl rfl rfl rfl rfl rfl ?_
                refine VL_val rfl rfl rfl (yd_pick_t rfl rfl) ?_
                refine VL_val rfl rfl rfl (yd_move rfl) ?_
                refine VL_no rfl rfl rfl rfl rfl rfl rfl ?_
                refine VL_no rfl rfl rfl rfl rfl rfl rfl ?_
                refine VL_no rfl rfl rfl rfl rfl rfl rfl ?_
                refine VL_no rfl rfl rfl rfl rfl rfl rfl ?_
                refine VL_no rfl rfl rfl rfl rfl rfl rfl ?_
                refine VL_no rfl rfl rfl rfl rfl rfl rfl ?_
                refine VL_no rfl rfl rfl rfl rfl rfl rfl ?_
                refine VL_no rfl rfl rfl rfl rfl rfl rfl ?_
                refine VL_no rfl rfl rfl rfl rfl rfl rfl ?_
                refine VL_val rfl rfl rfl (yd_pick_t rfl rfl) ?_
                refine VL_nil ?_
                refine VE_then ?_
                refine VC_cond_t rfl ?_
                refine VC_seq ?_
                refine VC_region ?_
                refine VL_val rfl rfl rfl (yd_assign rfl) ?_
                refine VL_nil ?_
                refine VE_then ?_
                refine VC_ret ?_
                refine VE_then_ret (?_)
                refine VE_ret1 (rfl) rfl ?_
                exact ⟨rfl, hS.below⟩
              · replace h50 := V.nf h50
                have hly := (hok.lv yn).1 h50
                have hym := ((postL_ok hg).mem yn).2 hly
                refine VL_yes rfl rfl rfl rfl ?_
                refine VL_val rfl rfl rfl (yd_field rfl T.fld27_1) ?_
                refine VL_yes rfl rfl rfl rfl ?_
                refine VL_val rfl rfl rfl (yd_load rfl T.one24 (blk_cell (hS.get 1 rfl) rfl)) ?_
                refine VL_yes rfl rfl rfl rfl ?_
                refine VL_val rfl rfl rfl (yd_move rfl) ?_
                refine VL_yes rfl rfl rfl rfl ?_
                refine VL_val rfl rfl rfl (yd_index0 rfl rfl Try.underlying24 T.sz4 (by omega)) ?_
                refine VL_yes rfl rfl rfl rfl ?_
                refine VL_val rfl rfl rfl (yd_load rfl T.one4 ((shapeAt (hS.graph hG0) hok (hS.get 0 rfl)).live zn hzn)) ?_
                refine VL_yes rfl rfl rfl rfl ?_
                refine VL_val rfl rfl rfl (yd_not rfl) ?_
                refine VL_val rfl rfl rfl (yd_pick_f rfl rfl) ?_
                refine VL_val rfl rfl rfl (yd_move rfl) ?_
                refine VL_split 58 rfl (fun h58 => ?_) (fun h58 => ?_)
                · replace h58 := V.nt h58
                  refine VL_no rfl rfl rfl rfl rfl rfl rfl ?_
                  refine VL_no rfl rfl rfl rfl rfl rfl rfl ?_
                  refine VL_no rfl rfl rfl rfl rfl rfl rfl ?_
                  refine VL_no rfl rfl rfl rfl rfl rfl rfl ?_
                  refine VL_no rfl rfl rfl rfl rfl rfl rfl ?_
                  refine VL_no rfl rfl rfl rfl rfl rfl rfl ?_
                  refine VL_no rfl rfl rfl rfl rfl rfl rfl ?_
                  refine VL_no rfl rfl rfl rfl rfl rfl rfl ?_
                  refine VL_no rfl rfl rfl rfl rfl rfl rfl ?_
                  refine VL_val rfl rfl rfl (yd_pick_t rfl rfl) ?_
                  refine VL_val rfl rfl rfl (yd_move rfl) ?_
                  refine VL_no rfl rfl rfl rfl rfl rfl rfl ?_
                  refine VL_no rfl rfl rfl rfl rfl rfl rfl ?_
                  refine VL_no rfl rfl rfl rfl rfl rfl rfl ?_
                  refine VL_no rfl rfl rfl rfl rfl rfl rfl ?_
                  refine VL_no rfl rfl rfl rfl rfl rfl rfl ?_
                  refine VL_no rfl rfl rfl rfl rfl rfl rfl ?_
                  refine VL_no rfl rfl rfl rfl rfl rfl rfl ?_
                  refine VL_no rfl rfl rfl rfl rfl rfl rfl ?_
                  refine VL_no rfl rfl rfl rfl rfl rfl rfl ?_
                  refine VL_val rfl rfl rfl (yd_pick_t rfl rfl) ?_
                  refine VL_nil ?_
                  refine VE_then ?_
                  refine VC_cond_t rfl ?_
                  refine VC_seq ?_
                  refine VC_region ?_
                  refine VL_val rfl rfl rfl (yd_assign rfl) ?_
                  refine VL_nil ?_
                  refine VE_then ?_
                  refine VC_ret ?_
                  refine VE_then_ret (?_)
                  refine VE_ret1 (rfl) rfl ?_
                  exact ⟨rfl, hS.below⟩
                · replace h58 := V.nf h58
                  have hlz := (hok.lv zn).1 h58
                  refine VL_yes rfl rfl rfl rfl ?_
                  refine VL_val rfl rfl rfl (yd_field rfl T.fld27_2) ?_
                  refine VL_yes rfl rfl rfl rfl ?_
                  refine VL_val rfl rfl rfl (yd_load rfl T.one25 (blk_cell (hS.get 1 rfl) rfl)) ?_
                  refine VL_yes rfl rfl rfl rfl ?_
                  refine VL_val rfl rfl rfl (yd_move rfl) ?_
                  refine VL_yes rfl rfl rfl rfl ?_
                  refine VL_val rfl rfl rfl (yd_index0 rfl rfl Try.underlying25 T.sz24 (by omega)) ?_
                  refine VL_yes rfl rfl rfl rfl ?_
                  refine VL_val rfl rfl rfl (yd_load rfl T.one24 ((shapeAt (hS.graph hG0) hok (hS.get 0 rfl)).row xn hxn)) ?_
                  refine VL_yes rfl rfl rfl rfl ?_
                  refine VL_val rfl rfl rfl (yd_move rfl) ?_
                  refine VL_yes rfl rfl rfl rfl ?_
                  refine VL_val rfl rfl rfl (yd_index0 rfl rfl Try.underlying24 T.sz4 (by omega)) ?_
                  refine VL_yes rfl rfl rfl rfl ?_
                  refine VL_val rfl rfl rfl (yd_load rfl T.one4 ((shapeAt (hS.graph hG0) hok (hS.get 0 rfl)).dom xn zn hxn hzn)) ?_
                  refine VL_yes rfl rfl rfl rfl ?_
                  refine VL_val rfl rfl rfl (yd_not rfl) ?_
                  refine VL_val rfl rfl rfl (yd_pick_f rfl rfl) ?_
                  refine VL_val rfl rfl rfl (yd_move rfl) ?_
                  refine VL_split 69 rfl (fun h69 => ?_) (fun h69 => ?_)
                  · replace h69 := V.nt h69
                    refine VL_no rfl rfl rfl rfl rfl rfl rfl ?_
                    refine VL_no rfl rfl rfl rfl rfl rfl rfl ?_
                    refine VL_no rfl rfl rfl rfl rfl rfl rfl ?_
                    refine VL_no rfl rfl rfl rfl rfl rfl rfl ?_
                    refine VL_no rfl rfl rfl rfl rfl rfl rfl ?_
                    refine VL_no rfl rfl rfl rfl rfl rfl rfl ?_
                    refine VL_no rfl rfl rfl rfl rfl rfl rfl ?_
                    refine VL_no rfl rfl rfl rfl rfl rfl rfl ?_
                    refine VL_no rfl rfl rfl rfl rfl rfl rfl ?_
                    refine VL_val rfl rfl rfl (yd_pick_t rfl rfl) ?_
                    refine VL_nil ?_
                    refine VE_then ?_
                    refine VC_cond_t rfl ?_
                    refine VC_seq ?_
                    refine VC_region ?_
                    refine VL_val rfl rfl rfl (yd_assign rfl) ?_
                    refine VL_nil ?_
                    refine VE_then ?_
                    refine VC_ret ?_
                    refine VE_then_ret (?_)
                    refine VE_ret1 (rfl) rfl ?_
                    exact ⟨rfl, hS.below⟩
                  · replace h69 := V.nf h69
                    have hdx := (hok.dm xn zn).1 h69
                    refine VL_yes rfl rfl rfl rfl ?_
                    refine VL_val rfl rfl rfl (yd_field rfl T.fld27_2) ?_
                    refine VL_yes rfl rfl rfl rfl ?_
                    refine VL_val rfl rfl rfl (yd_load rfl T.one25 (blk_cell (hS.get 1 rfl) rfl)) ?_
                    refine VL_yes rfl rfl rfl rfl ?_
                    refine VL_val rfl rfl rfl (yd_move rfl) ?_
                    refine VL_yes rfl rfl rfl rfl ?_
                    refine VL_val rfl rfl rfl (yd_index0 rfl rfl Try.underlying25 T.sz24 (by omega)) ?_
                    refine VL_yes rfl rfl rfl rfl ?_
                    refine VL_val rfl rfl rfl (yd_load rfl T.one24 ((shapeAt (hS.graph hG0) hok (hS.get 0 rfl)).row yn hyn)) ?_
                    refine VL_yes rfl rfl rfl rfl ?_
                    refine VL_val rfl rfl rfl (yd_move rfl) ?_
                    refine VL_yes rfl rfl rfl rfl ?_
                    refine VL_val rfl rfl rfl (yd_index0 rfl rfl Try.underlying24 T.sz4 (by omega)) ?_
                    refine VL_yes rfl rfl rfl rfl ?_
                    refine VL_val rfl rfl rfl (yd_load rfl T.one4 ((shapeAt (hS.graph hG0) hok (hS.get 0 rfl)).dom yn zn hyn hzn)) ?_
                    refine VL_yes rfl rfl rfl rfl ?_
                    refine VL_val rfl rfl rfl (yd_not rfl) ?_
                    refine VL_val rfl rfl rfl (yd_pick_f rfl rfl) ?_
                    refine VL_nil ?_
                    refine VE_then ?_
                    refine VC_cond rfl (fun h79 => ?_) (fun h79 => ?_)
                    · replace h79 := V.nt h79
                      refine VC_seq ?_
                      refine VC_region ?_
                      refine VL_val rfl rfl rfl (yd_assign rfl) ?_
                      refine VL_nil ?_
                      refine VE_then ?_
                      refine VC_ret ?_
                      refine VE_then_ret (?_)
                      refine VE_ret1 (rfl) rfl ?_
                      exact ⟨rfl, hS.below⟩
                    · replace h79 := V.nf h79
                      have hdy := (hok.dm yn zn).1 h79
                      refine VC_skip ?_
                      refine VE_then ?_
                      refine VC_seq ?_
                      refine VC_region ?_
                      refine VL_val rfl rfl rfl (yd_move rfl) ?_
                      refine VL_val rfl rfl rfl (yd_move rfl) ?_
                      refine VL_val rfl rfl rfl (yd_move rfl) ?_
                      refine VL_call rfl rfl rfl rfl T.call33 rfl (implIsAncestorEq_ok (hS.graph hG0) hg hxn hyn hlx hly) ?_
                      rintro _ w ⟨b, rfl, hb, hR3⟩
                      have hS := hS.call0 hR3
                      refine VL_val rfl rfl rfl (yd_move rfl) ?_
                      refine VL_split 84 rfl (fun h84 => ?_) (fun h84 => ?_)
                      · skip
                        refine VL_no rfl rfl rfl rfl rfl rfl rfl ?_
                        refine VL_no rfl rfl rfl rfl rfl rfl rfl ?_
                        refine VL_no rfl rfl rfl rfl rfl rfl rfl ?_
                        refine VL_no rfl rfl rfl rfl rfl rfl rfl ?_
                        refine VL_val rfl rfl rfl (yd_pick_t rfl rfl) ?_
                        refine VL_val rfl rfl rfl (yd_assign rfl) ?_
                        refine VL_nil ?_
                        refine VE_then ?_
                        refine VC_ret ?_
                        refine VE_ret1 (rfl) rfl ?_
                        first
                        | exact ⟨rfl, hS.below⟩
                        | (refine ⟨congrArg Value.bool ?_, hS.below⟩; rw [hb2]; rcases Dm.total hdx hdy with h | h; (rw [← hb, h84] at h; cases h); exact h)
                      · skip
                        refine VL_yes rfl rfl rfl rfl ?_
                        refine VL_val rfl rfl rfl (yd_move rfl) ?_
                        refine VL_yes rfl rfl rfl rfl ?_
                        refine VL_val rfl rfl rfl (yd_move rfl) ?_
                        refine VL_yes rfl rfl rfl rfl ?_
                        refine VL_val rfl rfl rfl (yd_move rfl) ?_
                        refine VL_yes rfl rfl rfl rfl ?_
                        refine VL_call rfl rfl rfl rfl T.call33 rfl (implIsAncestorEq_ok (hS.graph hG0) hg hyn hxn hly hlx) ?_
                        rintro _ w ⟨b2, rfl, hb2, hR4⟩
                        have hS := hS.call0 hR4
                        refine VL_val rfl rfl rfl (yd_pick_f rfl rfl) ?_
                        refine VL_val rfl rfl rfl (yd_assign rfl) ?_
                        refine VL_nil ?_
                        refine VE_then ?_
                        refine VC_ret ?_
                        refine VE_ret1 (rfl) rfl ?_
                        first
                        | exact ⟨rfl, hS.below⟩
                        | (refine ⟨congrArg Value.bool ?_, hS.below⟩; rw [hb2]; rcases Dm.total hdx hdy with h | h; (rw [← hb, h84] at h; cases h); exact h)

end Go.Proofs.Ytmoooaaiohplhab
