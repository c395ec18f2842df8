/- The children are in reverse postorder. -/
import Derived.Test.YtmoooaaiohplhacWy
namespace Go.Proofs.Ytmoooaaiohplhac
open Go Go.V
set_option linter.unusedVariables false
set_option maxRecDepth 100000

theorem T.call12 : CallT Try.prog 12 := CallT.of Try.func12 (by kernel_rfl) (by kernel_rfl)
theorem T.call13 : CallT Try.prog 13 := CallT.of Try.func13 (by kernel_rfl) (by kernel_rfl)
theorem T.call14 : CallT Try.prog 14 := CallT.of Try.func14 (by kernel_rfl) (by kernel_rfl)
theorem T.call16 : CallT Try.prog 16 := CallT.of Try.func16 (by kernel_rfl) (by kernel_rfl)
theorem T.call17 : CallT Try.prog 17 := CallT.of Try.func17 (by kernel_rfl) (by kernel_rfl)
theorem T.call18 : CallT Try.prog 18 := CallT.of Try.func18 (by kernel_rfl) (by kernel_rfl)
theorem T.call19 : CallT Try.prog 19 := CallT.of Try.func19 (by kernel_rfl) (by kernel_rfl)
open Go.PL
theorem fnTreeOrder_calls {w0 : World} {v : Value} {G0 : List (List Int)} {x : Int} (hR : RowsAt w0 v G0) : Calls Try.prog 3 #[v, .int .i64 x] w0 (Ret fun u w' => u = .bool true ∧ RowKit.Below w0.heap.size w0 w') := by
  have hS := St.refl w0
  refine V_enter (N := 90) Try.func3 rfl Try.ntmps3 rfl ?_
  refine VC.sub (τ := [(0, _), (1, _)]) ⟨rfl, rfl, trivial⟩ ?_
  refine VC_seq ?_
  refine VC_region ?_
  refine VL_val rfl rfl rfl (yd_assign rfl) ?_
  refine VL_nil ?_
  refine VE_then ?_
  refine VC_seq ?_
  refine VC_seq ?_
  refine VC_region ?_
  refine VL_val rfl rfl rfl (yd_move rfl) ?_
  refine VL_call rfl rfl rfl rfl T.call12 rfl (zzFits1_ok (hS.rows hR)) ?_
  rintro _ _ ⟨rfl, bz, rfl, hz⟩
  refine VL_val rfl rfl rfl (yd_not rfl) ?_
  refine VL_nil ?_
  refine VE_then ?_
  refine VC_cond rfl (fun h14 => ?_) (fun h14 => ?_)
  · replace h14 := V.nt h14
    refine VC_seq ?_
    refine VC_region ?_
    refine VL_val rfl rfl rfl (yd_assign rfl) ?_
    refine VL_nil ?_
    refine VE_then ?_
    refine VC_ret ?_
    refine VE_then_ret (?_)
    refine VE_ret1 (rfl) rfl ?_
    exact ⟨rfl, hS.below⟩
  · replace h14 := V.nf h14
    have hzt := h14
    refine VC_skip ?_
    refine VE_then ?_
    refine VC_seq ?_
    refine VC_seq ?_
    refine VC_region ?_
    refine VL_val rfl rfl rfl (yd_move rfl) ?_
    refine VL_call rfl rfl rfl rfl T.call13 rfl (good_ok (hS.rows hR) (hz hzt)) ?_
    rintro _ _ ⟨rfl, bg, rfl, hgi⟩
    refine VL_val rfl rfl rfl (yd_not rfl) ?_
    refine VL_val rfl rfl rfl (yd_move rfl) ?_
    refine VL_split 18 rfl (fun h18 => ?_) (fun h18 => ?_)
    · replace h18 := V.nt h18
      refine VL_no rfl rfl rfl rfl rfl rfl rfl ?_
      refine VL_no rfl rfl rfl rfl rfl rfl rfl ?_
      refine VL_no rfl rfl rfl rfl rfl rfl rfl ?_
      refine VL_no rfl rfl rfl rfl rfl rfl rfl ?_
      refine VL_val rfl rfl rfl (yd_pick_t rfl rfl) ?_
      refine VL_val rfl rfl rfl (yd_move rfl) ?_
      refine VL_no rfl rfl rfl rfl rfl rfl rfl ?_
      refine VL_no rfl rfl rfl rfl rfl rfl rfl ?_
      refine VL_no rfl rfl rfl rfl rfl rfl rfl ?_
      refine VL_no rfl rfl rfl rfl rfl rfl rfl ?_
      refine VL_no rfl rfl rfl rfl rfl rfl rfl ?_
      refine VL_no rfl rfl rfl rfl rfl rfl rfl ?_
      refine VL_val rfl rfl rfl (yd_pick_t rfl rfl) ?_
      refine VL_nil ?_
      refine VE_then ?_
      refine VC_cond_t rfl ?_
      refine VC_seq ?_
      refine VC_region ?_
      refine VL_val rfl rfl rfl (yd_assign rfl) ?_
      refine VL_nil ?_
      refine VE_then ?_
      refine VC_ret ?_
      refine VE_then_ret (?_)
      refine VE_ret1 (rfl) rfl ?_
      exact ⟨rfl, hS.below⟩
    · replace h18 := V.nf h18
      have hgt := h18
      obtain ⟨G, hG, hg, hGl⟩ := graph_of_rows hR (hgi.1 hgt)
      have hg12 : G.length ≤ 12 := by have := (hgi.1 hgt).2.1; omega
      have hle := hg.le
      have hpos := hg.pos
      have hG0 := hG
      obtain ⟨ga, gc, gb, go, rfl, hga, hrow⟩ := hG
      obtain rfl := hga (by omega)
      have hP := postL_ok hg
      have hpp := postL_pos hg
      have hpl := postL_le hg
      refine VL_yes rfl rfl rfl rfl ?_
      refine VL_val rfl rfl rfl (yd_move rfl) ?_
      refine VL_yes rfl rfl rfl rfl ?_
      refine VL_val rfl rfl rfl (yd_move rfl) ?_
      refine VL_yes rfl rfl rfl rfl ?_
      refine VL_call rfl rfl rfl rfl T.call14 rfl (block_ok (hS.graph hG0)) ?_
      rintro _ _ ⟨rfl, bx, rfl, hbx⟩
      refine VL_yes rfl rfl rfl rfl ?_
      refine VL_val rfl rfl rfl (yd_not rfl) ?_
      refine VL_val rfl rfl rfl (yd_pick_f rfl rfl) ?_
      refine VL_val rfl rfl rfl (yd_move rfl) ?_
      refine VL_split 24 rfl (fun h24 => ?_) (fun h24 => ?_)
      · replace h24 := V.nt h24
        refine VL_no rfl rfl rfl rfl rfl rfl rfl ?_
        refine VL_no rfl rfl rfl rfl rfl rfl rfl ?_
        refine VL_no rfl rfl rfl rfl rfl rfl rfl ?_
        refine VL_no rfl rfl rfl rfl rfl rfl rfl ?_
        refine VL_no rfl rfl rfl rfl rfl rfl rfl ?_
        refine VL_no rfl rfl rfl rfl rfl rfl rfl ?_
        refine VL_val rfl rfl rfl (yd_pick_t rfl rfl) ?_
        refine VL_nil ?_
        refine VE_then ?_
        refine VC_cond_t rfl ?_
        refine VC_seq ?_
        refine VC_region ?_
        refine VL_val rfl rfl rfl (yd_assign rfl) ?_
        refine VL_nil ?_
        refine VE_then ?_
        refine VC_ret ?_
        refine VE_then_ret (?_)
        refine VE_ret1 (rfl) rfl ?_
        exact ⟨rfl, hS.below⟩
      · replace h24 := V.nf h24
        have hx := hbx.1 h24
        obtain ⟨xn, rfl⟩ : ∃ xn : Nat, x = xn := ⟨x.toNat, by omega⟩
        have hxn : xn < G.length := by omega
        refine VL_yes rfl rfl rfl rfl ?_
        refine VL_val rfl rfl rfl (yd_move rfl) ?_
        refine VL_yes rfl rfl rfl rfl ?_
        refine VL_call rfl rfl rfl rfl T.call15 rfl (reach_ok (hS.graph hG0) hg hpos) ?_
        rintro _ w ⟨lb, R, rfl, hR2, hIR⟩
        have hS := hS.call0 hR2
        have hRl := hIR.1
        refine VL_yes rfl rfl rfl rfl ?_
        refine VL_val rfl rfl rfl (yd_move rfl) ?_
        refine VL_yes rfl rfl rfl rfl ?_
        refine VL_val rfl rfl rfl (yd_index0 rfl rfl Try.underlying25 T.sz4 (by omega)) ?_
        refine VL_yes rfl rfl rfl rfl ?_
        refine VL_val rfl rfl rfl (yd_load rfl T.one4 (blk_cellM (hS.get 0 rfl) (by omega))) ?_
        refine VL_yes rfl rfl rfl rfl ?_
        refine VL_val rfl rfl rfl (yd_not rfl) ?_
        refine VL_val rfl rfl rfl (yd_pick_f rfl rfl) ?_
        refine VL_nil ?_
        refine VE_then ?_
        refine VC_cond rfl (fun h31 => ?_) (fun h31 => ?_)
        · replace h31 := V.nt h31
          refine VC_seq ?_
          refine VC_region ?_
          refine VL_val rfl rfl rfl (yd_assign rfl) ?_
          refine VL_nil ?_
          refine VE_then ?_
          refine VC_ret ?_
          refine VE_then_ret (?_)
          refine VE_ret1 (rfl) rfl ?_
          exact ⟨rfl, hS.below⟩
        · replace h31 := V.nf h31
          have hlx := ((hIR.2 xn hxn).1 h31).2
          have hxm := ((postL_ok hg).mem xn).2 hlx
          refine VC_skip ?_
          refine VE_then ?_
          refine VC_seq ?_
          refine VC_region ?_
          refine VL_val rfl rfl rfl (yd_move rfl) ?_
          refine VL_call rfl rfl rfl rfl T.call16 rfl (implTree_ok (hS.graph hG0) hg) ?_
          rintro utree w ⟨L, t, hid, hok2, hR1⟩
          have hS := hS.call0 hR1
          obtain ⟨tb, tc, rfl, -⟩ := row_form (hS.get 1 rfl) (.inr (by omega))
          have hT := tree_idoms hg hid
          have hil := hid.len
          refine VL_val rfl rfl rfl (yd_assign rfl) ?_
          refine VL_nil ?_
          refine VE_then ?_
          refine VC_seq ?_
          refine VC_region ?_
          refine VL_val rfl rfl rfl (yd_move rfl) ?_
          refine VL_call rfl rfl rfl rfl T.call18 rfl (implPostorder_ok (hS.graph hG0) hg) ?_
          rintro upo w hR3
          have hS := hS.call0 hR3
          obtain ⟨pb, pc, rfl, -⟩ := row_form (hS.get 2 rfl) (.inr hpp)
          refine VL_val rfl rfl rfl (yd_move rfl) ?_
          refine VL_val rfl rfl rfl (yd_len rfl Try.underlying22) ?_
          refine VL_call rfl rfl rfl rfl T.call17 rfl (places_ok (v := .slice (some ⟨pb, 0, none⟩) (postL G).length pc) (l := postL G) (by have := ints_of_row (l := zL (postL G)) (by rw [zL_len]; exact hS.get 2 rfl); exact this) (by omega) (by omega) (fun i hi => postL_lt hg hi) hP.nd') ?_
          rintro _ w ⟨ab, A, rfl, hR4, hAp⟩
          have hS := hS.call0 hR4
          have hAl := hAp.1
          refine VL_val rfl rfl rfl (yd_move rfl) ?_
          refine VL_val rfl rfl rfl (yd_extract rfl rfl) ?_
          refine VL_val rfl rfl rfl (yd_extract rfl rfl) ?_
          refine VL_val rfl rfl rfl (yd_assign rfl) ?_
          refine VL_val rfl rfl rfl (yd_assign rfl) ?_
          refine VL_nil ?_
          refine VE_then ?_
          refine VC_seq ?_
          refine VC_seq ?_
          refine VC_region ?_
          refine VL_val rfl rfl rfl (yd_move rfl) ?_
          refine VL_val rfl rfl rfl (yd_not rfl) ?_
          refine VL_val rfl rfl rfl (yd_move rfl) ?_
          refine VL_split 44 rfl (fun h44 => ?_) (fun h44 => ?_)
          · replace h44 := V.nt h44
            cases h44
          · replace h44 := V.nf h44
            refine VL_yes rfl rfl rfl rfl ?_
            refine VL_val rfl rfl rfl (yd_move rfl) ?_
            refine VL_yes rfl rfl rfl rfl ?_
            refine VL_val rfl rfl rfl (yd_len rfl Try.underlying27) ?_
            refine VL_yes rfl rfl rfl rfl ?_
            refine VL_val rfl rfl rfl (yd_move rfl) ?_
            refine VL_yes rfl rfl rfl rfl ?_
            refine VL_val rfl rfl rfl (yd_len rfl Try.underlying22) ?_
            refine VL_yes rfl rfl rfl rfl ?_
            refine VL_val rfl rfl rfl (yd_neq rfl rfl) ?_
            refine VL_val rfl rfl rfl (yd_pick_f rfl rfl) ?_
            refine VL_nil ?_
            refine VE_then ?_
            refine VC_cond rfl (fun h50 => ?_) (fun h50 => ?_)
            · replace h50 := of_decide_eq_true h50
              exact absurd (by omega) h50
            · replace h50 := Decidable.not_not.1 (of_decide_eq_false h50)
              refine VC_skip ?_
              refine VE_then ?_
              refine VC_seq ?_
              refine VC_region ?_
              refine VL_val rfl rfl rfl (yd_move rfl) ?_
              refine VL_val rfl rfl rfl (yd_move rfl) ?_
              refine VL_call rfl rfl rfl rfl T.call19 rfl (below_ok hg hT hok2.toTB (hS.get 1 rfl) hxn) ?_
              rintro _ w ⟨qb, qc, rfl, hR5⟩
              have hS := hS.call0 hR5
              have hchl := chs_le hg hT xn
              refine VL_val rfl rfl rfl (yd_move rfl) ?_
              refine VL_val rfl rfl rfl (yd_extract rfl rfl) ?_
              refine VL_val rfl rfl rfl (yd_extract rfl rfl) ?_
              refine VL_val rfl rfl rfl (yd_assign rfl) ?_
              refine VL_val rfl rfl rfl (yd_assign rfl) ?_
              refine VL_nil ?_
              refine VE_then ?_
              refine VC_seq ?_
              refine VC_seq ?_
              refine VC_region ?_
              refine VL_val rfl rfl rfl (yd_move rfl) ?_
              refine VL_val rfl rfl rfl (yd_len rfl Try.underlying29) ?_
              refine VL_val rfl rfl rfl (yd_move rfl) ?_
              refine VL_nil ?_
              refine VE_then ?_
              refine VC_block ?_
              refine VC_loop1 [6, 8, 9, 57, 58] [_, _, _, _, _] rfl (fun (k : Nat) => [(59, .int .i64 ((k : Nat) : Int))]) (fun (k : Nat) w => k ≤ (chs G (fun y => L[y]!) xn).length ∧ St w0 M0 [blk lb 4 (R.map Value.bool), row (.slice (some ⟨tb, 0, none⟩) G.length tc) 57 5 G.length (nodeC G.length t), row (.slice (some ⟨pb, 0, none⟩) (postL G).length pc) 3 1 (postL G).length ((zL (postL G)).map (Value.int .i64)), blk ab 3 (A.map (Value.int .i64)), row (.slice (some ⟨qb, 0, none⟩) (chs G (fun y => L[y]!) xn).length qc) 3 1 (chs G (fun y => L[y]!) xn).length ((zL (chs G (fun y => L[y]!) xn)).map (Value.int .i64))] w) (fun (k : Nat) => (chs G (fun y => L[y]!) xn).length - k) 0 ⟨rfl, trivial⟩ (⟨Nat.zero_le _, hS⟩) ?_
              clear hS; rintro k w ⟨hk, hS⟩
              refine VC_seq ?_
              refine VC_region ?_
              refine VL_val rfl rfl rfl (yd_lss rfl rfl) ?_
              refine VL_nil ?_
              refine VE_then ?_
              refine VC_seq ?_
              refine VC_cond rfl (fun h60 => ?_) (fun h60 => ?_)
              · replace h60 := of_decide_eq_true h60
                refine VC_skip ?_
                refine VE_then ?_
                refine VC_seq ?_
                refine VC_block ?_
                refine VC_seq ?_
                refine VC_region ?_
                have hkl : k < (chs G (fun y => L[y]!) xn).length := by omega
                obtain ⟨c, hc⟩ : ∃ c, c = (chs G (fun y => L[y]!) xn)[k]! := ⟨_, rfl⟩
                have hcm : c ∈ postL G := by
                  have h1 : c ∈ (chs G (fun y => L[y]!) xn) := by rw [hc, getElem!_pos (chs G (fun y => L[y]!) xn) k hkl]; exact List.getElem_mem _
                  exact (hT.mem c xn ((mem_chs hT).1 h1)).1
                have hcn := (postL_ok hg).lt c hcm
                refine VL_val rfl rfl rfl (yd_move rfl) ?_
                refine VL_val rfl rfl rfl (yd_index0 rfl rfl Try.underlying29 T.sz3 (by omega)) ?_
                refine VL_val rfl rfl rfl (yd_load rfl T.one3 (show _ = some (Value.int .i64 ((c : Nat) : Int)) by rw [hc]; exact zl_cell (hS.get 4 rfl) (by omega))) ?_
                refine VL_val rfl rfl rfl (yd_assign rfl) ?_
                refine VL_val rfl rfl rfl (yd_assign rfl) ?_
                refine VL_nil ?_
                refine VE_then ?_
                refine VC_seq ?_
                refine VC_draw T.mixed hS ?_
                clear hS; intro w hS
                refine VA_take (i := 0) rfl rfl rfl rfl (by kernel_rfl) (by kernel_rfl) (by kernel_rfl) #[true, false, false, false, false, false, false, false, false, false, false, false, false, false, false, false, false, false, false, false, false, false, false, false] (by kernel_rfl) (fun _ _ _ _ h => h) (fun w hS => yd_move rfl) ?_
                refine VA_take (i := 1) rfl rfl rfl rfl (by kernel_rfl) (by kernel_rfl) (by kernel_rfl) #[true, true, false, false, false, false, false, false, false, false, false, false, false, false, false, false, false, false, false, false, false, false, false, false] (by kernel_rfl) (fun _ _ _ _ h => h) (fun w hS => yd_move rfl) ?_
                refine VA_take (i := 2) rfl rfl rfl rfl (by kernel_rfl) (by kernel_rfl) (by kernel_rfl) #[true, true, true, false, false, false, false, false, false, false, false, false, false, false, false, false, false, false, false, false, false, false, false, false] (by kernel_rfl) (fun _ _ _ _ h => h) (fun w hS => yd_index0 rfl rfl Try.underlying29 T.sz3 (by omega)) ?_
                refine VA_take (i := 3) rfl rfl rfl rfl (by kernel_rfl) (by kernel_rfl) (by kernel_rfl) #[true, true, true, true, false, false, false, false, false, false, false, false, false, false, false, false, false, false, false, false, false, false, false, false] (by kernel_rfl) (fun _ _ _ _ h => h) (fun w hS => yd_load rfl T.one3 (show _ = some (Value.int .i64 ((ps G c : Nat) : Int)) by rw [← at_ps hg hAp hcm]; exact blk_cellM (hS.get 3 rfl) (by omega))) ?_
                refine VA_take (i := 4) rfl rfl rfl rfl (by kernel_rfl) (by kernel_rfl) (by kernel_rfl) #[true, true, true, true, true, false, false, false, false, false, false, false, false, false, false, false, false, false, false, false, false, false, false, false] (by kernel_rfl) (fun _ _ _ _ h => h) (fun w hS => yd_lss rfl rfl) ?_
                refine VA_take (i := 5) rfl rfl rfl rfl (by kernel_rfl) (by kernel_rfl) (by kernel_rfl) #[true, true, true, true, true, true, false, false, false, false, false, false, false, false, false, false, false, false, false, false, false, false, false, false] (by kernel_rfl) (fun _ _ _ _ h => h) (fun w hS => yd_move rfl) ?_
                refine VA_split 69 rfl (fun h69 => ?_) (fun h69 => ?_)
                · replace h69 := of_decide_eq_true h69
                  exact absurd h69 (by omega)
                · replace h69 := Int.not_lt.1 (of_decide_eq_false h69)
                  refine VA_takeG (i := 6) rfl rfl rfl rfl rfl rfl rfl (by kernel_rfl) (by kernel_rfl) (by kernel_rfl) #[true, true, true, true, true, true, true, false, false, false, false, false, false, false, false, false, false, false, false, false, false, false, false, false] (by kernel_rfl) (fun _ _ _ _ h => h) (fun w hS => yd_move rfl) ?_
                  refine VA_takeG (i := 7) rfl rfl rfl rfl rfl rfl rfl (by kernel_rfl) (by kernel_rfl) (by kernel_rfl) #[true, true, true, true, true, true, true, true, false, false, false, false, false, false, false, false, false, false, false, false, false, false, false, false] (by kernel_rfl) (fun _ _ _ _ h => h) (fun w hS => yd_gtr rfl rfl) ?_
                  refine VA_takeG (i := 8) rfl rfl rfl rfl rfl rfl rfl (by kernel_rfl) (by kernel_rfl) (by kernel_rfl) #[true, true, true, true, true, true, true, true, true, false, false, false, false, false, false, false, false, false, false, false, false, false, false, false] (by kernel_rfl) (fun _ _ _ _ h => h) (fun w hS => yd_move rfl) ?_
                  refine VA_split 72 rfl (fun h72 => ?_) (fun h72 => ?_)
                  · replace h72 := of_decide_eq_true h72
                    obtain ⟨q, hq⟩ : ∃ q, q = k - 1 := ⟨_, rfl⟩
                    obtain ⟨d, hd⟩ : ∃ d, d = (chs G (fun y => L[y]!) xn)[q]! := ⟨_, rfl⟩
                    have hdm : d ∈ postL G := by
                      have h1 : d ∈ (chs G (fun y => L[y]!) xn) := by rw [hd, getElem!_pos (chs G (fun y => L[y]!) xn) q (by omega)]; exact List.getElem_mem _
                      exact (hT.mem d xn ((mem_chs hT).1 h1)).1
                    have hdn := (postL_ok hg).lt d hdm
                    have hlt : ps G c < ps G d := by
                      have := (List.pairwise_iff_getElem.1 (chs_order (P := fun y => L[y]!) hg xn)) q k (by omega) hkl (by omega)
                      rw [← getElem!_pos (chs G (fun y => L[y]!) xn) q (by omega), ← getElem!_pos (chs G (fun y => L[y]!) xn) k hkl, ← hc, ← hd] at this; exact this
                    refine VA_takeG (i := 9) rfl rfl rfl rfl rfl rfl rfl (by kernel_rfl) (by kernel_rfl) (by kernel_rfl) #[true, true, true, true, true, true, true, true, true, true, false, false, false, false, false, false, false, false, false, false, false, false, false, false] (by kernel_rfl) (fun _ _ _ _ h => h) (fun w hS => yd_move rfl) ?_
                    refine VA_takeG (i := 10) rfl rfl rfl rfl rfl rfl rfl (by kernel_rfl) (by kernel_rfl) (by kernel_rfl) #[true, true, true, true, true, true, true, true, true, true, true, false, false, false, false, false, false, false, false, false, false, false, false, false] (by kernel_rfl) (fun _ _ _ _ h => h) (fun w hS => yd_move rfl) ?_
                    refine VA_takeG (i := 11) rfl rfl rfl rfl rfl rfl rfl (by kernel_rfl) (by kernel_rfl) (by kernel_rfl) #[true, true, true, true, true, true, true, true, true, true, true, true, false, false, false, false, false, false, false, false, false, false, false, false] (by kernel_rfl) (fun _ _ _ _ h => h) (fun w hS => yd_index0 rfl rfl Try.underlying29 T.sz3 (by omega)) ?_
                    refine VA_takeG (i := 12) rfl rfl rfl rfl rfl rfl rfl (by kernel_rfl) (by kernel_rfl) (by kernel_rfl) #[true, true, true, true, true, true, true, true, true, true, true, true, true, false, false, false, false, false, false, false, false, false, false, false] (by kernel_rfl) (fun _ _ _ _ h => h) (fun w hS => yd_load rfl T.one3 (show _ = some (Value.int .i64 ((ps G c : Nat) : Int)) by rw [← at_ps hg hAp hcm]; exact blk_cellM (hS.get 3 rfl) (by omega))) ?_
                    refine VA_takeG (i := 13) rfl rfl rfl rfl rfl rfl rfl (by kernel_rfl) (by kernel_rfl) (by kernel_rfl) #[true, true, true, true, true, true, true, true, true, true, true, true, true, true, false, false, false, false, false, false, false, false, false, false] (by kernel_rfl) (fun _ _ _ _ h => h) (fun w hS => yd_move rfl) ?_
                    refine VA_takeG (i := 14) rfl rfl rfl rfl rfl rfl rfl (by kernel_rfl) (by kernel_rfl) (by kernel_rfl) #[true, true, true, true, true, true, true, true, true, true, true, true, true, true, true, false, false, false, false, false, false, false, false, false] (by kernel_rfl) (fun _ _ _ _ h => h) (fun w hS => yd_move rfl) ?_
                    refine VA_takeG (i := 15) rfl rfl rfl rfl rfl rfl rfl (by kernel_rfl) (by kernel_rfl) (by kernel_rfl) #[true, true, true, true, true, true, true, true, true, true, true, true, true, true, true, true, false, false, false, false, false, false, false, false] (by kernel_rfl) (fun _ _ _ _ h => h) (fun w hS => yd_move rfl) ?_
                    refine VA_takeG (i := 16) rfl rfl rfl rfl rfl rfl rfl (by kernel_rfl) (by kernel_rfl) (by kernel_rfl) #[true, true, true, true, true, true, true, true, true, true, true, true, true, true, true, true, true, false, false, false, false, false, false, false] (by kernel_rfl) (fun _ _ _ _ h => h) (fun w hS => yd_sub rfl rfl ((q : Nat) : Int) (by rw [wi64 (by omega) (by omega)]; omega)) ?_
                    refine VA_takeG (i := 17) rfl rfl rfl rfl rfl rfl rfl (by kernel_rfl) (by kernel_rfl) (by kernel_rfl) #[true, true, true, true, true, true, true, true, true, true, true, true, true, true, true, true, true, true, false, false, false, false, false, false] (by kernel_rfl) (fun _ _ _ _ h => h) (fun w hS => yd_index0 rfl rfl Try.underlying29 T.sz3 (by omega)) ?_
                    refine VA_takeG (i := 18) rfl rfl rfl rfl rfl rfl rfl (by kernel_rfl) (by kernel_rfl) (by kernel_rfl) #[true, true, true, true, true, true, true, true, true, true, true, true, true, true, true, true, true, true, true, false, false, false, false, false] (by kernel_rfl) (fun _ _ _ _ h => h) (fun w hS => yd_load rfl T.one3 (show _ = some (Value.int .i64 ((d : Nat) : Int)) by rw [hd]; exact zl_cell (hS.get 4 rfl) (by omega))) ?_
                    refine VA_takeG (i := 19) rfl rfl rfl rfl rfl rfl rfl (by kernel_rfl) (by kernel_rfl) (by kernel_rfl) #[true, true, true, true, true, true, true, true, true, true, true, true, true, true, true, true, true, true, true, true, false, false, false, false] (by kernel_rfl) (fun _ _ _ _ h => h) (fun w hS => yd_index0 rfl rfl Try.underlying29 T.sz3 (by omega)) ?_
                    refine VA_takeG (i := 20) rfl rfl rfl rfl rfl rfl rfl (by kernel_rfl) (by kernel_rfl) (by kernel_rfl) #[true, true, true, true, true, true, true, true, true, true, true, true, true, true, true, true, true, true, true, true, true, false, false, false] (by kernel_rfl) (fun _ _ _ _ h => h) (fun w hS => yd_load rfl T.one3 (show _ = some (Value.int .i64 ((ps G d : Nat) : Int)) by rw [← at_ps hg hAp hdm]; exact blk_cellM (hS.get 3 rfl) (by omega))) ?_
                    refine VA_takeG (i := 21) rfl rfl rfl rfl rfl rfl rfl (by kernel_rfl) (by kernel_rfl) (by kernel_rfl) #[true, true, true, true, true, true, true, true, true, true, true, true, true, true, true, true, true, true, true, true, true, true, false, false] (by kernel_rfl) (fun _ _ _ _ h => h) (fun w hS => yd_geq rfl rfl) ?_
                    refine VA_takeG (i := 22) rfl rfl rfl rfl rfl rfl rfl (by kernel_rfl) (by kernel_rfl) (by kernel_rfl) #[true, true, true, true, true, true, true, true, true, true, true, true, true, true, true, true, true, true, true, true, true, true, true, false] (by kernel_rfl) (fun _ _ _ _ h => h) (fun w hS => yd_pick_t rfl rfl) ?_
                    refine VA_take (i := 23) rfl rfl rfl rfl (by kernel_rfl) (by kernel_rfl) (by kernel_rfl) #[true, true, true, true, true, true, true, true, true, true, true, true, true, true, true, true, true, true, true, true, true, true, true, true] (by kernel_rfl) (fun _ _ _ _ h => h) (fun w hS => yd_pick_f rfl rfl) ?_
                    refine VA_done (by kernel_rfl) hS ?_
                    refine VE_then ?_
                    refine VC_cond rfl (fun h87 => ?_) (fun h87 => ?_)
                    · replace h87 := of_decide_eq_true h87
                      exact absurd h87 (by omega)
                    · replace h87 := Int.not_le.1 (of_decide_eq_false h87)
                      refine VC_skip ?_
                      refine VE_block_normal ?_
                      refine VE_then ?_
                      refine VC_region ?_
                      refine VL_val rfl rfl rfl (yd_add rfl rfl ((k + 1 : Nat) : Int) (by rw [wi64 (by omega) (by omega)]; omega)) ?_
                      refine VL_val rfl rfl rfl (yd_move rfl) ?_
                      refine VL_nil ?_
                      exact VE_round1 (k + 1) ⟨rfl, rfl, rfl, rfl, rfl, rfl, trivial⟩ ⟨by omega, hS⟩ (by omega)
                  · replace h72 := Int.not_lt.1 (of_decide_eq_false h72)
                    refine VA_no (i := 9) rfl rfl rfl rfl rfl rfl rfl rfl (by kernel_rfl) (by kernel_rfl) (by kernel_rfl) #[true, true, true, true, true, true, true, true, true, true, false, false, false, false, false, false, false, false, false, false, false, false, false, false] (by kernel_rfl) (fun _ _ _ _ h => h) ?_
                    refine VA_no (i := 10) rfl rfl rfl rfl rfl rfl rfl rfl (by kernel_rfl) (by kernel_rfl) (by kernel_rfl) #[true, true, true, true, true, true, true, true, true, true, true, false, false, false, false, false, false, false, false, false, false, false, false, false] (by kernel_rfl) (fun _ _ _ _ h => h) ?_
                    refine VA_no (i := 11) rfl rfl rfl rfl rfl rfl rfl rfl (by kernel_rfl) (by kernel_rfl) (by kernel_rfl) #[true, true, true, true, true, true, true, true, true, true, true, true, false, false, false, false, false, false, false, false, false, false, false, false] (by kernel_rfl) (fun _ _ _ _ h => h) ?_
                    refine VA_no (i := 12) rfl rfl rfl rfl rfl rfl rfl rfl (by kernel_rfl) (by kernel_rfl) (by kernel_rfl) #[true, true, true, true, true, true, true, true, true, true, true, true, true, false, false, false, false, false, false, false, false, false, false, false] (by kernel_rfl) (fun _ _ _ _ h => h) ?_
                    refine VA_no (i := 13) rfl rfl rfl rfl rfl rfl rfl rfl (by kernel_rfl) (by kernel_rfl) (by kernel_rfl) #[true, true, true, true, true, true, true, true, true, true, true, true, true, true, false, false, false, false, false, false, false, false, false, false] (by kernel_rfl) (fun _ _ _ _ h => h) ?_
                    refine VA_no (i := 14) rfl rfl rfl rfl rfl rfl rfl rfl (by kernel_rfl) (by kernel_rfl) (by kernel_rfl) #[true, true, true, true, true, true, true, true, true, true, true, true, true, true, true, false, false, false, false, false, false, false, false, false] (by kernel_rfl) (fun _ _ _ _ h => h) ?_
                    refine VA_no (i := 15) rfl rfl rfl rfl rfl rfl rfl rfl (by kernel_rfl) (by kernel_rfl) (by kernel_rfl) #[true, true, true, true, true, true, true, true, true, true, true, true, true, true, true, true, false, false, false, false, false, false, false, false] (by kernel_rfl) (fun _ _ _ _ h => h) ?_
                    refine VA_no (i := 16) rfl rfl rfl rfl rfl rfl rfl rfl (by kernel_rfl) (by kernel_rfl) (by kernel_rfl) #[true, true, true, true, true, true, true, true, true, true, true, true, true, true, true, true, true, false, false, false, false, false, false, false] (by kernel_rfl) (fun _ _ _ _ h => h) ?_
                    refine VA_no (i := 17) rfl rfl rfl rfl rfl rfl rfl rfl (by kernel_rfl) (by kernel_rfl) (by kernel_rfl) #[true, true, true, true, true, true, true, true, true, true, true, true, true, true, true, true, true, true, false, false, false, false, false, false] (by kernel_rfl) (fun _ _ _ _ h => h) ?_
                    refine VA_no (i := 18) rfl rfl rfl rfl rfl rfl rfl rfl (by kernel_rfl) (by kernel_rfl) (by kernel_rfl) #[true, true, true, true, true, true, true, true, true, true, true, true, true, true, true, true, true, true, true, false, false, false, false, false] (by kernel_rfl) (fun _ _ _ _ h => h) ?_
                    refine VA_no (i := 19) rfl rfl rfl rfl rfl rfl rfl rfl (by kernel_rfl) (by kernel_rfl) (by kernel_rfl) #[true, true, true, true, true, true, true, true, true, true, true, true, true, true, true, true, true, true, true, true, false, false, false, false] (by kernel_rfl) (fun _ _ _ _ h => h) ?_
                    refine VA_no (i := 20) rfl rfl rfl rfl rfl rfl rfl rfl (by kernel_rfl) (by kernel_rfl) (by kernel_rfl) #[true, true, true, true, true, true, true, true, true, true, true, true, true, true, true, true, true, true, true, true, true, false, false, false] (by kernel_rfl) (fun _ _ _ _ h => h) ?_
                    refine VA_no (i := 21) rfl rfl rfl rfl rfl rfl rfl rfl (by kernel_rfl) (by kernel_rfl) (by kernel_rfl) #[true, true, true, true, true, true, true, true, true, true, true, true, true, true, true, true, true, true, true, true, true, true, false, false] (by kernel_rfl) (fun _ _ _ _ h => h) ?_
                    refine VA_takeG (i := 22) rfl rfl rfl rfl rfl rfl rfl (by kernel_rfl) (by kernel_rfl) (by kernel_rfl) #[true, true, true, true, true, true, true, true, true, true, true, true, true, true, true, true, true, true, true, true, true, true, true, false] (by kernel_rfl) (fun _ _ _ _ h => h) (fun w hS => yd_pick_f rfl rfl) ?_
                    refine VA_take (i := 23) rfl rfl rfl rfl (by kernel_rfl) (by kernel_rfl) (by kernel_rfl) #[true, true, true, true, true, true, true, true, true, true, true, true, true, true, true, true, true, true, true, true, true, true, true, true] (by kernel_rfl) (fun _ _ _ _ h => h) (fun w hS => yd_pick_f rfl rfl) ?_
                    refine VA_done (by kernel_rfl) hS ?_
                    refine VE_then ?_
                    refine VC_cond_f rfl ?_
                    refine VC_skip ?_
                    refine VE_block_normal ?_
                    refine VE_then ?_
                    refine VC_region ?_
                    refine VL_val rfl rfl rfl (yd_add rfl rfl ((k + 1 : Nat) : Int) (by rw [wi64 (by omega) (by omega)]; omega)) ?_
                    refine VL_val rfl rfl rfl (yd_move rfl) ?_
                    refine VL_nil ?_
                    exact VE_round1 (k + 1) ⟨rfl, rfl, rfl, rfl, rfl, rfl, trivial⟩ ⟨by omega, hS⟩ (by omega)
              · replace h60 := Int.not_lt.1 (of_decide_eq_false h60)
                refine VC_exit ?_
                refine VE_then_exit (VE_then_exit (VE_block_exit ?_))
                refine VE_then ?_
                refine VC_seq ?_
                refine VC_region ?_
                refine VL_val rfl rfl rfl (yd_move rfl) ?_
                refine VL_val rfl rfl rfl (yd_assign rfl) ?_
                refine VL_nil ?_
                refine VE_then ?_
                refine VC_ret ?_
                refine VE_ret1 (rfl) rfl ?_
                exact ⟨rfl, hS.below⟩

end Go.Proofs.Ytmoooaaiohplhac
