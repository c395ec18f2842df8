/- The laws on postorder, walked. -/
import Derived.Test.YtmoooaaiohplhaaWf
namespace Go.Proofs.Ytmoooaaiohplhaa
open Go Go.V
set_option linter.unusedVariables false
set_option maxRecDepth 100000

theorem T.call15 : CallT Try.prog 15 := CallT.of Try.func15 (by kernel_rfl) (by kernel_rfl)
theorem T.call16 : CallT Try.prog 16 := CallT.of Try.func16 (by kernel_rfl) (by kernel_rfl)
theorem T.call17 : CallT Try.prog 17 := CallT.of Try.func17 (by kernel_rfl) (by kernel_rfl)
theorem T.call18 : CallT Try.prog 18 := CallT.of Try.func18 (by kernel_rfl) (by kernel_rfl)
theorem T.call20 : CallT Try.prog 20 := CallT.of Try.func20 (by kernel_rfl) (by kernel_rfl)
theorem T.call21 : CallT Try.prog 21 := CallT.of Try.func21 (by kernel_rfl) (by kernel_rfl)
theorem T.call22 : CallT Try.prog 22 := CallT.of Try.func22 (by kernel_rfl) (by kernel_rfl)

open Go.PL
theorem ed_post {G : Graph} {l : List Nat} (h : PostOK G l) {x y : Nat} (hx : x ∈ l) (e : Ed G x y) : y ∈ l ∧ (Rc G y x ∨ ∃ i j, j < i ∧ i < l.length ∧ l[i]! = x ∧ l[j]! = y) := by
  obtain ⟨i, hi, rfl⟩ := List.mem_iff_getElem.1 hx
  have e' : Ed G l[i]! y := by rw [getElem!_pos l i hi]; exact e
  obtain ⟨h1, h2⟩ := h.edge i hi y e'
  refine ⟨h1, ?_⟩
  rcases h2 with ⟨j, hj, h3⟩ | h3
  · exact .inr ⟨i, j, hj, hi, getElem!_pos l i hi, h3⟩
  · rw [getElem!_pos l i hi] at h3; exact .inl h3
theorem place_of {l : List Nat} {n : Nat} {A : List Int} (hA : IsPlaces l n A) (hnd : ∀ i j, i < j → j < l.length → l[i]! ≠ l[j]!) {x i : Nat} (hx : x < n) (hi : i < l.length) (e : l[i]! = x) : A[x]! = (i : Int) := by
  rcases hA.2 x hx with ⟨_, a2⟩ | ⟨j, a1, a2, a3⟩
  · exact absurd (by rw [← e, getElem!_pos l i hi]; exact List.getElem_mem hi) a2
  · rw [a3]
    rcases Nat.lt_trichotomy i j with h | h | h
    · exact absurd (e.trans a2.symm) (hnd i j h a1)
    · rw [h]
    · exact absurd (a2.trans e.symm) (hnd j i h hi)
theorem place_nonneg {l : List Nat} {n : Nat} {A : List Int} (hA : IsPlaces l n A) {x : Nat} (hx : x < n) : 0 ≤ A[x]! ↔ x ∈ l := by
  rcases hA.2 x hx with ⟨a1, a2⟩ | ⟨j, a1, a2, a3⟩
  · rw [a1]; constructor
    · intro h; omega
    · intro h; exact absurd h a2
  · rw [a3]; constructor
    · intro _; rw [← a2, getElem!_pos l j a1]; exact List.getElem_mem a1
    · intro _; omega
/-- A way leads ahead, or one can come back. -/
theorem place_edge {G : Graph} {A : List Int} (hg : Gd G) (hA : IsPlaces (postL G) G.length A) {x y : Nat} (e : Ed G x y) (h0 : 0 ≤ A[x]!) : 0 ≤ A[y]! ∧ (A[y]! < A[x]! ∨ Rc G y x) := by
  have hP := postL_ok hg
  have hx := e.1
  have hy := e.lt hg
  obtain ⟨h1, h2⟩ := ed_post hP ((place_nonneg hA hx).1 h0) e
  refine ⟨(place_nonneg hA hy).2 h1, ?_⟩
  rcases h2 with h2 | ⟨i, j, hji, hi, h3, h4⟩
  · exact .inr h2
  · left
    rw [place_of hA hP.nd' hx hi h3, place_of hA hP.nd' hy (by omega) h4]; omega
theorem post_last {G : Graph} (hg : Gd G) : (postL G)[(postL G).length - 1]! = 0 := by
  obtain ⟨l, h⟩ := (postL_ok hg).last
  rw [h]; simp


theorem _root_.Go.V.St.rows {w0 w : World} {η : List Res} {v : Value} {G : List (List Int)} (hS : St w0 M0 η w) (h : RowsAt w0 v G) : RowsAt w v G := h.keep (fun b hb => hS.old b hb (fun x => x))

set_option maxHeartbeats 1000000 in
theorem fnPostorder_calls {w0 : World} {v : Value} {G0 : List (List Int)} (hR : RowsAt w0 v G0) : Calls Try.prog 3 #[v] w0 (Ret fun u w' => u = .bool true ∧ RowKit.Below w0.heap.size w0 w') := by
  have hS := St.refl w0
  refine V_enter (N := 99) Try.func3 rfl Try.ntmps3 rfl ?_
  refine VC.sub (τ := [(0, _)]) ⟨rfl, trivial⟩ ?_
  refine VC_seq ?_
  refine VC_region ?_
  refine VL_val rfl rfl rfl (yd_assign rfl) ?_
  refine VL_nil ?_
  refine VE_then ?_
  refine VC_seq ?_
  refine VC_seq ?_
  refine VC_region ?_
  refine VL_val rfl rfl rfl (yd_move rfl) ?_
  refine VL_call rfl rfl rfl rfl T.call15 rfl (zzFits1_ok (hS.rows hR)) ?_
  rintro _ _ ⟨rfl, bz, rfl, hz⟩
  refine VL_val rfl rfl rfl (yd_not rfl) ?_
  refine VL_nil ?_
  refine VE_then ?_
  refine VC_cond rfl (fun h14 => ?_) (fun h14 => ?_)
  · replace h14 := V.nt h14
    refine VC_seq ?_
    refine VC_region ?_
    refine VL_val rfl rfl rfl (yd_assign rfl) ?_
    refine VL_nil ?_
    refine VE_then ?_
    refine VC_ret ?_
    refine VE_then_ret (?_)
    refine VE_ret1 (rfl) rfl ?_
    exact ⟨rfl, hS.below⟩
  · replace h14 := V.nf h14
    have hzt := h14
    refine VC_skip ?_
    refine VE_then ?_
    refine VC_seq ?_
    refine VC_seq ?_
    refine VC_region ?_
    refine VL_val rfl rfl rfl (yd_move rfl) ?_
    refine VL_call rfl rfl rfl rfl T.call16 rfl (good_ok (hS.rows hR) (hz hzt)) ?_
    rintro _ _ ⟨rfl, bg, rfl, hgi⟩
    refine VL_val rfl rfl rfl (yd_not rfl) ?_
    refine VL_nil ?_
    refine VE_then ?_
    refine VC_cond rfl (fun h17 => ?_) (fun h17 => ?_)
    · replace h17 := V.nt h17
      refine VC_seq ?_
      refine VC_region ?_
      refine VL_val rfl rfl rfl (yd_assign rfl) ?_
      refine VL_nil ?_
      refine VE_then ?_
      refine VC_ret ?_
      refine VE_then_ret (?_)
      refine VE_ret1 (rfl) rfl ?_
      exact ⟨rfl, hS.below⟩
    · replace h17 := V.nf h17
      have hgt := h17
      obtain ⟨G, hG, hg, -⟩ := graph_of_rows hR (hgi.1 hgt)
      have hle := hg.le
      have hpos := hg.pos
      have hG0 := hG
      obtain ⟨ga, gc, gb, go, rfl, hga, hrow⟩ := hG
      obtain rfl := hga (by omega)
      have hP := postL_ok hg
      have hpl := postL_le hg
      have hpp := postL_pos hg
      refine VC_skip ?_
      refine VE_then ?_
      refine VC_seq ?_
      refine VC_region ?_
      refine VL_val rfl rfl rfl (yd_move rfl) ?_
      refine VL_call rfl rfl rfl rfl T.call17 rfl (implPostorder_ok (hS.graph hG0) hg) ?_
      rintro u w hR1
      have hS := hS.call0 hR1
      obtain ⟨pb, pc, rfl, -⟩ := row_form (hS.get 0 rfl) (.inr hpp)
      refine VL_val rfl rfl rfl (yd_assign rfl) ?_
      refine VL_nil ?_
      refine VE_then ?_
      refine VC_seq ?_
      refine VC_region ?_
      refine VL_val rfl rfl rfl (yd_move rfl) ?_
      refine VL_val rfl rfl rfl (yd_move rfl) ?_
      refine VL_val rfl rfl rfl (yd_len rfl Try.underlying22) ?_
      refine VL_call rfl rfl rfl rfl T.call18 rfl (places_ok (v := .slice (some ⟨pb, 0, none⟩) (postL G).length pc) (l := postL G) (by have := ints_of_row (l := zL (postL G)) (by rw [zL_len]; exact hS.get 0 rfl); exact this) (by omega) (by omega) (fun i hi => postL_lt hg hi) hP.nd') ?_
      rintro _ w ⟨ab, A, rfl, hR2, hA⟩
      have hS := hS.call0 hR2
      have hAl := hA.1
      refine VL_val rfl rfl rfl (yd_move rfl) ?_
      refine VL_val rfl rfl rfl (yd_extract rfl rfl) ?_
      refine VL_val rfl rfl rfl (yd_extract rfl rfl) ?_
      refine VL_val rfl rfl rfl (yd_assign rfl) ?_
      refine VL_val rfl rfl rfl (yd_assign rfl) ?_
      refine VL_nil ?_
      refine VE_then ?_
      refine VC_seq ?_
      refine VC_seq ?_
      refine VC_region ?_
      refine VL_val rfl rfl rfl (yd_move rfl) ?_
      refine VL_val rfl rfl rfl (yd_not rfl) ?_
      refine VL_val rfl rfl rfl (yd_move rfl) ?_
      refine VL_split 29 rfl (fun h29 => ?_) (fun h29 => ?_)
      · replace h29 := V.nt h29
        cases h29
      · replace h29 := V.nf h29
        refine VL_yes rfl rfl rfl rfl ?_
        refine VL_val rfl rfl rfl (yd_move rfl) ?_
        refine VL_yes rfl rfl rfl rfl ?_
        refine VL_val rfl rfl rfl (yd_len rfl Try.underlying24) ?_
        refine VL_yes rfl rfl rfl rfl ?_
        refine VL_val rfl rfl rfl (yd_eql rfl rfl) ?_
        refine VL_val rfl rfl rfl (yd_pick_f rfl rfl) ?_
        refine VL_val rfl rfl rfl (yd_move rfl) ?_
        refine VL_split 34 rfl (fun h34 => ?_) (fun h34 => ?_)
        · replace h34 := of_decide_eq_true h34
          exact absurd h34 (by omega)
        · replace h34 := of_decide_eq_false h34
          refine VL_yes rfl rfl rfl rfl ?_
          refine VL_val rfl rfl rfl (yd_move rfl) ?_
          refine VL_yes rfl rfl rfl rfl ?_
          refine VL_val rfl rfl rfl (yd_move rfl) ?_
          refine VL_yes rfl rfl rfl rfl ?_
          refine VL_val rfl rfl rfl (yd_len rfl Try.underlying24) ?_
          refine VL_yes rfl rfl rfl rfl ?_
          refine VL_val rfl rfl rfl (yd_sub rfl rfl (((postL G).length - 1 : Nat) : Int) (by rw [wi64 (by omega) (by omega)]; omega)) ?_
          refine VL_yes rfl rfl rfl rfl ?_
          refine VL_val rfl rfl rfl (yd_index0 rfl rfl Try.underlying24 T.sz3 (by omega)) ?_
          refine VL_yes rfl rfl rfl rfl ?_
          refine VL_val rfl rfl rfl (yd_load rfl T.one3 (row_cell (hS.get 0 rfl) (u := .int .i64 0) (by have := post_last hg; rw [List.getElem?_map]; simp only [zL, List.getElem?_map]; rw [List.getElem?_eq_getElem (by omega), ← getElem!_pos (postL G) _ (by omega), this]; rfl))) ?_
          refine VL_yes rfl rfl rfl rfl ?_
          refine VL_val rfl rfl rfl (yd_neq rfl rfl) ?_
          refine VL_val rfl rfl rfl (yd_pick_f rfl rfl) ?_
          refine VL_nil ?_
          refine VE_then ?_
          refine VC_cond rfl (fun h42 => ?_) (fun h42 => ?_)
          · replace h42 := of_decide_eq_true h42
            exact absurd rfl h42
          · replace h42 := Decidable.not_not.1 (of_decide_eq_false h42)
            refine VC_skip ?_
            refine VE_then ?_
            refine VC_seq ?_
            refine VC_seq ?_
            refine VC_region ?_
            refine VL_val rfl rfl rfl (yd_move rfl) ?_
            refine VL_call rfl rfl rfl rfl T.call19 rfl (reach_ok (hS.graph hG0) hg (show 0 < G.length by omega)) ?_
            rintro _ w ⟨rb0, R0, rfl, hR3, hIR⟩
            have hS := hS.call0 hR3
            have hIl := hIR.1
            refine VL_val rfl rfl rfl (yd_len rfl Try.underlying28) ?_
            refine VL_val rfl rfl rfl (yd_move rfl) ?_
            refine VL_nil ?_
            refine VE_then ?_
            refine VC_block ?_
            refine VC_loop1 [0, 4, 44, 45] [_, _, _, _] rfl (fun (k : Nat) => [(46, .int .i64 ((k : Nat) : Int))]) (fun (k : Nat) w => k ≤ G.length ∧ St w0 M0 [row (.slice (some ⟨pb, 0, none⟩) (postL G).length pc) 3 1 (postL G).length ((zL (postL G)).map (Value.int .i64)), blk ab 3 (A.map (Value.int .i64)), blk rb0 4 (R0.map Value.bool)] w) (fun (k : Nat) => G.length - k) 0 ⟨rfl, trivial⟩ (⟨Nat.zero_le _, hS⟩) ?_
            clear hS; rintro k w ⟨hk, hS⟩
            refine VC_seq ?_
            refine VC_region ?_
            refine VL_val rfl rfl rfl (yd_lss rfl rfl) ?_
            refine VL_nil ?_
            refine VE_then ?_
            refine VC_seq ?_
            refine VC_cond rfl (fun h47 => ?_) (fun h47 => ?_)
            · replace h47 := of_decide_eq_true h47
              refine VC_skip ?_
              refine VE_then ?_
              refine VC_seq ?_
              refine VC_block ?_
              refine VC_seq ?_
              refine VC_region ?_
              refine VL_val rfl rfl rfl (yd_move rfl) ?_
              refine VL_val rfl rfl rfl (yd_index0 rfl rfl Try.underlying28 T.sz4 (by omega)) ?_
              refine VL_val rfl rfl rfl (yd_load rfl T.one4 (blk_cellM (hS.get 2 rfl) (by omega))) ?_
              refine VL_val rfl rfl rfl (yd_assign rfl) ?_
              refine VL_val rfl rfl rfl (yd_assign rfl) ?_
              refine VL_nil ?_
              refine VE_then ?_
              refine VC_seq ?_
              refine VC_region ?_
              refine VL_val rfl rfl rfl (yd_move rfl) ?_
              refine VL_val rfl rfl rfl (yd_move rfl) ?_
              refine VL_val rfl rfl rfl (yd_move rfl) ?_
              refine VL_val rfl rfl rfl (yd_index0 rfl rfl Try.underlying24 T.sz3 (by omega)) ?_
              refine VL_val rfl rfl rfl (yd_load rfl T.one3 (blk_cellM (hS.get 1 rfl) (by omega))) ?_
              refine VL_val rfl rfl rfl (yd_geq rfl rfl) ?_
              refine VL_val rfl rfl rfl (yd_neqb rfl rfl Try.underlying4) ?_
              refine VL_nil ?_
              refine VE_then ?_
              refine VC_cond rfl (fun h57 => ?_) (fun h57 => ?_)
              · replace h57 := of_decide_eq_true h57
                exfalso
                apply h57
                have a1 := hIR.2 k (by omega)
                have a2 := place_nonneg hA (show k < G.length by omega)
                have a3 := hP.mem k
                rw [Bool.eq_iff_iff, decide_eq_true_eq, a1, a2, a3]
                exact ⟨fun h => h.2, fun h => ⟨by omega, h⟩⟩
              · replace h57 := Decidable.not_not.1 (of_decide_eq_false h57)
                refine VC_skip ?_
                refine VE_block_normal ?_
                refine VE_then ?_
                refine VC_region ?_
                refine VL_val rfl rfl rfl (yd_add rfl rfl ((k + 1 : Nat) : Int) (by rw [wi64 (by omega) (by omega)]; omega)) ?_
                refine VL_val rfl rfl rfl (yd_move rfl) ?_
                refine VL_nil ?_
                exact VE_round1 (k + 1) ⟨rfl, rfl, rfl, rfl, rfl, trivial⟩ ⟨by omega, hS⟩ (by omega)
            · replace h47 := Int.not_lt.1 (of_decide_eq_false h47)
              refine VC_exit ?_
              refine VE_then_exit (VE_then_exit (VE_block_exit ?_))
              refine VE_then ?_
              refine VC_seq ?_
              refine VC_seq ?_
              refine VC_region ?_
              refine VL_val rfl rfl rfl (yd_move rfl) ?_
              refine VL_val rfl rfl rfl (yd_len rfl Try.underlying22) ?_
              refine VL_val rfl rfl rfl (yd_move rfl) ?_
              refine VL_nil ?_
              refine VE_then ?_
              refine VC_block ?_
              refine VC_loop1 [0, 4, 59, 60] [_, _, _, _] rfl (fun (x : Nat) => [(61, .int .i64 ((x : Nat) : Int))]) (fun (x : Nat) w => x ≤ G.length ∧ St w0 M0 [blk ab 3 (A.map (Value.int .i64))] w) (fun (x : Nat) => G.length - x) 0 ⟨rfl, trivial⟩ (⟨Nat.zero_le _, hS.sub (List.Sublist.cons _ (List.Sublist.cons_cons _ (List.nil_sublist _)))⟩) ?_
              clear hS; rintro x w ⟨hx, hS⟩
              refine VC_seq ?_
              refine VC_region ?_
              refine VL_val rfl rfl rfl (yd_lss rfl rfl) ?_
              refine VL_nil ?_
              refine VE_then ?_
              refine VC_seq ?_
              refine VC_cond rfl (fun h62 => ?_) (fun h62 => ?_)
              · replace h62 := of_decide_eq_true h62
                refine VC_skip ?_
                refine VE_then ?_
                refine VC_seq ?_
                refine VC_block ?_
                refine VC_seq ?_
                refine VC_region ?_
                obtain ⟨ra, rc, rb, ro, hc, hra, hcs⟩ := hrow x (by omega)
                have hr4 := hg.row x (by omega)
                refine VL_val rfl rfl rfl (yd_move rfl) ?_
                refine VL_val rfl rfl rfl (yd_index1 rfl rfl Try.underlying22 T.sz24 (by omega)) ?_
                refine VL_val rfl rfl rfl (yd_load rfl T.one24 (hS.cell0 hc)) ?_
                refine VL_val rfl rfl rfl (yd_assign rfl) ?_
                refine VL_val rfl rfl rfl (yd_assign rfl) ?_
                refine VL_nil ?_
                refine VE_then ?_
                refine VC_seq ?_
                refine VC_region ?_
                refine VL_val rfl rfl rfl (yd_move rfl) ?_
                refine VL_val rfl rfl rfl (yd_len rfl Try.underlying24) ?_
                refine VL_val rfl rfl rfl (yd_move rfl) ?_
                refine VL_nil ?_
                refine VE_then ?_
                refine VC_block ?_
                refine VC_loop1 [0, 4, 8, 9, 59, 60, 61, 62, 63, 64, 65, 66, 67] [_, _, _, _, _, _, _, _, _, _, _, _, _] rfl (fun (j : Nat) => [(68, .int .i64 ((j : Nat) : Int))]) (fun (j : Nat) w => j ≤ G[x]!.length ∧ St w0 M0 [blk ab 3 (A.map (Value.int .i64))] w) (fun (j : Nat) => G[x]!.length - j) 0 ⟨rfl, trivial⟩ (⟨Nat.zero_le _, hS⟩) ?_
                clear hS; rintro j w ⟨hj, hS⟩
                refine VC_seq ?_
                refine VC_region ?_
                refine VL_val rfl rfl rfl (yd_lss rfl rfl) ?_
                refine VL_nil ?_
                refine VE_then ?_
                refine VC_seq ?_
                refine VC_cond rfl (fun h69 => ?_) (fun h69 => ?_)
                · replace h69 := of_decide_eq_true h69
                  refine VC_skip ?_
                  refine VE_then ?_
                  refine VC_seq ?_
                  refine VC_block ?_
                  refine VC_seq ?_
                  refine VC_region ?_
                  obtain rfl := hra (by omega)
                  have hlt := hg.lt x (by omega) j (by omega)
                  have hed : Ed G x G[x]![j]! := Ed.get (by omega) (by omega)
                  refine VL_val rfl rfl rfl (yd_index1 rfl rfl Try.underlying24 T.sz3 (by omega)) ?_
                  refine VL_val rfl rfl rfl (yd_load rfl T.one3 (hS.cell0 (hcs j (by omega)))) ?_
                  refine VL_val rfl rfl rfl (yd_assign rfl) ?_
                  refine VL_nil ?_
                  refine VE_then ?_
                  refine VC_seq ?_
                  refine VC_draw T.mixed hS ?_
                  clear hS; intro w hS
                  refine VA_take (i := 0) rfl rfl rfl rfl (by kernel_rfl) (by kernel_rfl) (by kernel_rfl) #[true, false, false, false, false, false, false, false, false, false, false, false, false, false, false, false, false, false, false, false, false, false, false, false, false] (by kernel_rfl) (fun _ _ _ _ h => h) (fun w hS => yd_move rfl) ?_
                  refine VA_take (i := 1) rfl rfl rfl rfl (by kernel_rfl) (by kernel_rfl) (by kernel_rfl) #[true, true, false, false, false, false, false, false, false, false, false, false, false, false, false, false, false, false, false, false, false, false, false, false, false] (by kernel_rfl) (fun _ _ _ _ h => h) (fun w hS => yd_move rfl) ?_
                  refine VA_take (i := 2) rfl rfl rfl rfl (by kernel_rfl) (by kernel_rfl) (by kernel_rfl) #[true, true, true, false, false, false, false, false, false, false, false, false, false, false, false, false, false, false, false, false, false, false, false, false, false] (by kernel_rfl) (fun _ _ _ _ h => h) (fun w hS => yd_index0 rfl rfl Try.underlying24 T.sz3 (by omega)) ?_
                  refine VA_take (i := 3) rfl rfl rfl rfl (by kernel_rfl) (by kernel_rfl) (by kernel_rfl) #[true, true, true, true, false, false, false, false, false, false, false, false, false, false, false, false, false, false, false, false, false, false, false, false, false] (by kernel_rfl) (fun _ _ _ _ h => h) (fun w hS => yd_load rfl T.one3 (blk_cellM (hS.get 0 rfl) (by omega))) ?_
                  refine VA_take (i := 4) rfl rfl rfl rfl (by kernel_rfl) (by kernel_rfl) (by kernel_rfl) #[true, true, true, true, true, false, false, false, false, false, false, false, false, false, false, false, false, false, false, false, false, false, false, false, false] (by kernel_rfl) (fun _ _ _ _ h => h) (fun w hS => yd_geq rfl rfl) ?_
                  refine VA_take (i := 5) rfl rfl rfl rfl (by kernel_rfl) (by kernel_rfl) (by kernel_rfl) #[true, true, true, true, true, true, false, false, false, false, false, false, false, false, false, false, false, false, false, false, false, false, false, false, false] (by kernel_rfl) (fun _ _ _ _ h => h) (fun w hS => yd_move rfl) ?_
                  refine VA_split 77 rfl (fun h77 => ?_) (fun h77 => ?_)
                  · replace h77 := of_decide_eq_true h77
                    refine VA_takeG (i := 6) rfl rfl rfl rfl rfl rfl rfl (by kernel_rfl) (by kernel_rfl) (by kernel_rfl) #[true, true, true, true, true, true, true, false, false, false, false, false, false, false, false, false, false, false, false, false, false, false, false, false, false] (by kernel_rfl) (fun _ _ _ _ h => h) (fun w hS => yd_move rfl) ?_
                    refine VA_takeG (i := 7) rfl rfl rfl rfl rfl rfl rfl (by kernel_rfl) (by kernel_rfl) (by kernel_rfl) #[true, true, true, true, true, true, true, true, false, false, false, false, false, false, false, false, false, false, false, false, false, false, false, false, false] (by kernel_rfl) (fun _ _ _ _ h => h) (fun w hS => yd_move rfl) ?_
                    refine VA_takeG (i := 8) rfl rfl rfl rfl rfl rfl rfl (by kernel_rfl) (by kernel_rfl) (by kernel_rfl) #[true, true, true, true, true, true, true, true, true, false, false, false, false, false, false, false, false, false, false, false, false, false, false, false, false] (by kernel_rfl) (fun _ _ _ _ h => h) (fun w hS => yd_index0 rfl rfl Try.underlying24 T.sz3 (by omega)) ?_
                    refine VA_takeG (i := 9) rfl rfl rfl rfl rfl rfl rfl (by kernel_rfl) (by kernel_rfl) (by kernel_rfl) #[true, true, true, true, true, true, true, true, true, true, false, false, false, false, false, false, false, false, false, false, false, false, false, false, false] (by kernel_rfl) (fun _ _ _ _ h => h) (fun w hS => yd_load rfl T.one3 (blk_cellM (hS.get 0 rfl) (by omega))) ?_
                    refine VA_takeG (i := 10) rfl rfl rfl rfl rfl rfl rfl (by kernel_rfl) (by kernel_rfl) (by kernel_rfl) #[true, true, true, true, true, true, true, true, true, true, true, false, false, false, false, false, false, false, false, false, false, false, false, false, false] (by kernel_rfl) (fun _ _ _ _ h => h) (fun w hS => yd_move rfl) ?_
                    refine VA_takeG (i := 11) rfl rfl rfl rfl rfl rfl rfl (by kernel_rfl) (by kernel_rfl) (by kernel_rfl) #[true, true, true, true, true, true, true, true, true, true, true, true, false, false, false, false, false, false, false, false, false, false, false, false, false] (by kernel_rfl) (fun _ _ _ _ h => h) (fun w hS => yd_move rfl) ?_
                    refine VA_takeG (i := 12) rfl rfl rfl rfl rfl rfl rfl (by kernel_rfl) (by kernel_rfl) (by kernel_rfl) #[true, true, true, true, true, true, true, true, true, true, true, true, true, false, false, false, false, false, false, false, false, false, false, false, false] (by kernel_rfl) (fun _ _ _ _ h => h) (fun w hS => yd_index0 rfl rfl Try.underlying24 T.sz3 (by omega)) ?_
                    refine VA_takeG (i := 13) rfl rfl rfl rfl rfl rfl rfl (by kernel_rfl) (by kernel_rfl) (by kernel_rfl) #[true, true, true, true, true, true, true, true, true, true, true, true, true, true, false, false, false, false, false, false, false, false, false, false, false] (by kernel_rfl) (fun _ _ _ _ h => h) (fun w hS => yd_load rfl T.one3 (blk_cellM (hS.get 0 rfl) (by omega))) ?_
                    refine VA_takeG (i := 14) rfl rfl rfl rfl rfl rfl rfl (by kernel_rfl) (by kernel_rfl) (by kernel_rfl) #[true, true, true, true, true, true, true, true, true, true, true, true, true, true, true, false, false, false, false, false, false, false, false, false, false] (by kernel_rfl) (fun _ _ _ _ h => h) (fun w hS => yd_gtr rfl rfl) ?_
                    refine VA_take (i := 15) rfl rfl rfl rfl (by kernel_rfl) (by kernel_rfl) (by kernel_rfl) #[true, true, true, true, true, true, true, true, true, true, true, true, true, true, true, true, false, false, false, false, false, false, false, false, false] (by kernel_rfl) (fun _ _ _ _ h => h) (fun w hS => yd_pick_t rfl rfl) ?_
                    refine VA_take (i := 16) rfl rfl rfl rfl (by kernel_rfl) (by kernel_rfl) (by kernel_rfl) #[true, true, true, true, true, true, true, true, true, true, true, true, true, true, true, true, true, false, false, false, false, false, false, false, false] (by kernel_rfl) (fun _ _ _ _ h => h) (fun w hS => yd_move rfl) ?_
                    refine VA_split 88 rfl (fun h88 => ?_) (fun h88 => ?_)
                    · replace h88 := of_decide_eq_true h88
                      refine VA_takeG (i := 17) rfl rfl rfl rfl rfl rfl rfl (by kernel_rfl) (by kernel_rfl) (by kernel_rfl) #[true, true, true, true, true, true, true, true, true, true, true, true, true, true, true, true, true, true, false, false, false, false, false, false, false] (by kernel_rfl) (fun _ _ _ _ h => h) (fun w hS => yd_move rfl) ?_
                      refine VA_takeG (i := 18) rfl rfl rfl rfl rfl rfl rfl (by kernel_rfl) (by kernel_rfl) (by kernel_rfl) #[true, true, true, true, true, true, true, true, true, true, true, true, true, true, true, true, true, true, true, false, false, false, false, false, false] (by kernel_rfl) (fun _ _ _ _ h => h) (fun w hS => yd_move rfl) ?_
                      refine VA_takeG (i := 20) rfl rfl rfl rfl rfl rfl rfl (by kernel_rfl) (by kernel_rfl) (by kernel_rfl) #[true, true, true, true, true, true, true, true, true, true, true, true, true, true, true, true, true, true, true, false, true, false, false, false, false] (by kernel_rfl) (fun _ _ _ _ h => h) (fun w hS => yd_move rfl) ?_
                      refine VA_only (i := 19) (by kernel_rfl) hS ?_
                      refine VS_call rfl (wanted_yes rfl rfl rfl rfl) #[true, true, true, true, true, true, true, true, true, true, true, true, true, true, true, true, true, true, true, true, true, false, false, false, false] (by kernel_rfl) rfl rfl rfl T.call19 rfl (reach_ok (hS.graph hG0) hg hlt) ?_
                      rintro _ w ⟨rb1, R1, rfl, hR4, hIR1⟩
                      have hS := hS.call0 hR4
                      have hIl1 := hIR1.1
                      refine VA.weaken (S' := fun w => St w0 M0 ([blk ab 3 (A.map (Value.int .i64))] ++ [blk rb1 4 (R1.map Value.bool)]) w) ?_ (fun w h => h.sub (List.sublist_append_left _ _))
                      refine VA_takeG (i := 21) rfl rfl rfl rfl rfl rfl rfl (by kernel_rfl) (by kernel_rfl) (by kernel_rfl) #[true, true, true, true, true, true, true, true, true, true, true, true, true, true, true, true, true, true, true, true, true, true, false, false, false] (by kernel_rfl) (fun _ _ _ _ h => h) (fun w hS => yd_index0 rfl rfl Try.underlying28 T.sz4 (by omega)) ?_
                      refine VA_takeG (i := 22) rfl rfl rfl rfl rfl rfl rfl (by kernel_rfl) (by kernel_rfl) (by kernel_rfl) #[true, true, true, true, true, true, true, true, true, true, true, true, true, true, true, true, true, true, true, true, true, true, true, false, false] (by kernel_rfl) (fun _ _ _ _ h => h) (fun w hS => yd_load rfl T.one4 (blk_cellM (hS.get 1 rfl) (by omega))) ?_
                      refine VA_takeG (i := 23) rfl rfl rfl rfl rfl rfl rfl (by kernel_rfl) (by kernel_rfl) (by kernel_rfl) #[true, true, true, true, true, true, true, true, true, true, true, true, true, true, true, true, true, true, true, true, true, true, true, true, false] (by kernel_rfl) (fun _ _ _ _ h => h) (fun w hS => yd_not rfl) ?_
                      refine VA_take (i := 24) rfl rfl rfl rfl (by kernel_rfl) (by kernel_rfl) (by kernel_rfl) #[true, true, true, true, true, true, true, true, true, true, true, true, true, true, true, true, true, true, true, true, true, true, true, true, true] (by kernel_rfl) (fun _ _ _ _ h => h) (fun w hS => yd_pick_t rfl rfl) ?_
                      refine VA_done (by kernel_rfl) hS ?_
                      refine VE_then ?_
                      refine VC_cond rfl (fun h96 => ?_) (fun h96 => ?_)
                      · replace h96 := V.nt h96
                        exfalso
                        have h1 := place_edge hg hA hed h77
                        rcases h1.2 with h1 | h1
                        · omega
                        · have := (hIR1.2 x (by omega)).2 ⟨by omega, h1⟩
                          rw [h96] at this; cases this
                      · replace h96 := V.nf h96
                        refine VC_skip ?_
                        refine VE_block_normal ?_
                        refine VE_then ?_
                        refine VC_region ?_
                        have hS := hS.sub (η' := [blk ab 3 (A.map (Value.int .i64))]) (by first | exact List.Sublist.refl _ | exact List.sublist_append_left _ _)
                        refine VL_val rfl rfl rfl (yd_add rfl rfl ((j + 1 : Nat) : Int) (by rw [wi64 (by omega) (by omega)]; omega)) ?_
                        refine VL_val rfl rfl rfl (yd_move rfl) ?_
                        refine VL_nil ?_
                        exact VE_round1 (j + 1) ⟨rfl, rfl, rfl, rfl, rfl, rfl, rfl, rfl, rfl, rfl, rfl, rfl, rfl, rfl, trivial⟩ ⟨by omega, hS⟩ (by omega)
                    · replace h88 := Int.not_lt.1 (of_decide_eq_false h88)
                      refine VA_no (i := 17) rfl rfl rfl rfl rfl rfl rfl rfl (by kernel_rfl) (by kernel_rfl) (by kernel_rfl) #[true, true, true, true, true, true, true, true, true, true, true, true, true, true, true, true, true, true, false, false, false, false, false, false, false] (by kernel_rfl) (fun _ _ _ _ h => h) ?_
                      refine VA_no (i := 18) rfl rfl rfl rfl rfl rfl rfl rfl (by kernel_rfl) (by kernel_rfl) (by kernel_rfl) #[true, true, true, true, true, true, true, true, true, true, true, true, true, true, true, true, true, true, true, false, false, false, false, false, false] (by kernel_rfl) (fun _ _ _ _ h => h) ?_
                      refine VA_no (i := 19) rfl rfl rfl rfl rfl rfl rfl rfl (by kernel_rfl) (by kernel_rfl) (by kernel_rfl) #[true, true, true, true, true, true, true, true, true, true, true, true, true, true, true, true, true, true, true, true, false, false, false, false, false] (by kernel_rfl) (fun _ _ _ _ h => h) ?_
                      refine VA_no (i := 20) rfl rfl rfl rfl rfl rfl rfl rfl (by kernel_rfl) (by kernel_rfl) (by kernel_rfl) #[true, true, true, true, true, true, true, true, true, true, true, true, true, true, true, true, true, true, true, true, true, false, false, false, false] (by kernel_rfl) (fun _ _ _ _ h => h) ?_
                      refine VA_no (i := 21) rfl rfl rfl rfl rfl rfl rfl rfl (by kernel_rfl) (by kernel_rfl) (by kernel_rfl) #[true, true, true, true, true, true, true, true, true, true, true, true, true, true, true, true, true, true, true, true, true, true, false, false, false] (by kernel_rfl) (fun _ _ _ _ h => h) ?_
                      refine VA_no (i := 22) rfl rfl rfl rfl rfl rfl rfl rfl (by kernel_rfl) (by kernel_rfl) (by kernel_rfl) #[true, true, true, true, true, true, true, true, true, true, true, true, true, true, true, true, true, true, true, true, true, true, true, false, false] (by kernel_rfl) (fun _ _ _ _ h => h) ?_
                      refine VA_no (i := 23) rfl rfl rfl rfl rfl rfl rfl rfl (by kernel_rfl) (by kernel_rfl) (by kernel_rfl) #[true, true, true, true, true, true, true, true, true, true, true, true, true, true, true, true, true, true, true, true, true, true, true, true, false] (by kernel_rfl) (fun _ _ _ _ h => h) ?_
                      refine VA_take (i := 24) rfl rfl rfl rfl (by kernel_rfl) (by kernel_rfl) (by kernel_rfl) #[true, true, true, true, true, true, true, true, true, true, true, true, true, true, true, true, true, true, true, true, true, true, true, true, true] (by kernel_rfl) (fun _ _ _ _ h => h) (fun w hS => yd_pick_f rfl rfl) ?_
                      refine VA_done (by kernel_rfl) hS ?_
                      refine VE_then ?_
                      refine VC_cond_f rfl ?_
                      refine VC_skip ?_
                      refine VE_block_normal ?_
                      refine VE_then ?_
                      refine VC_region ?_
                      have hS := hS.sub (η' := [blk ab 3 (A.map (Value.int .i64))]) (by first | exact List.Sublist.refl _ | exact List.sublist_append_left _ _)
                      refine VL_val rfl rfl rfl (yd_add rfl rfl ((j + 1 : Nat) : Int) (by rw [wi64 (by omega) (by omega)]; omega)) ?_
                      refine VL_val rfl rfl rfl (yd_move rfl) ?_
                      refine VL_nil ?_
                      exact VE_round1 (j + 1) ⟨rfl, rfl, rfl, rfl, rfl, rfl, rfl, rfl, rfl, rfl, rfl, rfl, rfl, rfl, trivial⟩ ⟨by omega, hS⟩ (by omega)
                  · replace h77 := Int.not_le.1 (of_decide_eq_false h77)
                    refine VA_no (i := 6) rfl rfl rfl rfl rfl rfl rfl rfl (by kernel_rfl) (by kernel_rfl) (by kernel_rfl) #[true, true, true, true, true, true, true, false, false, false, false, false, false, false, false, false, false, false, false, false, false, false, false, false, false] (by kernel_rfl) (fun _ _ _ _ h => h) ?_
                    refine VA_no (i := 7) rfl rfl rfl rfl rfl rfl rfl rfl (by kernel_rfl) (by kernel_rfl) (by kernel_rfl) #[true, true, true, true, true, true, true, true, false, false, false, false, false, false, false, false, false, false, false, false, false, false, false, false, false] (by kernel_rfl) (fun _ _ _ _ h => h) ?_
                    refine VA_no (i := 8) rfl rfl rfl rfl rfl rfl rfl rfl (by kernel_rfl) (by kernel_rfl) (by kernel_rfl) #[true, true, true, true, true, true, true, true, true, false, false, false, false, false, false, false, false, false, false, false, false, false, false, false, false] (by kernel_rfl) (fun _ _ _ _ h => h) ?_
                    refine VA_no (i := 9) rfl rfl rfl rfl rfl rfl rfl rfl (by kernel_rfl) (by kernel_rfl) (by kernel_rfl) #[true, true, true, true, true, true, true, true, true, true, false, false, false, false, false, false, false, false, false, false, false, false, false, false, false] (by kernel_rfl) (fun _ _ _ _ h => h) ?_
                    refine VA_no (i := 10) rfl rfl rfl rfl rfl rfl rfl rfl (by kernel_rfl) (by kernel_rfl) (by kernel_rfl) #[true, true, true, true, true, true, true, true, true, true, true, false, false, false, false, false, false, false, false, false, false, false, false, false, false] (by kernel_rfl) (fun _ _ _ _ h => h) ?_
                    refine VA_no (i := 11) rfl rfl rfl rfl rfl rfl rfl rfl (by kernel_rfl) (by kernel_rfl) (by kernel_rfl) #[true, true, true, true, true, true, true, true, true, true, true, true, false, false, false, false, false, false, false, false, false, false, false, false, false] (by kernel_rfl) (fun _ _ _ _ h => h) ?_
                    refine VA_no (i := 12) rfl rfl rfl rfl rfl rfl rfl rfl (by kernel_rfl) (by kernel_rfl) (by kernel_rfl) #[true, true, true, true, true, true, true, true, true, true, true, true, true, false, false, false, false, false, false, false, false, false, false, false, false] (by kernel_rfl) (fun _ _ _ _ h => h) ?_
                    refine VA_no (i := 13) rfl rfl rfl rfl rfl rfl rfl rfl (by kernel_rfl) (by kernel_rfl) (by kernel_rfl) #[true, true, true, true, true, true, true, true, true, true, true, true, true, true, false, false, false, false, false, false, false, false, false, false, false] (by kernel_rfl) (fun _ _ _ _ h => h) ?_
                    refine VA_no (i := 14) rfl rfl rfl rfl rfl rfl rfl rfl (by kernel_rfl) (by kernel_rfl) (by kernel_rfl) #[true, true, true, true, true, true, true, true, true, true, true, true, true, true, true, false, false, false, false, false, false, false, false, false, false] (by kernel_rfl) (fun _ _ _ _ h => h) ?_
                    refine VA_take (i := 15) rfl rfl rfl rfl (by kernel_rfl) (by kernel_rfl) (by kernel_rfl) #[true, true, true, true, true, true, true, true, true, true, true, true, true, true, true, true, false, false, false, false, false, false, false, false, false] (by kernel_rfl) (fun _ _ _ _ h => h) (fun w hS => yd_pick_f rfl rfl) ?_
                    refine VA_take (i := 16) rfl rfl rfl rfl (by kernel_rfl) (by kernel_rfl) (by kernel_rfl) #[true, true, true, true, true, true, true, true, true, true, true, true, true, true, true, true, true, false, false, false, false, false, false, false, false] (by kernel_rfl) (fun _ _ _ _ h => h) (fun w hS => yd_move rfl) ?_
                    refine VA_no (i := 17) rfl rfl rfl rfl rfl rfl rfl rfl (by kernel_rfl) (by kernel_rfl) (by kernel_rfl) #[true, true, true, true, true, true, true, true, true, true, true, true, true, true, true, true, true, true, false, false, false, false, false, false, false] (by kernel_rfl) (fun _ _ _ _ h => h) ?_
                    refine VA_no (i := 18) rfl rfl rfl rfl rfl rfl rfl rfl (by kernel_rfl) (by kernel_rfl) (by kernel_rfl) #[true, true, true, true, true, true, true, true, true, true, true, true, true, true, true, true, true, true, true, false, false, false, false, false, false] (by kernel_rfl) (fun _ _ _ _ h => h) ?_
                    refine VA_no (i := 19) rfl rfl rfl rfl rfl rfl rfl rfl (by kernel_rfl) (by kernel_rfl) (by kernel_rfl) #[true, true, true, true, true, true, true, true, true, true, true, true, true, true, true, true, true, true, true, true, false, false, false, false, false] (by kernel_rfl) (fun _ _ _ _ h => h) ?_
                    refine VA_no (i := 20) rfl rfl rfl rfl rfl rfl rfl rfl (by kernel_rfl) (by kernel_rfl) (by kernel_rfl) #[true, true, true, true, true, true, true, true, true, true, true, true, true, true, true, true, true, true, true, true, true, false, false, false, false] (by kernel_rfl) (fun _ _ _ _ h => h) ?_
                    refine VA_no (i := 21) rfl rfl rfl rfl rfl rfl rfl rfl (by kernel_rfl) (by kernel_rfl) (by kernel_rfl) #[true, true, true, true, true, true, true, true, true, true, true, true, true, true, true, true, true, true, true, true, true, true, false, false, false] (by kernel_rfl) (fun _ _ _ _ h => h) ?_
                    refine VA_no (i := 22) rfl rfl rfl rfl rfl rfl rfl rfl (by kernel_rfl) (by kernel_rfl) (by kernel_rfl) #[true, true, true, true, true, true, true, true, true, true, true, true, true, true, true, true, true, true, true, true, true, true, true, false, false] (by kernel_rfl) (fun _ _ _ _ h => h) ?_
                    refine VA_no (i := 23) rfl rfl rfl rfl rfl rfl rfl rfl (by kernel_rfl) (by kernel_rfl) (by kernel_rfl) #[true, true, true, true, true, true, true, true, true, true, true, true, true, true, true, true, true, true, true, true, true, true, true, true, false] (by kernel_rfl) (fun _ _ _ _ h => h) ?_
                    refine VA_take (i := 24) rfl rfl rfl rfl (by kernel_rfl) (by kernel_rfl) (by kernel_rfl) #[true, true, true, true, true, true, true, true, true, true, true, true, true, true, true, true, true, true, true, true, true, true, true, true, true] (by kernel_rfl) (fun _ _ _ _ h => h) (fun w hS => yd_pick_f rfl rfl) ?_
                    refine VA_done (by kernel_rfl) hS ?_
                    refine VE_then ?_
                    refine VC_cond_f rfl ?_
                    refine VC_skip ?_
                    refine VE_block_normal ?_
                    refine VE_then ?_
                    refine VC_region ?_
                    have hS := hS.sub (η' := [blk ab 3 (A.map (Value.int .i64))]) (by first | exact List.Sublist.refl _ | exact List.sublist_append_left _ _)
                    refine VL_val rfl rfl rfl (yd_add rfl rfl ((j + 1 : Nat) : Int) (by rw [wi64 (by omega) (by omega)]; omega)) ?_
                    refine VL_val rfl rfl rfl (yd_move rfl) ?_
                    refine VL_nil ?_
                    exact VE_round1 (j + 1) ⟨rfl, rfl, rfl, rfl, rfl, rfl, rfl, rfl, rfl, rfl, rfl, rfl, rfl, rfl, trivial⟩ ⟨by omega, hS⟩ (by omega)
                · replace h69 := Int.not_lt.1 (of_decide_eq_false h69)
                  refine VC_exit ?_
                  refine VE_then_exit (VE_then_exit (VE_block_exit ?_))
                  refine VE_block_normal ?_
                  refine VE_then ?_
                  refine VC_region ?_
                  refine VL_val rfl rfl rfl (yd_add rfl rfl ((x + 1 : Nat) : Int) (by rw [wi64 (by omega) (by omega)]; omega)) ?_
                  refine VL_val rfl rfl rfl (yd_move rfl) ?_
                  refine VL_nil ?_
                  exact VE_round1 (x + 1) ⟨rfl, rfl, rfl, rfl, rfl, trivial⟩ ⟨by omega, hS⟩ (by omega)
              · replace h62 := Int.not_lt.1 (of_decide_eq_false h62)
                refine VC_exit ?_
                refine VE_then_exit (VE_then_exit (VE_block_exit ?_))
                refine VE_then ?_
                refine VC_seq ?_
                refine VC_region ?_
                refine VL_val rfl rfl rfl (yd_assign rfl) ?_
                refine VL_nil ?_
                refine VE_then ?_
                refine VC_ret ?_
                refine VE_ret1 (rfl) rfl ?_
                exact ⟨rfl, hS.below⟩

set_option maxHeartbeats 1000000 in
theorem fnPostorderForward_calls {w0 : World} {v : Value} {G0 : List (List Int)} (hR : RowsAt w0 v G0) : Calls Try.prog 4 #[v] w0 (Ret fun u w' => u = .bool true ∧ RowKit.Below w0.heap.size w0 w') := by
  have hS := St.refl w0
  refine V_enter (N := 74) Try.func4 rfl Try.ntmps4 rfl ?_
  refine VC.sub (τ := [(0, _)]) ⟨rfl, trivial⟩ ?_
  refine VC_seq ?_
  refine VC_region ?_
  refine VL_val rfl rfl rfl (yd_assign rfl) ?_
  refine VL_nil ?_
  refine VE_then ?_
  refine VC_seq ?_
  refine VC_seq ?_
  refine VC_region ?_
  refine VL_val rfl rfl rfl (yd_move rfl) ?_
  refine VL_call rfl rfl rfl rfl T.call15 rfl (zzFits1_ok (hS.rows hR)) ?_
  rintro _ _ ⟨rfl, bz, rfl, hz⟩
  refine VL_val rfl rfl rfl (yd_not rfl) ?_
  refine VL_nil ?_
  refine VE_then ?_
  refine VC_cond rfl (fun h12 => ?_) (fun h12 => ?_)
  · replace h12 := V.nt h12
    refine VC_seq ?_
    refine VC_region ?_
    refine VL_val rfl rfl rfl (yd_assign rfl) ?_
    refine VL_nil ?_
    refine VE_then ?_
    refine VC_ret ?_
    refine VE_then_ret (?_)
    refine VE_ret1 (rfl) rfl ?_
    exact ⟨rfl, hS.below⟩
  · replace h12 := V.nf h12
    have hzt := h12
    refine VC_skip ?_
    refine VE_then ?_
    refine VC_seq ?_
    refine VC_seq ?_
    refine VC_region ?_
    refine VL_val rfl rfl rfl (yd_move rfl) ?_
    refine VL_call rfl rfl rfl rfl T.call16 rfl (good_ok (hS.rows hR) (hz hzt)) ?_
    rintro _ _ ⟨rfl, bg, rfl, hgi⟩
    refine VL_val rfl rfl rfl (yd_not rfl) ?_
    refine VL_val rfl rfl rfl (yd_move rfl) ?_
    refine VL_split 16 rfl (fun h16 => ?_) (fun h16 => ?_)
    · replace h16 := V.nt h16
      refine VL_no rfl rfl rfl rfl rfl rfl rfl ?_
      refine VL_no rfl rfl rfl rfl rfl rfl rfl ?_
      refine VL_val rfl rfl rfl (yd_pick_t rfl rfl) ?_
      refine VL_nil ?_
      refine VE_then ?_
      refine VC_cond_t rfl ?_
      refine VC_seq ?_
      refine VC_region ?_
      refine VL_val rfl rfl rfl (yd_assign rfl) ?_
      refine VL_nil ?_
      refine VE_then ?_
      refine VC_ret ?_
      refine VE_then_ret (?_)
      refine VE_ret1 (rfl) rfl ?_
      exact ⟨rfl, hS.below⟩
    · replace h16 := V.nf h16
      have hgt := h16
      obtain ⟨G, hG, hg, -⟩ := graph_of_rows hR (hgi.1 hgt)
      have hle := hg.le
      have hpos := hg.pos
      have hG0 := hG
      obtain ⟨ga, gc, gb, go, rfl, hga, hrow⟩ := hG
      obtain rfl := hga (by omega)
      have hP := postL_ok hg
      have hpl := postL_le hg
      have hpp := postL_pos hg
      refine VL_yes rfl rfl rfl rfl ?_
      refine VL_val rfl rfl rfl (yd_move rfl) ?_
      refine VL_yes rfl rfl rfl rfl ?_
      refine VL_call rfl rfl rfl rfl T.call20 rfl (circle_ok (hS.graph hG0) hg) ?_
      rintro _ w ⟨bc, rfl, hR5, hci⟩
      have hS := hS.call0 hR5
      refine VL_val rfl rfl rfl (yd_pick_f rfl rfl) ?_
      refine VL_nil ?_
      refine VE_then ?_
      refine VC_cond rfl (fun h19 => ?_) (fun h19 => ?_)
      · skip
        refine VC_seq ?_
        refine VC_region ?_
        refine VL_val rfl rfl rfl (yd_assign rfl) ?_
        refine VL_nil ?_
        refine VE_then ?_
        refine VC_ret ?_
        refine VE_then_ret (?_)
        refine VE_ret1 (rfl) rfl ?_
        exact ⟨rfl, hS.below⟩
      · skip
        have hnc : ¬ ∃ x y, Ed G x y ∧ Rch G (-1) y x := fun h => by rw [hci.2 h] at h19; cases h19
        refine VC_skip ?_
        refine VE_then ?_
        refine VC_seq ?_
        refine VC_region ?_
        refine VL_val rfl rfl rfl (yd_move rfl) ?_
        refine VL_call rfl rfl rfl rfl T.call17 rfl (implPostorder_ok (hS.graph hG0) hg) ?_
        rintro u w hR1
        have hS := hS.call0 hR1
        obtain ⟨pb, pc, rfl, -⟩ := row_form (hS.get 0 rfl) (.inr hpp)
        refine VL_val rfl rfl rfl (yd_assign rfl) ?_
        refine VL_nil ?_
        refine VE_then ?_
        refine VC_seq ?_
        refine VC_region ?_
        refine VL_val rfl rfl rfl (yd_move rfl) ?_
        refine VL_val rfl rfl rfl (yd_move rfl) ?_
        refine VL_val rfl rfl rfl (yd_len rfl Try.underlying22) ?_
        refine VL_call rfl rfl rfl rfl T.call18 rfl (places_ok (v := .slice (some ⟨pb, 0, none⟩) (postL G).length pc) (l := postL G) (by have := ints_of_row (l := zL (postL G)) (by rw [zL_len]; exact hS.get 0 rfl); exact this) (by omega) (by omega) (fun i hi => postL_lt hg hi) hP.nd') ?_
        rintro _ w ⟨ab, A, rfl, hR2, hA⟩
        have hS := hS.call0 hR2
        have hAl := hA.1
        refine VL_val rfl rfl rfl (yd_move rfl) ?_
        refine VL_val rfl rfl rfl (yd_extract rfl rfl) ?_
        refine VL_val rfl rfl rfl (yd_extract rfl rfl) ?_
        refine VL_val rfl rfl rfl (yd_assign rfl) ?_
        refine VL_val rfl rfl rfl (yd_assign rfl) ?_
        refine VL_nil ?_
        refine VE_then ?_
        refine VC_seq ?_
        refine VC_seq ?_
        refine VC_region ?_
        refine VL_val rfl rfl rfl (yd_move rfl) ?_
        refine VL_val rfl rfl rfl (yd_not rfl) ?_
        refine VL_val rfl rfl rfl (yd_move rfl) ?_
        refine VL_split 31 rfl (fun h31 => ?_) (fun h31 => ?_)
        · replace h31 := V.nt h31
          cases h31
        · replace h31 := V.nf h31
          refine VL_yes rfl rfl rfl rfl ?_
          refine VL_val rfl rfl rfl (yd_move rfl) ?_
          refine VL_yes rfl rfl rfl rfl ?_
          refine VL_val rfl rfl rfl (yd_len rfl Try.underlying24) ?_
          refine VL_yes rfl rfl rfl rfl ?_
          refine VL_val rfl rfl rfl (yd_eql rfl rfl) ?_
          refine VL_val rfl rfl rfl (yd_pick_f rfl rfl) ?_
          refine VL_nil ?_
          refine VE_then ?_
          refine VC_cond rfl (fun h35 => ?_) (fun h35 => ?_)
          · replace h35 := of_decide_eq_true h35
            exact absurd h35 (by omega)
          · replace h35 := of_decide_eq_false h35
            refine VC_skip ?_
            refine VE_then ?_
            refine VC_seq ?_
            refine VC_seq ?_
            refine VC_region ?_
            refine VL_val rfl rfl rfl (yd_move rfl) ?_
            refine VL_val rfl rfl rfl (yd_len rfl Try.underlying22) ?_
            refine VL_val rfl rfl rfl (yd_move rfl) ?_
            refine VL_nil ?_
            refine VE_then ?_
            refine VC_block ?_
            refine VC_loop1 [4, 36, 37] [_, _, _] rfl (fun (x : Nat) => [(38, .int .i64 ((x : Nat) : Int))]) (fun (x : Nat) w => x ≤ G.length ∧ St w0 M0 [blk ab 3 (A.map (Value.int .i64))] w) (fun (x : Nat) => G.length - x) 0 ⟨rfl, trivial⟩ (⟨Nat.zero_le _, hS.sub (List.Sublist.cons _ (List.Sublist.cons_cons _ (List.nil_sublist _)))⟩) ?_
            clear hS; rintro x w ⟨hx, hS⟩
            refine VC_seq ?_
            refine VC_region ?_
            refine VL_val rfl rfl rfl (yd_lss rfl rfl) ?_
            refine VL_nil ?_
            refine VE_then ?_
            refine VC_seq ?_
            refine VC_cond rfl (fun h39 => ?_) (fun h39 => ?_)
            · replace h39 := of_decide_eq_true h39
              refine VC_skip ?_
              refine VE_then ?_
              refine VC_seq ?_
              refine VC_block ?_
              refine VC_seq ?_
              refine VC_region ?_
              obtain ⟨ra, rc, rb, ro, hc, hra, hcs⟩ := hrow x (by omega)
              have hr4 := hg.row x (by omega)
              refine VL_val rfl rfl rfl (yd_move rfl) ?_
              refine VL_val rfl rfl rfl (yd_index1 rfl rfl Try.underlying22 T.sz24 (by omega)) ?_
              refine VL_val rfl rfl rfl (yd_load rfl T.one24 (hS.cell0 hc)) ?_
              refine VL_val rfl rfl rfl (yd_assign rfl) ?_
              refine VL_val rfl rfl rfl (yd_assign rfl) ?_
              refine VL_nil ?_
              refine VE_then ?_
              refine VC_seq ?_
              refine VC_region ?_
              refine VL_val rfl rfl rfl (yd_move rfl) ?_
              refine VL_val rfl rfl rfl (yd_len rfl Try.underlying24) ?_
              refine VL_val rfl rfl rfl (yd_move rfl) ?_
              refine VL_nil ?_
              refine VE_then ?_
              refine VC_block ?_
              refine VC_loop1 [4, 6, 7, 36, 37, 38, 39, 40, 41, 42, 43, 44] [_, _, _, _, _, _, _, _, _, _, _, _] rfl (fun (j : Nat) => [(45, .int .i64 ((j : Nat) : Int))]) (fun (j : Nat) w => j ≤ G[x]!.length ∧ St w0 M0 [blk ab 3 (A.map (Value.int .i64))] w) (fun (j : Nat) => G[x]!.length - j) 0 ⟨rfl, trivial⟩ (⟨Nat.zero_le _, hS⟩) ?_
              clear hS; rintro j w ⟨hj, hS⟩
              refine VC_seq ?_
              refine VC_region ?_
              refine VL_val rfl rfl rfl (yd_lss rfl rfl) ?_
              refine VL_nil ?_
              refine VE_then ?_
              refine VC_seq ?_
              refine VC_cond rfl (fun h46 => ?_) (fun h46 => ?_)
              · replace h46 := of_decide_eq_true h46
                refine VC_skip ?_
                refine VE_then ?_
                refine VC_seq ?_
                refine VC_block ?_
                refine VC_seq ?_
                refine VC_region ?_
                obtain rfl := hra (by omega)
                have hlt := hg.lt x (by omega) j (by omega)
                have hed : Ed G x G[x]![j]! := Ed.get (by omega) (by omega)
                refine VL_val rfl rfl rfl (yd_index1 rfl rfl Try.underlying24 T.sz3 (by omega)) ?_
                refine VL_val rfl rfl rfl (yd_load rfl T.one3 (hS.cell0 (hcs j (by omega)))) ?_
                refine VL_val rfl rfl rfl (yd_assign rfl) ?_
                refine VL_nil ?_
                refine VE_then ?_
                refine VC_seq ?_
                refine VC_draw T.mixed hS ?_
                clear hS; intro w hS
                refine VA_take (i := 0) rfl rfl rfl rfl (by kernel_rfl) (by kernel_rfl) (by kernel_rfl) #[true, false, false, false, false, false, false, false, false, false, false, false, false, false, false, false, false, false, false, false, false, false, false] (by kernel_rfl) (fun _ _ _ _ h => h) (fun w hS => yd_move rfl) ?_
                refine VA_take (i := 1) rfl rfl rfl rfl (by kernel_rfl) (by kernel_rfl) (by kernel_rfl) #[true, true, false, false, false, false, false, false, false, false, false, false, false, false, false, false, false, false, false, false, false, false, false] (by kernel_rfl) (fun _ _ _ _ h => h) (fun w hS => yd_move rfl) ?_
                refine VA_take (i := 2) rfl rfl rfl rfl (by kernel_rfl) (by kernel_rfl) (by kernel_rfl) #[true, true, true, false, false, false, false, false, false, false, false, false, false, false, false, false, false, false, false, false, false, false, false] (by kernel_rfl) (fun _ _ _ _ h => h) (fun w hS => yd_index0 rfl rfl Try.underlying24 T.sz3 (by omega)) ?_
                refine VA_take (i := 3) rfl rfl rfl rfl (by kernel_rfl) (by kernel_rfl) (by kernel_rfl) #[true, true, true, true, false, false, false, false, false, false, false, false, false, false, false, false, false, false, false, false, false, false, false] (by kernel_rfl) (fun _ _ _ _ h => h) (fun w hS => yd_load rfl T.one3 (blk_cellM (hS.get 0 rfl) (by omega))) ?_
                refine VA_take (i := 4) rfl rfl rfl rfl (by kernel_rfl) (by kernel_rfl) (by kernel_rfl) #[true, true, true, true, true, false, false, false, false, false, false, false, false, false, false, false, false, false, false, false, false, false, false] (by kernel_rfl) (fun _ _ _ _ h => h) (fun w hS => yd_geq rfl rfl) ?_
                refine VA_take (i := 5) rfl rfl rfl rfl (by kernel_rfl) (by kernel_rfl) (by kernel_rfl) #[true, true, true, true, true, true, false, false, false, false, false, false, false, false, false, false, false, false, false, false, false, false, false] (by kernel_rfl) (fun _ _ _ _ h => h) (fun w hS => yd_move rfl) ?_
                refine VA_split 54 rfl (fun h54 => ?_) (fun h54 => ?_)
                · replace h54 := of_decide_eq_true h54
                  have hpe := place_edge hg hA hed h54
                  have hpe2 : A[G[x]![j]!]! < A[x]! := hpe.2.resolve_right (fun h => hnc ⟨_, _, hed, h⟩)
                  refine VA_takeG (i := 6) rfl rfl rfl rfl rfl rfl rfl (by kernel_rfl) (by kernel_rfl) (by kernel_rfl) #[true, true, true, true, true, true, true, false, false, false, false, false, false, false, false, false, false, false, false, false, false, false, false] (by kernel_rfl) (fun _ _ _ _ h => h) (fun w hS => yd_move rfl) ?_
                  refine VA_takeG (i := 7) rfl rfl rfl rfl rfl rfl rfl (by kernel_rfl) (by kernel_rfl) (by kernel_rfl) #[true, true, true, true, true, true, true, true, false, false, false, false, false, false, false, false, false, false, false, false, false, false, false] (by kernel_rfl) (fun _ _ _ _ h => h) (fun w hS => yd_move rfl) ?_
                  refine VA_takeG (i := 8) rfl rfl rfl rfl rfl rfl rfl (by kernel_rfl) (by kernel_rfl) (by kernel_rfl) #[true, true, true, true, true, true, true, true, true, false, false, false, false, false, false, false, false, false, false, false, false, false, false] (by kernel_rfl) (fun _ _ _ _ h => h) (fun w hS => yd_index0 rfl rfl Try.underlying24 T.sz3 (by omega)) ?_
                  refine VA_takeG (i := 9) rfl rfl rfl rfl rfl rfl rfl (by kernel_rfl) (by kernel_rfl) (by kernel_rfl) #[true, true, true, true, true, true, true, true, true, true, false, false, false, false, false, false, false, false, false, false, false, false, false] (by kernel_rfl) (fun _ _ _ _ h => h) (fun w hS => yd_load rfl T.one3 (blk_cellM (hS.get 0 rfl) (by omega))) ?_
                  refine VA_takeG (i := 10) rfl rfl rfl rfl rfl rfl rfl (by kernel_rfl) (by kernel_rfl) (by kernel_rfl) #[true, true, true, true, true, true, true, true, true, true, true, false, false, false, false, false, false, false, false, false, false, false, false] (by kernel_rfl) (fun _ _ _ _ h => h) (fun w hS => yd_lss rfl rfl) ?_
                  refine VA_takeG (i := 11) rfl rfl rfl rfl rfl rfl rfl (by kernel_rfl) (by kernel_rfl) (by kernel_rfl) #[true, true, true, true, true, true, true, true, true, true, true, true, false, false, false, false, false, false, false, false, false, false, false] (by kernel_rfl) (fun _ _ _ _ h => h) (fun w hS => yd_move rfl) ?_
                  refine VA_split 60 rfl (fun h60 => ?_) (fun h60 => ?_)
                  · replace h60 := of_decide_eq_true h60
                    exact absurd h60 (by omega)
                  · replace h60 := Int.not_lt.1 (of_decide_eq_false h60)
                    refine VA_takeG (i := 12) rfl rfl rfl rfl rfl rfl rfl (by kernel_rfl) (by kernel_rfl) (by kernel_rfl) #[true, true, true, true, true, true, true, true, true, true, true, true, true, false, false, false, false, false, false, false, false, false, false] (by kernel_rfl) (fun _ _ _ _ h => h) (fun w hS => yd_move rfl) ?_
                    refine VA_takeG (i := 13) rfl rfl rfl rfl rfl rfl rfl (by kernel_rfl) (by kernel_rfl) (by kernel_rfl) #[true, true, true, true, true, true, true, true, true, true, true, true, true, true, false, false, false, false, false, false, false, false, false] (by kernel_rfl) (fun _ _ _ _ h => h) (fun w hS => yd_move rfl) ?_
                    refine VA_takeG (i := 14) rfl rfl rfl rfl rfl rfl rfl (by kernel_rfl) (by kernel_rfl) (by kernel_rfl) #[true, true, true, true, true, true, true, true, true, true, true, true, true, true, true, false, false, false, false, false, false, false, false] (by kernel_rfl) (fun _ _ _ _ h => h) (fun w hS => yd_index0 rfl rfl Try.underlying24 T.sz3 (by omega)) ?_
                    refine VA_takeG (i := 15) rfl rfl rfl rfl rfl rfl rfl (by kernel_rfl) (by kernel_rfl) (by kernel_rfl) #[true, true, true, true, true, true, true, true, true, true, true, true, true, true, true, true, false, false, false, false, false, false, false] (by kernel_rfl) (fun _ _ _ _ h => h) (fun w hS => yd_load rfl T.one3 (blk_cellM (hS.get 0 rfl) (by omega))) ?_
                    refine VA_takeG (i := 16) rfl rfl rfl rfl rfl rfl rfl (by kernel_rfl) (by kernel_rfl) (by kernel_rfl) #[true, true, true, true, true, true, true, true, true, true, true, true, true, true, true, true, true, false, false, false, false, false, false] (by kernel_rfl) (fun _ _ _ _ h => h) (fun w hS => yd_move rfl) ?_
                    refine VA_takeG (i := 17) rfl rfl rfl rfl rfl rfl rfl (by kernel_rfl) (by kernel_rfl) (by kernel_rfl) #[true, true, true, true, true, true, true, true, true, true, true, true, true, true, true, true, true, true, false, false, false, false, false] (by kernel_rfl) (fun _ _ _ _ h => h) (fun w hS => yd_move rfl) ?_
                    refine VA_takeG (i := 18) rfl rfl rfl rfl rfl rfl rfl (by kernel_rfl) (by kernel_rfl) (by kernel_rfl) #[true, true, true, true, true, true, true, true, true, true, true, true, true, true, true, true, true, true, true, false, false, false, false] (by kernel_rfl) (fun _ _ _ _ h => h) (fun w hS => yd_index0 rfl rfl Try.underlying24 T.sz3 (by omega)) ?_
                    refine VA_takeG (i := 19) rfl rfl rfl rfl rfl rfl rfl (by kernel_rfl) (by kernel_rfl) (by kernel_rfl) #[true, true, true, true, true, true, true, true, true, true, true, true, true, true, true, true, true, true, true, true, false, false, false] (by kernel_rfl) (fun _ _ _ _ h => h) (fun w hS => yd_load rfl T.one3 (blk_cellM (hS.get 0 rfl) (by omega))) ?_
                    refine VA_takeG (i := 20) rfl rfl rfl rfl rfl rfl rfl (by kernel_rfl) (by kernel_rfl) (by kernel_rfl) #[true, true, true, true, true, true, true, true, true, true, true, true, true, true, true, true, true, true, true, true, true, false, false] (by kernel_rfl) (fun _ _ _ _ h => h) (fun w hS => yd_geq rfl rfl) ?_
                    refine VA_takeG (i := 21) rfl rfl rfl rfl rfl rfl rfl (by kernel_rfl) (by kernel_rfl) (by kernel_rfl) #[true, true, true, true, true, true, true, true, true, true, true, true, true, true, true, true, true, true, true, true, true, true, false] (by kernel_rfl) (fun _ _ _ _ h => h) (fun w hS => yd_pick_f rfl rfl) ?_
                    refine VA_take (i := 22) rfl rfl rfl rfl (by kernel_rfl) (by kernel_rfl) (by kernel_rfl) #[true, true, true, true, true, true, true, true, true, true, true, true, true, true, true, true, true, true, true, true, true, true, true] (by kernel_rfl) (fun _ _ _ _ h => h) (fun w hS => yd_pick_t rfl rfl) ?_
                    refine VA_done (by kernel_rfl) hS ?_
                    refine VE_then ?_
                    refine VC_cond rfl (fun h71 => ?_) (fun h71 => ?_)
                    · replace h71 := of_decide_eq_true h71
                      exact absurd h71 (by omega)
                    · replace h71 := Int.not_le.1 (of_decide_eq_false h71)
                      refine VC_skip ?_
                      refine VE_block_normal ?_
                      refine VE_then ?_
                      refine VC_region ?_
                      refine VL_val rfl rfl rfl (yd_add rfl rfl ((j + 1 : Nat) : Int) (by rw [wi64 (by omega) (by omega)]; omega)) ?_
                      refine VL_val rfl rfl rfl (yd_move rfl) ?_
                      refine VL_nil ?_
                      exact VE_round1 (j + 1) ⟨rfl, rfl, rfl, rfl, rfl, rfl, rfl, rfl, rfl, rfl, rfl, rfl, rfl, trivial⟩ ⟨by omega, hS⟩ (by omega)
                · replace h54 := Int.not_le.1 (of_decide_eq_false h54)
                  refine VA_no (i := 6) rfl rfl rfl rfl rfl rfl rfl rfl (by kernel_rfl) (by kernel_rfl) (by kernel_rfl) #[true, true, true, true, true, true, true, false, false, false, false, false, false, false, false, false, false, false, false, false, false, false, false] (by kernel_rfl) (fun _ _ _ _ h => h) ?_
                  refine VA_no (i := 7) rfl rfl rfl rfl rfl rfl rfl rfl (by kernel_rfl) (by kernel_rfl) (by kernel_rfl) #[true, true, true, true, true, true, true, true, false, false, false, false, false, false, false, false, false, false, false, false, false, false, false] (by kernel_rfl) (fun _ _ _ _ h => h) ?_
                  refine VA_no (i := 8) rfl rfl rfl rfl rfl rfl rfl rfl (by kernel_rfl) (by kernel_rfl) (by kernel_rfl) #[true, true, true, true, true, true, true, true, true, false, false, false, false, false, false, false, false, false, false, false, false, false, false] (by kernel_rfl) (fun _ _ _ _ h => h) ?_
                  refine VA_no (i := 9) rfl rfl rfl rfl rfl rfl rfl rfl (by kernel_rfl) (by kernel_rfl) (by kernel_rfl) #[true, true, true, true, true, true, true, true, true, true, false, false, false, false, false, false, false, false, false, false, false, false, false] (by kernel_rfl) (fun _ _ _ _ h => h) ?_
                  refine VA_no (i := 10) rfl rfl rfl rfl rfl rfl rfl rfl (by kernel_rfl) (by kernel_rfl) (by kernel_rfl) #[true, true, true, true, true, true, true, true, true, true, true, false, false, false, false, false, false, false, false, false, false, false, false] (by kernel_rfl) (fun _ _ _ _ h => h) ?_
                  refine VA_no (i := 11) rfl rfl rfl rfl rfl rfl rfl rfl (by kernel_rfl) (by kernel_rfl) (by kernel_rfl) #[true, true, true, true, true, true, true, true, true, true, true, true, false, false, false, false, false, false, false, false, false, false, false] (by kernel_rfl) (fun _ _ _ _ h => h) ?_
                  refine VA_noU (i := 12) rfl rfl rfl rfl rfl rfl rfl (by kernel_rfl) (by kernel_rfl) (by kernel_rfl) #[true, true, true, true, true, true, true, true, true, true, true, true, true, false, false, false, false, false, false, false, false, false, false] (by kernel_rfl) (fun _ _ _ _ h => h) ?_
                  refine VA_noU (i := 13) rfl rfl rfl rfl rfl rfl rfl (by kernel_rfl) (by kernel_rfl) (by kernel_rfl) #[true, true, true, true, true, true, true, true, true, true, true, true, true, true, false, false, false, false, false, false, false, false, false] (by kernel_rfl) (fun _ _ _ _ h => h) ?_
                  refine VA_noU (i := 14) rfl rfl rfl rfl rfl rfl rfl (by kernel_rfl) (by kernel_rfl) (by kernel_rfl) #[true, true, true, true, true, true, true, true, true, true, true, true, true, true, true, false, false, false, false, false, false, false, false] (by kernel_rfl) (fun _ _ _ _ h => h) ?_
                  refine VA_noU (i := 15) rfl rfl rfl rfl rfl rfl rfl (by kernel_rfl) (by kernel_rfl) (by kernel_rfl) #[true, true, true, true, true, true, true, true, true, true, true, true, true, true, true, true, false, false, false, false, false, false, false] (by kernel_rfl) (fun _ _ _ _ h => h) ?_
                  refine VA_noU (i := 16) rfl rfl rfl rfl rfl rfl rfl (by kernel_rfl) (by kernel_rfl) (by kernel_rfl) #[true, true, true, true, true, true, true, true, true, true, true, true, true, true, true, true, true, false, false, false, false, false, false] (by kernel_rfl) (fun _ _ _ _ h => h) ?_
                  refine VA_noU (i := 17) rfl rfl rfl rfl rfl rfl rfl (by kernel_rfl) (by kernel_rfl) (by kernel_rfl) #[true, true, true, true, true, true, true, true, true, true, true, true, true, true, true, true, true, true, false, false, false, false, false] (by kernel_rfl) (fun _ _ _ _ h => h) ?_
                  refine VA_noU (i := 18) rfl rfl rfl rfl rfl rfl rfl (by kernel_rfl) (by kernel_rfl) (by kernel_rfl) #[true, true, true, true, true, true, true, true, true, true, true, true, true, true, true, true, true, true, true, false, false, false, false] (by kernel_rfl) (fun _ _ _ _ h => h) ?_
                  refine VA_noU (i := 19) rfl rfl rfl rfl rfl rfl rfl (by kernel_rfl) (by kernel_rfl) (by kernel_rfl) #[true, true, true, true, true, true, true, true, true, true, true, true, true, true, true, true, true, true, true, true, false, false, false] (by kernel_rfl) (fun _ _ _ _ h => h) ?_
                  refine VA_noU (i := 20) rfl rfl rfl rfl rfl rfl rfl (by kernel_rfl) (by kernel_rfl) (by kernel_rfl) #[true, true, true, true, true, true, true, true, true, true, true, true, true, true, true, true, true, true, true, true, true, false, false] (by kernel_rfl) (fun _ _ _ _ h => h) ?_
                  refine VA_no (i := 21) rfl rfl rfl rfl rfl rfl rfl rfl (by kernel_rfl) (by kernel_rfl) (by kernel_rfl) #[true, true, true, true, true, true, true, true, true, true, true, true, true, true, true, true, true, true, true, true, true, true, false] (by kernel_rfl) (fun _ _ _ _ h => h) ?_
                  refine VA_take (i := 22) rfl rfl rfl rfl (by kernel_rfl) (by kernel_rfl) (by kernel_rfl) #[true, true, true, true, true, true, true, true, true, true, true, true, true, true, true, true, true, true, true, true, true, true, true] (by kernel_rfl) (fun _ _ _ _ h => h) (fun w hS => yd_pick_f rfl rfl) ?_
                  refine VA_done (by kernel_rfl) hS ?_
                  refine VE_then ?_
                  refine VC_cond_f rfl ?_
                  refine VC_skip ?_
                  refine VE_block_normal ?_
                  refine VE_then ?_
                  refine VC_region ?_
                  refine VL_val rfl rfl rfl (yd_add rfl rfl ((j + 1 : Nat) : Int) (by rw [wi64 (by omega) (by omega)]; omega)) ?_
                  refine VL_val rfl rfl rfl (yd_move rfl) ?_
                  refine VL_nil ?_
                  exact VE_round1 (j + 1) ⟨rfl, rfl, rfl, rfl, rfl, rfl, rfl, rfl, rfl, rfl, rfl, rfl, rfl, trivial⟩ ⟨by omega, hS⟩ (by omega)
              · replace h46 := Int.not_lt.1 (of_decide_eq_false h46)
                refine VC_exit ?_
                refine VE_then_exit (VE_then_exit (VE_block_exit ?_))
                refine VE_block_normal ?_
                refine VE_then ?_
                refine VC_region ?_
                refine VL_val rfl rfl rfl (yd_add rfl rfl ((x + 1 : Nat) : Int) (by rw [wi64 (by omega) (by omega)]; omega)) ?_
                refine VL_val rfl rfl rfl (yd_move rfl) ?_
                refine VL_nil ?_
                exact VE_round1 (x + 1) ⟨rfl, rfl, rfl, rfl, trivial⟩ ⟨by omega, hS⟩ (by omega)
            · replace h39 := Int.not_lt.1 (of_decide_eq_false h39)
              refine VC_exit ?_
              refine VE_then_exit (VE_then_exit (VE_block_exit ?_))
              refine VE_then ?_
              refine VC_seq ?_
              refine VC_region ?_
              refine VL_val rfl rfl rfl (yd_assign rfl) ?_
              refine VL_nil ?_
              refine VE_then ?_
              refine VC_ret ?_
              refine VE_ret1 (rfl) rfl ?_
              exact ⟨rfl, hS.below⟩

theorem fnPostorderNumbers_calls {w0 : World} {v : Value} {G0 : List (List Int)} (hR : RowsAt w0 v G0) : Calls Try.prog 5 #[v] w0 (Ret fun u w' => u = .bool true ∧ RowKit.Below w0.heap.size w0 w') := by
  have hS := St.refl w0
  refine V_enter (N := 26) Try.func5 rfl Try.ntmps5 rfl ?_
  refine VC.sub (τ := [(0, _)]) ⟨rfl, trivial⟩ ?_
  refine VC_seq ?_
  refine VC_region ?_
  refine VL_val rfl rfl rfl (yd_assign rfl) ?_
  refine VL_nil ?_
  refine VE_then ?_
  refine VC_seq ?_
  refine VC_seq ?_
  refine VC_region ?_
  refine VL_val rfl rfl rfl (yd_move rfl) ?_
  refine VL_call rfl rfl rfl rfl T.call15 rfl (zzFits1_ok (hS.rows hR)) ?_
  rintro _ _ ⟨rfl, bz, rfl, hz⟩
  refine VL_val rfl rfl rfl (yd_not rfl) ?_
  refine VL_nil ?_
  refine VE_then ?_
  refine VC_cond rfl (fun h7 => ?_) (fun h7 => ?_)
  · replace h7 := V.nt h7
    refine VC_seq ?_
    refine VC_region ?_
    refine VL_val rfl rfl rfl (yd_assign rfl) ?_
    refine VL_nil ?_
    refine VE_then ?_
    refine VC_ret ?_
    refine VE_then_ret (?_)
    refine VE_ret1 (rfl) rfl ?_
    exact ⟨rfl, hS.below⟩
  · replace h7 := V.nf h7
    have hzt := h7
    refine VC_skip ?_
    refine VE_then ?_
    refine VC_seq ?_
    refine VC_seq ?_
    refine VC_region ?_
    refine VL_val rfl rfl rfl (yd_move rfl) ?_
    refine VL_call rfl rfl rfl rfl T.call16 rfl (good_ok (hS.rows hR) (hz hzt)) ?_
    rintro _ _ ⟨rfl, bg, rfl, hgi⟩
    refine VL_val rfl rfl rfl (yd_not rfl) ?_
    refine VL_nil ?_
    refine VE_then ?_
    refine VC_cond rfl (fun h10 => ?_) (fun h10 => ?_)
    · replace h10 := V.nt h10
      refine VC_seq ?_
      refine VC_region ?_
      refine VL_val rfl rfl rfl (yd_assign rfl) ?_
      refine VL_nil ?_
      refine VE_then ?_
      refine VC_ret ?_
      refine VE_then_ret (?_)
      refine VE_ret1 (rfl) rfl ?_
      exact ⟨rfl, hS.below⟩
    · replace h10 := V.nf h10
      have hgt := h10
      obtain ⟨G, hG, hg, -⟩ := graph_of_rows hR (hgi.1 hgt)
      have hle := hg.le
      have hpos := hg.pos
      have hG0 := hG
      obtain ⟨ga, gc, gb, go, rfl, hga, hrow⟩ := hG
      obtain rfl := hga (by omega)
      have hP := postL_ok hg
      have hpl := postL_le hg
      have hpp := postL_pos hg
      refine VC_skip ?_
      refine VE_then ?_
      refine VC_seq ?_
      refine VC_region ?_
      refine VL_val rfl rfl rfl (yd_move rfl) ?_
      refine VL_call rfl rfl rfl rfl T.call17 rfl (implPostorder_ok (hS.graph hG0) hg) ?_
      rintro u w hR1
      have hS := hS.call0 hR1
      obtain ⟨pb, pc, rfl, -⟩ := row_form (hS.get 0 rfl) (.inr hpp)
      refine VL_val rfl rfl rfl (yd_move rfl) ?_
      refine VL_val rfl rfl rfl (yd_len rfl Try.underlying22) ?_
      refine VL_call rfl rfl rfl rfl T.call18 rfl (places_ok (v := .slice (some ⟨pb, 0, none⟩) (postL G).length pc) (l := postL G) (by have := ints_of_row (l := zL (postL G)) (by rw [zL_len]; exact hS.get 0 rfl); exact this) (by omega) (by omega) (fun i hi => postL_lt hg hi) hP.nd') ?_
      rintro _ w ⟨ab, A, rfl, hR2, hA⟩
      have hS := hS.call0 hR2
      have hAl := hA.1
      refine VL_val rfl rfl rfl (yd_move rfl) ?_
      refine VL_val rfl rfl rfl (yd_extract rfl rfl) ?_
      refine VL_val rfl rfl rfl (yd_extract rfl rfl) ?_
      refine VL_val rfl rfl rfl (yd_assign rfl) ?_
      refine VL_val rfl rfl rfl (yd_assign rfl) ?_
      refine VL_nil ?_
      refine VE_then ?_
      refine VC_seq ?_
      refine VC_region ?_
      refine VL_val rfl rfl rfl (yd_move rfl) ?_
      refine VL_val rfl rfl rfl (yd_move rfl) ?_
      refine VL_split 20 rfl (fun h20 => ?_) (fun h20 => ?_)
      · skip
        refine VL_yes rfl rfl rfl rfl ?_
        refine VL_val rfl rfl rfl (yd_move rfl) ?_
        refine VL_yes rfl rfl rfl rfl ?_
        refine VL_call rfl rfl rfl rfl T.call22 rfl (implPostorderNumbers_ok (hS.graph hG0) hg) ?_
        rintro u22 w ⟨B, hB, hR6⟩
        have hS := hS.call0 hR6
        have hBl := hB.1
        refine VL_yes rfl rfl rfl rfl ?_
        refine VL_val rfl rfl rfl (yd_move rfl) ?_
        refine VL_yes rfl rfl rfl rfl ?_
        refine VL_call rfl rfl rfl rfl T.call21 rfl (same_ok (la := B) (lb := A) (ints_of_row (hS.get 2 rfl)) (by have := ints_of_blk (c := G.length) (hS.get 1 rfl); rw [hAl] at this; exact this) (by omega)) ?_
        rintro _ w ⟨rfl, hR7⟩
        have hS := hS.call0 hR7
        refine VL_val rfl rfl rfl (yd_pick_t rfl rfl) ?_
        refine VL_val rfl rfl rfl (yd_assign rfl) ?_
        refine VL_nil ?_
        refine VE_then ?_
        refine VC_ret ?_
        refine VE_ret1 (rfl) rfl ?_
        refine ⟨?_, hS.below⟩
        rw [decide_eq_true (isPlaces_unique hP.nd' hB hA)]
      · skip
        cases h20

end Go.Proofs.Ytmoooaaiohplhaa
