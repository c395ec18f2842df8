/- spec.Split; the law on a block more on a way. -/
import Derived.Test.YtmoooaaiohplhabWr
namespace Go.Proofs.Ytmoooaaiohplhab
open Go Go.V
set_option linter.unusedVariables false
set_option maxRecDepth 100000

theorem T.call26 : CallT Try.prog 26 := CallT.of Try.func26 (by kernel_rfl) (by kernel_rfl)
theorem T.call27 : CallT Try.prog 27 := CallT.of Try.func27 (by kernel_rfl) (by kernel_rfl)

open Go.PL
theorem zl_set {l : List Nat} {k v : Nat} : ((zL l).map (Value.int .i64)).set k (.int .i64 ((v : Nat) : Int)) = (zL (l.set k v)).map (Value.int .i64) := by
  unfold zL; rw [List.map_set, List.map_set]
theorem splitG_get {G : Graph} {x k : Nat} (hx : x < G.length) {i : Nat} (hi : i < G.length + 1) : (splitG G x k)[i]! = upd (upd (fun i => G[i]!) x (G[x]!.set k G.length)) G.length [G[x]![k]!] i := by
  by_cases h : i = G.length
  · subst h; rw [splitG_new, upd_same]
  · rw [upd_ne _ _ h, splitG_old (by omega) hx]
    by_cases h2 : i = x
    · subst h2; rw [if_pos rfl, upd_same]
    · rw [if_neg (fun e => h2 e.symm), upd_ne _ _ h2]

theorem split_ok {w0 : World} {v : Value} {G : Graph} (hG : GraphAt w0 v G) (hg : Gd G) {x k : Nat} (hx : x < G.length) (hk : k < G[x]!.length) : Calls Try.prog 26 #[v, .int .i64 (x : Int), .int .i64 (k : Int)] w0 (Ret fun u w' => GraphAt w' u (splitG G x k) ∧ St w0 M0 [] w') := by
  have hS := St.refl w0
  have hle := hg.le
  have hr4 := hg.row x hx
  have hG0 := hG
  obtain ⟨ga, gc, gb, go, rfl, hga, hrow⟩ := hG
  refine V_enter (N := 31) Try.func26 rfl Try.ntmps26 rfl ?_
  refine VC.sub (τ := [(0, _), (1, _), (2, _)]) ⟨rfl, rfl, rfl, trivial⟩ ?_
  refine VC_seq ?_
  refine VC_region ?_
  refine VL_val rfl rfl rfl (yd_assign rfl) ?_
  refine VL_nil ?_
  refine VE_then ?_
  refine VC_seq ?_
  refine VC_region ?_
  refine VL_val rfl rfl rfl (yd_move rfl) ?_
  refine VL_call rfl rfl rfl rfl T.call43 rfl (copy_ok hG0 hg) ?_
  rintro u9 w ⟨rv, hR⟩
  have hS := hS.call0 hR
  obtain ⟨ob, oc, rfl, -⟩ := row_form (hS.get 1 rfl) (.inr (by omega))
  have hS := unbundle hS
  obtain ⟨rb, rc, hrv, -⟩ : ∃ rb rc, rv x = .slice (some ⟨rb, 0, none⟩) G[x]!.length rc ∧ True := by
    have h := hS.get x (gRows_get hx _)
    obtain ⟨nb, nc, h1, -⟩ := row_form (v := rv x) h (.inr (show 0 < G[x]!.length by omega))
    exact ⟨nb, nc, h1, trivial⟩
  have hkx : (gRows G.length rv (fun i => G[i]!) ++ [row (.slice (some ⟨ob, 0, none⟩) G.length oc) 31 1 G.length ((List.range G.length).map rv)])[x]? = some (row (.slice (some ⟨rb, 0, none⟩) G[x]!.length rc) 3 1 G[x]!.length ((zL G[x]!).map (Value.int .i64))) := by rw [gRows_get hx, gRow, hrv]
  refine VL_val rfl rfl rfl (yd_assign rfl) ?_
  refine VL_nil ?_
  refine VE_then ?_
  refine VC_seq ?_
  refine VC_region ?_
  refine VL_val rfl rfl rfl (yd_move rfl) ?_
  refine VL_val rfl rfl rfl (yd_move rfl) ?_
  refine VL_val rfl rfl rfl (yd_index0 rfl rfl Try.underlying22 T.sz31 (by omega)) ?_
  refine VL_val rfl rfl rfl (yd_load rfl T.one31 ((row_cell (hS.get G.length (gRows_behind _ 0)) (u := rv x) (by simp [hx])).trans (by rw [hrv]))) ?_
  refine VL_val rfl rfl rfl (yd_move rfl) ?_
  refine VL_val rfl rfl rfl (yd_index0 rfl rfl Try.underlying31 T.sz3 (by omega)) ?_
  refine VL_val rfl rfl rfl (yd_load rfl T.one3 (zl_cell (hS.get x hkx) (by omega))) ?_
  refine VL_val rfl rfl rfl (yd_assign rfl) ?_
  refine VL_nil ?_
  refine VE_then ?_
  refine VC_seq ?_
  refine VC_region ?_
  refine VL_val rfl rfl rfl (yd_move rfl) ?_
  refine VL_val rfl rfl rfl (yd_move rfl) ?_
  refine VL_val rfl rfl rfl (yd_index0 rfl rfl Try.underlying22 T.sz31 (by omega)) ?_
  refine VL_val rfl rfl rfl (yd_load rfl T.one31 ((row_cell (hS.get G.length (gRows_behind _ 0)) (u := rv x) (by simp [hx])).trans (by rw [hrv]))) ?_
  refine VL_val rfl rfl rfl (yd_move rfl) ?_
  refine VL_val rfl rfl rfl (yd_move rfl) ?_
  refine VL_val rfl rfl rfl (yd_len rfl Try.underlying22) ?_
  refine VL_val rfl rfl rfl (yd_index0 rfl rfl Try.underlying31 T.sz3 (by omega)) ?_
  refine VL_storeR rfl rfl rfl rfl rfl T.one3 rfl hS x hkx (by rw [List.length_map, zL_len]; exact hk) ?_
  clear hS; intro w hS
  rw [zl_set, show row (.slice (some ⟨rb, 0, none⟩) G[x]!.length rc) 3 1 G[x]!.length ((zL (G[x]!.set k G.length)).map (Value.int .i64)) = row (.slice (some ⟨rb, 0, none⟩) G[x]!.length rc) 3 1 (G[x]!.set k G.length).length ((zL (G[x]!.set k G.length)).map (Value.int .i64)) by rw [List.length_set], gRows_set hx] at hS
  have hrv2 : upd rv x (.slice (some ⟨rb, 0, none⟩) G[x]!.length rc) = rv := by
    funext i; by_cases h : i = x
    · subst h; rw [upd_same, hrv]
    · rw [upd_ne _ _ h]
  rw [hrv2] at hS
  refine VL_nil ?_
  refine VE_then ?_
  refine VC_seq ?_
  refine VC_region ?_
  refine VL_val rfl rfl rfl (yd_move rfl) ?_
  refine VL_val rfl rfl rfl (yd_move rfl) ?_
  refine VL_rel rfl rfl rfl (yr_bslice rfl Try.underlying31 T.e3 rfl (by decide) (by decide) hS) ?_
  clear hS; rintro _ w ⟨b28, rfl, hS⟩
  rw [List.append_assoc] at hS
  refine VL_rel rfl rfl rfl (yr_bslice rfl Try.underlying22 T.e31 rfl (by decide) (by decide) hS) ?_
  clear hS; rintro _ w ⟨b29, rfl, hS⟩
  rw [List.append_assoc] at hS
  refine VL_rel rfl rfl rfl (yr_append rfl rfl Try.underlying22 T.e31 rfl (by decide) hS (G.length + 0) (gRows_behind _ 0) (hS.get (G.length + 2) (gRows_behind _ 2)) rfl (by intro u hu; simp [Value.cells] at hu; subst hu; rfl) (by omega) (by omega)) ?_
  clear hS; rintro v30 w ⟨hS, -⟩
  refine VL_val rfl rfl rfl (yd_assign rfl) ?_
  refine VL_nil ?_
  refine VE_then ?_
  refine VC_ret ?_
  refine VE_ret1 (rfl) rfl ?_
  have hb := hS.get (G.length + 0) (List.getElem?_set_self (by simp [gRows_len]))
  obtain ⟨nb, nc, rfl, -⟩ := row_form hb (.inr (by omega))
  have hS2 := hS
  rw [List.set_append_right _ _ (by simp [gRows_len]), gRows_len, Nat.add_sub_cancel_left] at hS2
  have hS3 := hS2.asrow (G.length + 1) (m := 1) (sz := 1) (gRows_behind _ 1) rfl (by omega)
  have h28 := hS3.get (G.length + 1) (List.getElem?_set_self (by simp [gRows_len]))
  refine ⟨graph_of_g (rv := upd rv G.length (.slice (some ⟨b28, 0, none⟩) 1 1)) splitG_len (fun i hi => splitG_get hx hi) (fun i hi => ?_) (by rw [rv_snoc]; exact hb), hS.sub (List.nil_sublist _)⟩
  by_cases h : i = G.length
  · subst h; unfold gRow; rw [upd_same, upd_same]; exact h28
  · unfold gRow; rw [upd_ne _ _ h, upd_ne _ _ h]; exact hS2.get i (gRows_get (by omega) _)

theorem fnSplit_calls {w0 : World} {v : Value} {G0 : List (List Int)} {x k : Int} (hR : RowsAt w0 v G0) : Calls Try.prog 4 #[v, .int .i64 x, .int .i64 k] w0 (Ret fun u w' => u = .bool true ∧ RowKit.Below w0.heap.size w0 w') := by
  have hS := St.refl w0
  refine V_enter (N := 86) Try.func4 rfl Try.ntmps4 rfl ?_
  refine VC.sub (τ := [(0, _), (1, _), (2, _)]) ⟨rfl, rfl, rfl, trivial⟩ ?_
  refine VC_seq ?_
  refine VC_region ?_
  refine VL_val rfl rfl rfl (yd_assign rfl) ?_
  refine VL_nil ?_
  refine VE_then ?_
  refine VC_seq ?_
  refine VC_seq ?_
  refine VC_region ?_
  refine VL_val rfl rfl rfl (yd_move rfl) ?_
  refine VL_call rfl rfl rfl rfl T.call15 rfl (zzFits1_ok (hS.rows hR)) ?_
  rintro _ _ ⟨rfl, bz, rfl, hz⟩
  refine VL_val rfl rfl rfl (yd_not rfl) ?_
  refine VL_nil ?_
  refine VE_then ?_
  refine VC_cond rfl (fun h14 => ?_) (fun h14 => ?_)
  · replace h14 := V.nt h14
    refine VC_seq ?_
    refine VC_region ?_
    refine VL_val rfl rfl rfl (yd_assign rfl) ?_
    refine VL_nil ?_
    refine VE_then ?_
    refine VC_ret ?_
    refine VE_then_ret (?_)
    refine VE_ret1 (rfl) rfl ?_
    exact ⟨rfl, hS.below⟩
  · replace h14 := V.nf h14
    have hzt := h14
    refine VC_skip ?_
    refine VE_then ?_
    refine VC_seq ?_
    refine VC_seq ?_
    refine VC_region ?_
    refine VL_val rfl rfl rfl (yd_move rfl) ?_
    refine VL_call rfl rfl rfl rfl T.call22 rfl (good_ok (hS.rows hR) (hz hzt)) ?_
    rintro _ _ ⟨rfl, bg, rfl, hgi⟩
    refine VL_val rfl rfl rfl (yd_not rfl) ?_
    refine VL_val rfl rfl rfl (yd_move rfl) ?_
    refine VL_split 18 rfl (fun h18 => ?_) (fun h18 => ?_)
    · replace h18 := V.nt h18
      refine VL_no rfl rfl rfl rfl rfl rfl rfl ?_
      refine VL_no rfl rfl rfl rfl rfl rfl rfl ?_
      refine VL_no rfl rfl rfl rfl rfl rfl rfl ?_
      refine VL_no rfl rfl rfl rfl rfl rfl rfl ?_
      refine VL_val rfl rfl rfl (yd_pick_t rfl rfl) ?_
      refine VL_val rfl rfl rfl (yd_move rfl) ?_
      refine VL_no rfl rfl rfl rfl rfl rfl rfl ?_
      refine VL_no rfl rfl rfl rfl rfl rfl rfl ?_
      refine VL_val rfl rfl rfl (yd_pick_t rfl rfl) ?_
      refine VL_val rfl rfl rfl (yd_move rfl) ?_
      refine VL_no rfl rfl rfl rfl rfl rfl rfl ?_
      refine VL_no rfl rfl rfl rfl rfl rfl rfl ?_
      refine VL_no rfl rfl rfl rfl rfl rfl rfl ?_
      refine VL_no rfl rfl rfl rfl rfl rfl rfl ?_
      refine VL_no rfl rfl rfl rfl rfl rfl rfl ?_
      refine VL_no rfl rfl rfl rfl rfl rfl rfl ?_
      refine VL_no rfl rfl rfl rfl rfl rfl rfl ?_
      refine VL_val rfl rfl rfl (yd_pick_t rfl rfl) ?_
      refine VL_nil ?_
      refine VE_then ?_
      refine VC_cond_t rfl ?_
      refine VC_seq ?_
      refine VC_region ?_
      refine VL_val rfl rfl rfl (yd_assign rfl) ?_
      refine VL_nil ?_
      refine VE_then ?_
      refine VC_ret ?_
      refine VE_then_ret (?_)
      refine VE_ret1 (rfl) rfl ?_
      exact ⟨rfl, hS.below⟩
    · replace h18 := V.nf h18
      have hgt := h18
      obtain ⟨G, hG, hg, hGl⟩ := graph_of_rows hR (hgi.1 hgt)
      have hg12 : G.length ≤ 12 := by have := (hgi.1 hgt).2.1; omega
      have hle := hg.le
      have hpos := hg.pos
      have hG0 := hG
      obtain ⟨ga, gc, gb, go, rfl, hga, hrow⟩ := hG
      obtain rfl := hga (by omega)
      refine VL_yes rfl rfl rfl rfl ?_
      refine VL_val rfl rfl rfl (yd_move rfl) ?_
      refine VL_yes rfl rfl rfl rfl ?_
      refine VL_val rfl rfl rfl (yd_move rfl) ?_
      refine VL_yes rfl rfl rfl rfl ?_
      refine VL_call rfl rfl rfl rfl T.call23 rfl (block_ok (hS.graph hG0)) ?_
      rintro _ _ ⟨rfl, bx, rfl, hbx⟩
      refine VL_yes rfl rfl rfl rfl ?_
      refine VL_val rfl rfl rfl (yd_not rfl) ?_
      refine VL_val rfl rfl rfl (yd_pick_f rfl rfl) ?_
      refine VL_val rfl rfl rfl (yd_move rfl) ?_
      refine VL_split 24 rfl (fun h24 => ?_) (fun h24 => ?_)
      · replace h24 := V.nt h24
        refine VL_no rfl rfl rfl rfl rfl rfl rfl ?_
        refine VL_no rfl rfl rfl rfl rfl rfl rfl ?_
        refine VL_val rfl rfl rfl (yd_pick_t rfl rfl) ?_
        refine VL_val rfl rfl rfl (yd_move rfl) ?_
        refine VL_no rfl rfl rfl rfl rfl rfl rfl ?_
        refine VL_no rfl rfl rfl rfl rfl rfl rfl ?_
        refine VL_no rfl rfl rfl rfl rfl rfl rfl ?_
        refine VL_no rfl rfl rfl rfl rfl rfl rfl ?_
        refine VL_no rfl rfl rfl rfl rfl rfl rfl ?_
        refine VL_no rfl rfl rfl rfl rfl rfl rfl ?_
        refine VL_no rfl rfl rfl rfl rfl rfl rfl ?_
        refine VL_val rfl rfl rfl (yd_pick_t rfl rfl) ?_
        refine VL_nil ?_
        refine VE_then ?_
        refine VC_cond_t rfl ?_
        refine VC_seq ?_
        refine VC_region ?_
        refine VL_val rfl rfl rfl (yd_assign rfl) ?_
        refine VL_nil ?_
        refine VE_then ?_
        refine VC_ret ?_
        refine VE_then_ret (?_)
        refine VE_ret1 (rfl) rfl ?_
        exact ⟨rfl, hS.below⟩
      · replace h24 := V.nf h24
        have hx := hbx.1 h24
        obtain ⟨xn, rfl⟩ : ∃ xn : Nat, x = xn := ⟨x.toNat, by omega⟩
        have hxn : xn < G.length := by omega
        obtain ⟨ra, rc, rb, ro, hc, hra, hcs⟩ := hrow xn hxn
        refine VL_yes rfl rfl rfl rfl ?_
        refine VL_val rfl rfl rfl (yd_move rfl) ?_
        refine VL_yes rfl rfl rfl rfl ?_
        refine VL_val rfl rfl rfl (yd_lss rfl rfl) ?_
        refine VL_val rfl rfl rfl (yd_pick_f rfl rfl) ?_
        refine VL_val rfl rfl rfl (yd_move rfl) ?_
        refine VL_split 28 rfl (fun h28 => ?_) (fun h28 => ?_)
        · replace h28 := of_decide_eq_true h28
          refine VL_no rfl rfl rfl rfl rfl rfl rfl ?_
          refine VL_no rfl rfl rfl rfl rfl rfl rfl ?_
          refine VL_no rfl rfl rfl rfl rfl rfl rfl ?_
          refine VL_no rfl rfl rfl rfl rfl rfl rfl ?_
          refine VL_no rfl rfl rfl rfl rfl rfl rfl ?_
          refine VL_no rfl rfl rfl rfl rfl rfl rfl ?_
          refine VL_no rfl rfl rfl rfl rfl rfl rfl ?_
          refine VL_val rfl rfl rfl (yd_pick_t rfl rfl) ?_
          refine VL_nil ?_
          refine VE_then ?_
          refine VC_cond_t rfl ?_
          refine VC_seq ?_
          refine VC_region ?_
          refine VL_val rfl rfl rfl (yd_assign rfl) ?_
          refine VL_nil ?_
          refine VE_then ?_
          refine VC_ret ?_
          refine VE_then_ret (?_)
          refine VE_ret1 (rfl) rfl ?_
          exact ⟨rfl, hS.below⟩
        · replace h28 := Int.not_lt.1 (of_decide_eq_false h28)
          obtain ⟨kn, rfl⟩ : ∃ kn : Nat, k = kn := ⟨k.toNat, by omega⟩
          refine VL_yes rfl rfl rfl rfl ?_
          refine VL_val rfl rfl rfl (yd_move rfl) ?_
          refine VL_yes rfl rfl rfl rfl ?_
          refine VL_val rfl rfl rfl (yd_move rfl) ?_
          refine VL_yes rfl rfl rfl rfl ?_
          refine VL_val rfl rfl rfl (yd_move rfl) ?_
          refine VL_yes rfl rfl rfl rfl ?_
          refine VL_val rfl rfl rfl (yd_index1 rfl rfl Try.underlying22 T.sz31 (by omega)) ?_
          refine VL_yes rfl rfl rfl rfl ?_
          refine VL_val rfl rfl rfl (yd_load rfl T.one31 (hS.cell0 hc)) ?_
          refine VL_yes rfl rfl rfl rfl ?_
          refine VL_val rfl rfl rfl (yd_len rfl Try.underlying31) ?_
          refine VL_yes rfl rfl rfl rfl ?_
          refine VL_val rfl rfl rfl (yd_geq rfl rfl) ?_
          refine VL_val rfl rfl rfl (yd_pick_f rfl rfl) ?_
          refine VL_nil ?_
          refine VE_then ?_
          refine VC_cond rfl (fun h36 => ?_) (fun h36 => ?_)
          · replace h36 := of_decide_eq_true h36
            refine VC_seq ?_
            refine VC_region ?_
            refine VL_val rfl rfl rfl (yd_assign rfl) ?_
            refine VL_nil ?_
            refine VE_then ?_
            refine VC_ret ?_
            refine VE_then_ret (?_)
            refine VE_ret1 (rfl) rfl ?_
            exact ⟨rfl, hS.below⟩
          · replace h36 := Int.not_le.1 (of_decide_eq_false h36)
            have hkn : kn < G[xn]!.length := by omega
            have hg2 := gd_split hg hg12 hxn hkn
            have hl2 : (splitG G xn kn).length = G.length + 1 := splitG_len
            refine VC_skip ?_
            refine VE_then ?_
            refine VC_seq ?_
            refine VC_region ?_
            refine VL_val rfl rfl rfl (yd_move rfl) ?_
            refine VL_call rfl rfl rfl rfl T.call24 rfl (reach_ok (hS.graph hG0) hg hpos) ?_
            rintro _ w ⟨lb, R, rfl, hR2, hIR⟩
            have hS := hS.call0 hR2
            have hRl := hIR.1
            refine VL_val rfl rfl rfl (yd_assign rfl) ?_
            refine VL_nil ?_
            refine VE_then ?_
            refine VC_seq ?_
            refine VC_region ?_
            refine VL_val rfl rfl rfl (yd_move rfl) ?_
            refine VL_call rfl rfl rfl rfl T.call25 rfl (implDominators_ok (hS.graph hG0) hg) ?_
            rintro uL w ⟨L, hid, hR1⟩
            have hS := hS.call0 hR1
            have hidl := hid.len
            obtain ⟨ib, ic, rfl, -⟩ := row_form (hS.get 1 rfl) (.inr (by omega))
            refine VL_val rfl rfl rfl (yd_move rfl) ?_
            refine VL_val rfl rfl rfl (yd_move rfl) ?_
            refine VL_val rfl rfl rfl (yd_move rfl) ?_
            refine VL_call rfl rfl rfl rfl T.call26 rfl (split_ok (hS.graph hG0) hg hxn hkn) ?_
            rintro u44 w ⟨hG2, hR3⟩
            have hS := hS.call0 hR3
            refine VL_call rfl rfl rfl rfl T.call25 rfl (implDominators_ok hG2 hg2) ?_
            rintro uL2 w ⟨L2, hid2, hR5⟩
            have hS := hS.call0 hR5
            have hid2l := hid2.len
            obtain ⟨jb, jc, rfl, -⟩ := row_form (hS.get 2 rfl) (.inr (by omega))
            refine VL_val rfl rfl rfl (yd_assign rfl) ?_
            refine VL_val rfl rfl rfl (yd_assign rfl) ?_
            refine VL_nil ?_
            refine VE_then ?_
            refine VC_seq ?_
            refine VC_seq ?_
            refine VC_region ?_
            refine VL_val rfl rfl rfl (yd_move rfl) ?_
            refine VL_val rfl rfl rfl (yd_len rfl Try.underlying31) ?_
            refine VL_val rfl rfl rfl (yd_move rfl) ?_
            refine VL_val rfl rfl rfl (yd_len rfl Try.underlying22) ?_
            refine VL_val rfl rfl rfl (yd_neq rfl rfl) ?_
            refine VL_val rfl rfl rfl (yd_move rfl) ?_
            refine VL_split 51 rfl (fun h51 => ?_) (fun h51 => ?_)
            · replace h51 := of_decide_eq_true h51
              exact absurd (by omega) h51
            · replace h51 := Decidable.not_not.1 (of_decide_eq_false h51)
              refine VL_yes rfl rfl rfl rfl ?_
              refine VL_val rfl rfl rfl (yd_move rfl) ?_
              refine VL_yes rfl rfl rfl rfl ?_
              refine VL_val rfl rfl rfl (yd_len rfl Try.underlying31) ?_
              refine VL_yes rfl rfl rfl rfl ?_
              refine VL_val rfl rfl rfl (yd_move rfl) ?_
              refine VL_yes rfl rfl rfl rfl ?_
              refine VL_val rfl rfl rfl (yd_len rfl Try.underlying22) ?_
              refine VL_yes rfl rfl rfl rfl ?_
              refine VL_val rfl rfl rfl (yd_add rfl rfl ((G.length + 1 : Nat) : Int) (by rw [wi64 (by omega) (by omega)]; omega)) ?_
              refine VL_yes rfl rfl rfl rfl ?_
              refine VL_val rfl rfl rfl (yd_neq rfl rfl) ?_
              refine VL_val rfl rfl rfl (yd_pick_f rfl rfl) ?_
              refine VL_nil ?_
              refine VE_then ?_
              refine VC_cond rfl (fun h58 => ?_) (fun h58 => ?_)
              · replace h58 := of_decide_eq_true h58
                exact absurd (by omega) h58
              · replace h58 := Decidable.not_not.1 (of_decide_eq_false h58)
                refine VC_skip ?_
                refine VE_then ?_
                refine VC_seq ?_
                refine VC_seq ?_
                refine VC_region ?_
                refine VL_val rfl rfl rfl (yd_move rfl) ?_
                refine VL_val rfl rfl rfl (yd_len rfl Try.underlying22) ?_
                refine VL_val rfl rfl rfl (yd_move rfl) ?_
                refine VL_nil ?_
                refine VE_then ?_
                refine VC_block ?_
                refine VC_loop1 [0, 7, 8, 9, 60] [_, _, _, _, _] rfl (fun (a : Nat) => [(61, .int .i64 ((a : Nat) : Int))]) (fun (a : Nat) w => a ≤ G.length ∧ St w0 M0 [blk lb 4 (R.map Value.bool), row (.slice (some ⟨ib, 0, none⟩) L.length ic) 3 1 L.length ((L.map nO).map (Value.int .i64)), row (.slice (some ⟨jb, 0, none⟩) L2.length jc) 3 1 L2.length ((L2.map nO).map (Value.int .i64))] w) (fun (a : Nat) => G.length - a) 0 ⟨rfl, trivial⟩ (⟨Nat.zero_le _, hS⟩) ?_
                clear hS; rintro a w ⟨ha, hS⟩
                refine VC_seq ?_
                refine VC_region ?_
                refine VL_val rfl rfl rfl (yd_lss rfl rfl) ?_
                refine VL_nil ?_
                refine VE_then ?_
                refine VC_seq ?_
                refine VC_cond rfl (fun h62 => ?_) (fun h62 => ?_)
                · replace h62 := of_decide_eq_true h62
                  refine VC_skip ?_
                  refine VE_then ?_
                  refine VC_seq ?_
                  refine VC_block ?_
                  refine VC_seq ?_
                  refine VC_region ?_
                  refine VL_val rfl rfl rfl (yd_move rfl) ?_
                  refine VL_val rfl rfl rfl (yd_assign rfl) ?_
                  refine VL_nil ?_
                  refine VE_then ?_
                  refine VC_seq ?_
                  refine VC_region ?_
                  refine VL_val rfl rfl rfl (yd_move rfl) ?_
                  refine VL_val rfl rfl rfl (yd_len rfl Try.underlying22) ?_
                  refine VL_val rfl rfl rfl (yd_move rfl) ?_
                  refine VL_nil ?_
                  refine VE_then ?_
                  refine VC_block ?_
                  refine VC_loop1 [0, 7, 8, 9, 10, 60, 61, 62, 63, 64, 65] [_, _, _, _, _, _, _, _, _, _, _] rfl (fun (b : Nat) => [(66, .int .i64 ((b : Nat) : Int))]) (fun (b : Nat) w => b ≤ G.length ∧ St w0 M0 [blk lb 4 (R.map Value.bool), row (.slice (some ⟨ib, 0, none⟩) L.length ic) 3 1 L.length ((L.map nO).map (Value.int .i64)), row (.slice (some ⟨jb, 0, none⟩) L2.length jc) 3 1 L2.length ((L2.map nO).map (Value.int .i64))] w) (fun (b : Nat) => G.length - b) 0 ⟨rfl, trivial⟩ (⟨Nat.zero_le _, hS⟩) ?_
                  clear hS; rintro b w ⟨hb, hS⟩
                  refine VC_seq ?_
                  refine VC_region ?_
                  refine VL_val rfl rfl rfl (yd_lss rfl rfl) ?_
                  refine VL_nil ?_
                  refine VE_then ?_
                  refine VC_seq ?_
                  refine VC_cond rfl (fun h67 => ?_) (fun h67 => ?_)
                  · replace h67 := of_decide_eq_true h67
                    refine VC_skip ?_
                    refine VE_then ?_
                    refine VC_seq ?_
                    refine VC_block ?_
                    refine VC_seq ?_
                    refine VC_region ?_
                    refine VL_val rfl rfl rfl (yd_move rfl) ?_
                    refine VL_val rfl rfl rfl (yd_assign rfl) ?_
                    refine VL_nil ?_
                    refine VE_then ?_
                    refine VC_seq ?_
                    refine VC_region ?_
                    refine VL_val rfl rfl rfl (yd_move rfl) ?_
                    refine VL_val rfl rfl rfl (yd_move rfl) ?_
                    refine VL_val rfl rfl rfl (yd_index0 rfl rfl Try.underlying24 T.sz4 (by omega)) ?_
                    refine VL_val rfl rfl rfl (yd_load rfl T.one4 (blk_cellM (hS.get 0 rfl) (by omega))) ?_
                    refine VL_val rfl rfl rfl (yd_move rfl) ?_
                    refine VL_split 73 rfl (fun h73 => ?_) (fun h73 => ?_)
                    · skip
                      have hlb := ((hIR.2 b (by omega)).1 h73).2
                      refine VL_yes rfl rfl rfl rfl ?_
                      refine VL_val rfl rfl rfl (yd_move rfl) ?_
                      refine VL_yes rfl rfl rfl rfl ?_
                      refine VL_val rfl rfl rfl (yd_move rfl) ?_
                      refine VL_yes rfl rfl rfl rfl ?_
                      refine VL_val rfl rfl rfl (yd_move rfl) ?_
                      refine VL_yes rfl rfl rfl rfl ?_
                      refine VL_call rfl rfl rfl rfl T.call27 rfl (above_ok (got_ints (hS.get 1 rfl)) (by simp; omega)) ?_
                      rintro _ _ ⟨rfl, rfl⟩
                      refine VL_yes rfl rfl rfl rfl ?_
                      refine VL_val rfl rfl rfl (yd_move rfl) ?_
                      refine VL_yes rfl rfl rfl rfl ?_
                      refine VL_val rfl rfl rfl (yd_move rfl) ?_
                      refine VL_yes rfl rfl rfl rfl ?_
                      refine VL_val rfl rfl rfl (yd_move rfl) ?_
                      refine VL_yes rfl rfl rfl rfl ?_
                      refine VL_call rfl rfl rfl rfl T.call27 rfl (above_ok (got_ints (hS.get 2 rfl)) (by simp; omega)) ?_
                      rintro _ _ ⟨rfl, rfl⟩
                      refine VL_yes rfl rfl rfl rfl ?_
                      refine VL_val rfl rfl rfl (yd_neqb rfl rfl Try.underlying4) ?_
                      refine VL_val rfl rfl rfl (yd_pick_t rfl rfl) ?_
                      refine VL_nil ?_
                      refine VE_then ?_
                      refine VC_cond rfl (fun h83 => ?_) (fun h83 => ?_)
                      · replace h83 := of_decide_eq_true h83
                        refine absurd ?_ h83
                        rw [Bool.eq_iff_iff, abv_dm hg hid hlb, abv_dm hg2 hid2 (rc_split hg hxn hkn hlb)]
                        exact dm_split hg hxn hkn (by omega) hlb
                      · replace h83 := Decidable.not_not.1 (of_decide_eq_false h83)
                        refine VC_skip ?_
                        refine VE_block_normal ?_
                        refine VE_then ?_
                        refine VC_region ?_
                        refine VL_val rfl rfl rfl (yd_add rfl rfl ((b + 1 : Nat) : Int) (by rw [wi64 (by omega) (by omega)]; omega)) ?_
                        refine VL_val rfl rfl rfl (yd_move rfl) ?_
                        refine VL_nil ?_
                        exact VE_round1 (b + 1) ⟨rfl, rfl, rfl, rfl, rfl, rfl, rfl, rfl, rfl, rfl, rfl, rfl, trivial⟩ ⟨by omega, hS⟩ (by omega)
                    · skip
                      refine VL_no rfl rfl rfl rfl rfl rfl rfl ?_
                      refine VL_no rfl rfl rfl rfl rfl rfl rfl ?_
                      refine VL_no rfl rfl rfl rfl rfl rfl rfl ?_
                      refine VL_no rfl rfl rfl rfl rfl rfl rfl ?_
                      refine VL_no rfl rfl rfl rfl rfl rfl rfl ?_
                      refine VL_no rfl rfl rfl rfl rfl rfl rfl ?_
                      refine VL_no rfl rfl rfl rfl rfl rfl rfl ?_
                      refine VL_no rfl rfl rfl rfl rfl rfl rfl ?_
                      refine VL_no rfl rfl rfl rfl rfl rfl rfl ?_
                      refine VL_val rfl rfl rfl (yd_pick_f rfl rfl) ?_
                      refine VL_nil ?_
                      refine VE_then ?_
                      refine VC_cond_f rfl ?_
                      refine VC_skip ?_
                      refine VE_block_normal ?_
                      refine VE_then ?_
                      refine VC_region ?_
                      refine VL_val rfl rfl rfl (yd_add rfl rfl ((b + 1 : Nat) : Int) (by rw [wi64 (by omega) (by omega)]; omega)) ?_
                      refine VL_val rfl rfl rfl (yd_move rfl) ?_
                      refine VL_nil ?_
                      exact VE_round1 (b + 1) ⟨rfl, rfl, rfl, rfl, rfl, rfl, rfl, rfl, rfl, rfl, rfl, rfl, trivial⟩ ⟨by omega, hS⟩ (by omega)
                  · replace h67 := Int.not_lt.1 (of_decide_eq_false h67)
                    refine VC_exit ?_
                    refine VE_then_exit (VE_then_exit (VE_block_exit ?_))
                    refine VE_block_normal ?_
                    refine VE_then ?_
                    refine VC_region ?_
                    refine VL_val rfl rfl rfl (yd_add rfl rfl ((a + 1 : Nat) : Int) (by rw [wi64 (by omega) (by omega)]; omega)) ?_
                    refine VL_val rfl rfl rfl (yd_move rfl) ?_
                    refine VL_nil ?_
                    exact VE_round1 (a + 1) ⟨rfl, rfl, rfl, rfl, rfl, rfl, trivial⟩ ⟨by omega, hS⟩ (by omega)
                · replace h62 := Int.not_lt.1 (of_decide_eq_false h62)
                  refine VC_exit ?_
                  refine VE_then_exit (VE_then_exit (VE_block_exit ?_))
                  refine VE_then ?_
                  refine VC_seq ?_
                  refine VC_region ?_
                  refine VL_val rfl rfl rfl (yd_assign rfl) ?_
                  refine VL_nil ?_
                  refine VE_then ?_
                  refine VC_ret ?_
                  refine VE_ret1 (rfl) rfl ?_
                  exact ⟨rfl, hS.below⟩

end Go.Proofs.Ytmoooaaiohplhab
