/- postorder, Postorder, PostorderNumbers, impl.Postorder, impl.PostorderNumbers. -/
import Derived.Test.YtmoooaaiohplhaaWe
namespace Go.Proofs.Ytmoooaaiohplhaa
open Go Go.V
set_option linter.unusedVariables false
set_option maxRecDepth 100000

theorem T.e21 : ElemT Try.prog 21 1 4 (.int .i32 0) := ElemT.of (by kernel_rfl)
theorem T.call39 : CallT Try.prog 39 := CallT.of Try.func39 (by kernel_rfl) (by kernel_rfl)
theorem T.call40 : CallT Try.prog 40 := CallT.of Try.func40 (by kernel_rfl) (by kernel_rfl)
theorem T.call50 : CallT Try.prog 50 := CallT.of Try.func50 (by kernel_rfl) (by kernel_rfl)
theorem T.call51 : CallT Try.prog 51 := CallT.of Try.func51 (by kernel_rfl) (by kernel_rfl)
theorem T.call52 : CallT Try.prog 52 := CallT.of Try.func52 (by kernel_rfl) (by kernel_rfl)
theorem T.call54 : CallT Try.prog 54 := CallT.of Try.func54 (by kernel_rfl) (by kernel_rfl)

open Go.PL
def zL (l : List Nat) : List Int := l.map (fun k : Nat => (k : Int))
theorem zL_len (l : List Nat) : (zL l).length = l.length := by simp [zL]
theorem zL_get {l : List Nat} {i : Nat} (h : i < l.length) : (zL l)[i]! = ((l[i]! : Nat) : Int) := by simp [zL, h]
/-- Pointers to blocks, read off a row of ours. -/
theorem ptrs_of_row {w : World} {f : FRep} {v : Value} {e : TypeId} {l : List Nat} (h : (row v e 1 l.length (ordV f l)).holds w) : PtrsAt w v f (l.map some) := by
  obtain ⟨a, c, b, e1, h2, h3, _⟩ := row_reads h
  refine ⟨a, c, b, 0, by simpa using e1, by simpa using h2, fun j hj => ?_⟩
  have hj' : j < l.length := by simpa using hj
  rw [Nat.zero_add, h3 j hj']
  simp [hj', pO]
theorem nO_some (l : List Nat) : (l.map some).map nO = zL l := by simp [zL, nO, Function.comp_def]
theorem isPlaces_unique {l : List Nat} {n : Nat} {A B : List Int} (hnd : ∀ i j, i < j → j < l.length → l[i]! ≠ l[j]!) (hA : IsPlaces l n A) (hB : IsPlaces l n B) : A = B := by
  refine List.ext_getElem (by rw [hA.1, hB.1]) fun x h1 h2 => ?_
  rw [← getElem!_pos A x h1, ← getElem!_pos B x h2]
  have hx : x < n := by rw [← hA.1]; exact h1
  have key : ∀ i j, i < l.length → j < l.length → l[i]! = x → l[j]! = x → i = j := by
    intro i j hi hj e1 e2
    rcases Nat.lt_trichotomy i j with h | h | h
    · exact absurd (e1.trans e2.symm) (hnd i j h hj)
    · exact h
    · exact absurd (e2.trans e1.symm) (hnd j i h hi)
  rcases hA.2 x hx with ⟨a1, a2⟩ | ⟨i, a1, a2, a3⟩
  · rcases hB.2 x hx with ⟨b1, b2⟩ | ⟨j, b1, b2, b3⟩
    · rw [a1, b1]
    · exact absurd (by rw [← b2, getElem!_pos l j b1]; exact List.getElem_mem b1) a2
  · rcases hB.2 x hx with ⟨b1, b2⟩ | ⟨j, b1, b2, b3⟩
    · exact absurd (by rw [← a2, getElem!_pos l i a1]; exact List.getElem_mem a1) b2
    · rw [a3, b3, key i j a1 b1 a2 b2]
theorem postL_le {G : Graph} (hg : Gd G) : (postL G).length ≤ 13 := Nat.le_trans (nodup_len _ (postL_ok hg).nd (postL_ok hg).lt) hg.le
theorem postL_pos {G : Graph} (hg : Gd G) : 0 < (postL G).length := by obtain ⟨l, h⟩ := (postL_ok hg).last; rw [h]; simp
theorem postL_lt {G : Graph} (hg : Gd G) {i : Nat} (hi : i < (postL G).length) : (postL G)[i]! < G.length := (postL_ok hg).lt _ (by rw [getElem!_pos (postL G) i hi]; exact List.getElem_mem hi)
theorem pn_places {G : Graph} {l : List Nat} {pn : List Int} (h : PnOK G l pn) : IsPlaces l G.length (pn.drop 1) := by
  refine ⟨by simp [h.1], fun x hx => ?_⟩
  have e : (pn.drop 1)[x]! = pn[x + 1]! := by
    have h1 : x + 1 < pn.length := by rw [h.1]; omega
    have h2 : x < (pn.drop 1).length := by simp; omega
    rw [getElem!_pos (pn.drop 1) x h2, getElem!_pos pn (x + 1) h1, List.getElem_drop]; congr 1; omega
  rw [e]
  rcases h.2 x hx with ⟨h1, h2⟩ | h1
  · exact .inl ⟨h2, h1⟩
  · exact .inr h1

theorem postorder_ok {w0 : World} {f : FRep} {G : Graph} (hF : (funcR f G).holds w0) (hg : Gd G) : Calls Try.prog 51 #[ptr f.bf] w0 (Ret fun u w' => ∃ b c, u = .slice (some ⟨b, 0, none⟩) (postL G).length c ∧ St w0 M0 [row u 89 1 (postL G).length (ordV f (postL G))] w') := by
  refine V_enter (N := 5) Try.func51 rfl Try.ntmps51 rfl ?_
  refine VC.sub (τ := [(0, _)]) ⟨rfl, trivial⟩ ?_
  refine VC_seq ?_
  refine VC_region ?_
  refine VL_val rfl rfl rfl (yd_assign rfl) ?_
  refine VL_nil ?_
  refine VE_then ?_
  refine VC_seq ?_
  refine VC_region ?_
  refine VL_val rfl rfl rfl (yd_move rfl) ?_
  refine VL_call rfl rfl rfl rfl T.call54 rfl (post_nil hF hg) ?_
  rintro _ w ⟨b, c, rfl, hS⟩
  refine VL_val rfl rfl rfl (yd_assign rfl) ?_
  refine VL_nil ?_
  refine VE_then ?_
  refine VC_ret ?_
  refine VE_ret1 (rfl) rfl ?_
  exact ⟨_, _, rfl, hS⟩

theorem Postorder_ok {w0 : World} {v : Value} {G : Graph} (hG : GraphAt w0 v G) (hg : Gd G) : Calls Try.prog 39 #[v] w0 (Ret fun u w' => St w0 M0 [row u 3 1 (postL G).length ((zL (postL G)).map (Value.int .i64))] w') := by
  have hS := St.refl w0
  have hpl := postL_le hg
  refine V_enter (N := 7) Try.func39 rfl Try.ntmps39 rfl ?_
  refine VC.sub (τ := [(0, _)]) ⟨rfl, trivial⟩ ?_
  refine VC_seq ?_
  refine VC_region ?_
  refine VL_val rfl rfl rfl (yd_assign rfl) ?_
  refine VL_nil ?_
  refine VE_then ?_
  refine VC_seq ?_
  refine VC_region ?_
  refine VL_val rfl rfl rfl (yd_move rfl) ?_
  refine VL_call rfl rfl rfl rfl T.call52 rfl (newFunc_ok hG hg) ?_
  rintro _ w ⟨f, rfl, hP, hR⟩
  have hS := hS.call0 hR
  refine VL_call rfl rfl rfl rfl T.call51 rfl (postorder_ok (hS.get 0 rfl) hg) ?_
  rintro _ w ⟨b, c, rfl, hR⟩
  have hS := hS.call0 hR
  refine VL_call rfl rfl rfl rfl T.call50 rfl (numbers_ok (hS.get 0 rfl) hg (ptrs_of_row (hS.get 1 rfl)) (by simp; omega) (fun j hj i hi => by simp at hj; have := postL_lt hg hj; simp [hj] at hi this; omega)) ?_
  rintro u w hR
  have hS := hS.call0 hR
  refine VL_val rfl rfl rfl (yd_assign rfl) ?_
  refine VL_nil ?_
  refine VE_then ?_
  refine VC_ret ?_
  refine VE_ret1 (rfl) rfl ?_
  have hS := hS.sub (η' := [_]) (List.Sublist.cons _ (List.Sublist.cons _ (List.Sublist.cons_cons _ (List.nil_sublist _))))
  rw [nO_some, List.length_map] at hS
  exact hS

theorem implPostorder_ok {w0 : World} {v : Value} {G : Graph} (hG : GraphAt w0 v G) (hg : Gd G) : Calls Try.prog 17 #[v] w0 (Ret fun u w' => St w0 M0 [row u 3 1 (postL G).length ((zL (postL G)).map (Value.int .i64))] w') := by
  refine V_enter (N := 5) Try.func17 rfl Try.ntmps17 rfl ?_
  refine VC.sub (τ := [(0, _)]) ⟨rfl, trivial⟩ ?_
  refine VC_seq ?_
  refine VC_region ?_
  refine VL_val rfl rfl rfl (yd_assign rfl) ?_
  refine VL_nil ?_
  refine VE_then ?_
  refine VC_seq ?_
  refine VC_region ?_
  refine VL_val rfl rfl rfl (yd_move rfl) ?_
  refine VL_call rfl rfl rfl rfl T.call39 rfl (Postorder_ok hG hg) ?_
  rintro u w hS
  refine VL_val rfl rfl rfl (yd_assign rfl) ?_
  refine VL_nil ?_
  refine VE_then ?_
  refine VC_ret ?_
  refine VE_ret1 (rfl) rfl ?_
  exact hS

theorem PostorderNumbers_ok {w0 : World} {v : Value} {G : Graph} (hG : GraphAt w0 v G) (hg : Gd G) : Calls Try.prog 40 #[v] w0 (Ret fun u w' => ∃ A, IsPlaces (postL G) G.length A ∧ St w0 M0 [row u 3 1 A.length (A.map (Value.int .i64))] w') := by
  have hS := St.refl w0
  have hle := hg.le
  have hpos := hg.pos
  refine V_enter (N := 40) Try.func40 rfl Try.ntmps40 rfl ?_
  refine VC.sub (τ := [(0, _)]) ⟨rfl, trivial⟩ ?_
  refine VC_seq ?_
  refine VC_region ?_
  refine VL_val rfl rfl rfl (yd_assign rfl) ?_
  refine VL_nil ?_
  refine VE_then ?_
  refine VC_seq ?_
  refine VC_region ?_
  refine VL_val rfl rfl rfl (yd_move rfl) ?_
  refine VL_call rfl rfl rfl rfl T.call52 rfl (newFunc_ok hG hg) ?_
  rintro _ w ⟨f, rfl, hP, hR⟩
  have hS := hS.call0 hR
  refine VL_val rfl rfl rfl (yd_assign rfl) ?_
  refine VL_nil ?_
  refine VE_then ?_
  refine VC_seq ?_
  refine VC_region ?_
  refine VL_val rfl rfl rfl (yd_move rfl) ?_
  refine VL_call rfl rfl rfl rfl T.call53 rfl (numBlocks_ok (hS.get 0 rfl) hg) ?_
  rintro _ _ ⟨rfl, rfl⟩
  refine VL_makeM (Value.int .i32) 0 rfl rfl rfl rfl rfl rfl Try.underlying75 T.e21 rfl rfl (by omega) (by omega) (by omega) hS ?_
  clear hS; intro b13 w hS
  refine VL_val rfl rfl rfl (yd_assign rfl) ?_
  refine VL_nil ?_
  refine VE_then ?_
  refine VC_seq ?_
  refine VC_seq ?_
  refine VC_region ?_
  refine VL_val rfl rfl rfl (yd_move rfl) ?_
  refine VL_val rfl rfl rfl (yd_len rfl Try.underlying75) ?_
  refine VL_val rfl rfl rfl (yd_move rfl) ?_
  refine VL_nil ?_
  refine VE_then ?_
  refine VC_block ?_
  refine VC_loop2 [2, 3, 4, 15] [_, _, _, _] rfl (fun (k : Nat) (pn : List Int) => [(16, .int .i64 ((k : Nat) : Int))]) (fun (k : Nat) (pn : List Int) w => k ≤ G.length + 1 ∧ pn.length = G.length + 1 ∧ (∀ i, i < k → pn[i]! = -1) ∧ St w0 M0 [funcR f G, blk b13 21 (pn.map (Value.int .i32))] w) (fun (k : Nat) (pn : List Int) => G.length + 1 - k) 0 _ ⟨rfl, trivial⟩ (⟨Nat.zero_le _, by simp, fun i h => absurd h (Nat.not_lt_zero _), hS⟩) ?_
  clear hS; rintro k pn w ⟨hk, hpl, hpn, hS⟩
  refine VC_seq ?_
  refine VC_region ?_
  refine VL_val rfl rfl rfl (yd_lss rfl rfl) ?_
  refine VL_nil ?_
  refine VE_then ?_
  refine VC_seq ?_
  refine VC_cond rfl (fun h17 => ?_) (fun h17 => ?_)
  · replace h17 := of_decide_eq_true h17
    refine VC_skip ?_
    refine VE_then ?_
    refine VC_seq ?_
    refine VC_block ?_
    refine VC_seq ?_
    refine VC_region ?_
    refine VL_val rfl rfl rfl (yd_move rfl) ?_
    refine VL_val rfl rfl rfl (yd_assign rfl) ?_
    refine VL_nil ?_
    refine VE_then ?_
    refine VC_region ?_
    refine VL_val rfl rfl rfl (yd_move rfl) ?_
    refine VL_val rfl rfl rfl (yd_move rfl) ?_
    refine VL_val rfl rfl rfl (yd_index0 rfl rfl Try.underlying75 T.sz21 (by omega)) ?_
    refine VL_storeM rfl rfl rfl rfl rfl T.one21 rfl hS 1 rfl (by omega) rfl ?_
    clear hS; intro w hS
    refine VL_nil ?_
    refine VE_block_normal ?_
    refine VE_then ?_
    refine VC_region ?_
    refine VL_val rfl rfl rfl (yd_add rfl rfl ((k + 1 : Nat) : Int) (by rw [wi64 (by omega) (by omega)]; omega)) ?_
    refine VL_val rfl rfl rfl (yd_move rfl) ?_
    refine VL_nil ?_
    exact VE_round2 (k + 1) _ ⟨rfl, rfl, rfl, rfl, rfl, trivial⟩ ⟨by omega, by simp [hpl], fun i hi => by rw [get!_set _ _ _ _ (by omega)]; split; rfl; exact hpn i (by omega), hS⟩ (by omega)
  · replace h17 := Int.not_lt.1 (of_decide_eq_false h17)
    refine VC_exit ?_
    refine VE_then_exit (VE_then_exit (VE_block_exit ?_))
    refine VE_then ?_
    refine VC_seq ?_
    refine VC_region ?_
    have hp0 : PnOK G [] pn := ⟨hpl, fun x hx => .inl ⟨by simp, hpn _ (by omega)⟩⟩
    refine VL_val rfl rfl rfl (yd_move rfl) ?_
    refine VL_val rfl rfl rfl (yd_move rfl) ?_
    refine VL_call rfl rfl rfl rfl T.call54 rfl (post_num (hS.get 0 rfl) hg (hS.get 1 rfl) (fun b hb e => pairwise_get disj_sym hS.disj (i := 0) (j := 1) rfl rfl (by omega) b hb e) hp0) ?_
    rintro _ w ⟨b, c, pm, rfl, hpm, hR⟩
    have hS := hS.call1 1 rfl hR
    have hS := hS.sub (η' := [funcR f G, blk b13 21 (pm.map (Value.int .i32))]) (List.Sublist.cons_cons _ (List.Sublist.cons_cons _ (List.nil_sublist _)))
    refine VL_nil ?_
    refine VE_then ?_
    refine VC_seq ?_
    refine VC_region ?_
    refine VL_val rfl rfl rfl (yd_assign rfl) ?_
    refine VL_nil ?_
    refine VE_then ?_
    refine VC_seq ?_
    refine VC_seq ?_
    refine VC_region ?_
    refine VL_val rfl rfl rfl (yd_move rfl) ?_
    refine VL_val rfl rfl rfl (yd_slice_lo (m := 1) rfl rfl Try.underlying75 T.sz21 (by omega) (by omega)) ?_
    refine VL_val rfl rfl rfl (yd_len rfl Try.underlying75) ?_
    refine VL_val rfl rfl rfl (yd_move rfl) ?_
    refine VL_nil ?_
    refine VE_then ?_
    refine VC_block ?_
    have hS := St_nils hS (L := [row (.slice none 0 0) 3 1 0 []]) (by intro r hr; simp at hr; subst hr; exact ⟨⟨rfl, .inl ⟨rfl, rfl⟩⟩, fun b hb => by simp [row, Value.ownBlock] at hb⟩)
    refine VC_loop2 [2, 27, 28] [_, _, _] rfl (fun (k : Nat) (r : Value) => [(29, .int .i64 ((k : Nat) : Int)), (6, r)]) (fun (k : Nat) (r : Value) w => k ≤ G.length ∧ St w0 M0 [funcR f G, blk b13 21 (pm.map (Value.int .i32)), row r 3 1 k (((pm.drop 1).take k).map (Value.int .i64))] w) (fun (k : Nat) (r : Value) => G.length - k) 0 (.slice none 0 0) ⟨rfl, rfl, trivial⟩ (⟨Nat.zero_le _, hS⟩) ?_
    clear hS; rintro k r w ⟨hk, hS⟩
    refine VC_seq ?_
    refine VC_region ?_
    refine VL_val rfl rfl rfl (yd_lss rfl rfl) ?_
    refine VL_nil ?_
    refine VE_then ?_
    refine VC_seq ?_
    refine VC_cond rfl (fun h30 => ?_) (fun h30 => ?_)
    · replace h30 := of_decide_eq_true h30
      refine VC_skip ?_
      refine VE_then ?_
      refine VC_seq ?_
      refine VC_block ?_
      refine VC_seq ?_
      refine VC_region ?_
      have hml := hpm.1
      have hpl12 := postL_le hg
      refine VL_val rfl rfl rfl (yd_index1 rfl rfl Try.underlying75 T.sz21 (by omega)) ?_
      refine VL_val rfl rfl rfl (yd_load rfl T.one21 (blk_cellM (hS.get 1 rfl) (show 0 + 1 * 1 + k < pm.length by omega))) ?_
      refine VL_val rfl rfl rfl (yd_assign rfl) ?_
      refine VL_nil ?_
      refine VE_then ?_
      refine VC_region ?_
      have hbd : -1 ≤ pm[0 + 1 * 1 + k]! ∧ pm[0 + 1 * 1 + k]! ≤ 13 := by
        rw [show 0 + 1 * 1 + k = k + 1 by omega]
        rcases hpm.2 k (by omega) with ⟨_, h⟩ | ⟨i, h1, _, h⟩
        · omega
        · omega
      refine VL_val rfl rfl rfl (yd_move rfl) ?_
      refine VL_val rfl rfl rfl (yd_move rfl) ?_
      refine VL_val rfl rfl rfl (yd_conv rfl ⟨_, Try.underlying21⟩ Try.underlying3 _ (wi64 (by omega) (by omega))) ?_
      refine VL_rel rfl rfl rfl (yr_bslice rfl Try.underlying24 T.e3 rfl (by decide) (by decide) hS) ?_
      clear hS; rintro _ w ⟨b36, rfl, hS⟩
      refine VL_rel rfl rfl rfl (yr_append rfl rfl Try.underlying24 T.e3 rfl (by decide) hS 2 rfl (hS.get 3 rfl) rfl (by intro u hu; simp [Value.cells] at hu; subst hu; rfl) (by omega) (by omega)) ?_
      clear hS; rintro v37 w ⟨hS, hnil⟩
      have hS := hS.sub (η' := _) (List.take_sublist 3 _)
      refine VL_val rfl rfl rfl (yd_assign rfl) ?_
      refine VL_nil ?_
      refine VE_block_normal ?_
      refine VE_then ?_
      refine VC_region ?_
      refine VL_val rfl rfl rfl (yd_add rfl rfl ((k + 1 : Nat) : Int) (by rw [wi64 (by omega) (by omega)]; omega)) ?_
      refine VL_val rfl rfl rfl (yd_move rfl) ?_
      refine VL_nil ?_
      refine VE_round2 (k + 1) _ ⟨rfl, rfl, rfl, rfl, rfl, trivial⟩ ⟨by omega, ?_⟩ (by omega)
      have e : ((pm.drop 1).take (k + 1)).map (Value.int .i64) = ((pm.drop 1).take k).map (Value.int .i64) ++ (Value.int .i64 pm[0 + 1 * 1 + k]!).cells.toList := by
        rw [List.take_succ_eq_append_getElem (show k < (pm.drop 1).length by simp; omega), List.map_append, List.getElem_drop, getElem!_pos pm _ (by omega)]; simp [Value.cells]
      rw [e]; exact hS
    · replace h30 := Int.not_lt.1 (of_decide_eq_false h30)
      refine VC_exit ?_
      refine VE_then_exit (VE_then_exit (VE_block_exit ?_))
      refine VE_then ?_
      refine VC_seq ?_
      refine VC_region ?_
      refine VL_val rfl rfl rfl (yd_move rfl) ?_
      refine VL_val rfl rfl rfl (yd_assign rfl) ?_
      refine VL_nil ?_
      refine VE_then ?_
      refine VC_ret ?_
      refine VE_ret1 (rfl) rfl ?_
      have hkl : k = G.length := by omega
      subst hkl
      have hml := hpm.1
      rw [List.take_of_length_le (by simp; omega)] at hS
      refine ⟨pm.drop 1, pn_places hpm, ?_⟩
      rw [show (pm.drop 1).length = G.length by simp; omega]
      exact hS.sub (List.Sublist.cons _ (List.Sublist.cons _ (List.Sublist.refl _)))

theorem implPostorderNumbers_ok {w0 : World} {v : Value} {G : Graph} (hG : GraphAt w0 v G) (hg : Gd G) : Calls Try.prog 22 #[v] w0 (Ret fun u w' => ∃ A, IsPlaces (postL G) G.length A ∧ St w0 M0 [row u 3 1 A.length (A.map (Value.int .i64))] w') := by
  refine V_enter (N := 5) Try.func22 rfl Try.ntmps22 rfl ?_
  refine VC.sub (τ := [(0, _)]) ⟨rfl, trivial⟩ ?_
  refine VC_seq ?_
  refine VC_region ?_
  refine VL_val rfl rfl rfl (yd_assign rfl) ?_
  refine VL_nil ?_
  refine VE_then ?_
  refine VC_seq ?_
  refine VC_region ?_
  refine VL_val rfl rfl rfl (yd_move rfl) ?_
  refine VL_call rfl rfl rfl rfl T.call40 rfl (PostorderNumbers_ok hG hg) ?_
  rintro u w ⟨A, hA, hS⟩
  refine VL_val rfl rfl rfl (yd_assign rfl) ?_
  refine VL_nil ?_
  refine VE_then ?_
  refine VC_ret ?_
  refine VE_ret1 (rfl) rfl ?_
  exact ⟨A, hA, hS⟩

end Go.Proofs.Ytmoooaaiohplhaa
