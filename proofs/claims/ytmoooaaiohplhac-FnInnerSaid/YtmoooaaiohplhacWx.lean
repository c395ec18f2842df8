/- below, grown. -/
import Derived.Test.YtmoooaaiohplhacWw
namespace Go.Proofs.Ytmoooaaiohplhac
open Go Go.V
set_option linter.unusedVariables false
set_option maxRecDepth 100000

theorem T.fld57_1 : FieldT Try.prog 57 1 1 := FieldT.of (by kernel_rfl)
theorem T.fld57_2 : FieldT Try.prog 57 2 2 := FieldT.of (by kernel_rfl)
theorem T.sz57 : (Try.prog.info? 57).map (·.size) = some 5 := by kernel_rfl

open Go.PL
theorem nO_neg {o : Option Nat} (h : nO o = -1) : o = none := by
  cases o with
  | none => rfl
  | some i => have h : ((i : Nat) : Int) = -1 := h; omega
theorem nO_ge {o : Option Nat} (h : 0 ≤ nO o) : ∃ i, o = some i := by
  cases o with
  | none => exact absurd h (by decide)
  | some i => exact ⟨i, rfl⟩
theorem chs_le {G : Graph} {P : Nat → Option Nat} {r : Nat → Nat} (hg : Gd G) (hT : TreeP G P r) (x : Nat) : (chs G P x).length ≤ G.length :=
  nodup_len _ (chs_nodup hg x) fun c hc => (postL_ok hg).lt c (hT.mem c x ((mem_chs hT).1 hc)).1
theorem mem_take_lt {l : List Nat} {j c : Nat} (hn : l.Nodup) (hj : j < l.length) (hc : c = l[j]!) : c ∉ l.take j := by
  intro h
  obtain ⟨i, hi, e⟩ := List.mem_iff_getElem.1 h
  rw [List.length_take] at hi
  rw [List.getElem_take] at e
  rw [getElem!_pos l j hj] at hc
  have := (List.pairwise_iff_getElem.1 hn) i j (by omega) hj (by omega)
  exact this (e.trans hc)
theorem en_cell {w : World} {t : TRep} {n b c x : Nat} {T : TypeId} (h : (row (.slice (some ⟨b, 0, none⟩) n c) T 1 n ((zL ((List.range n).map t.en)).map (Value.int .i64))).holds w) (hx : x < n) : w.cell? ⟨b, x, none⟩ = some (.int .i64 ((t.en x : Nat) : Int)) :=
  row_cell h (by simp [zL, hx])

theorem below_ok {w0 : World} {G : Graph} {P : Nat → Option Nat} {r : Nat → Nat} {t : TRep} {tb tc x : Nat} (hg : Gd G) (hT : TreeP G P r) (hB : TB G P t) (h0 : (row (.slice (some ⟨tb, 0, none⟩) G.length tc) 57 5 G.length (nodeC G.length t)).holds w0) (hx : x < G.length) : Calls Try.prog 19 #[.slice (some ⟨tb, 0, none⟩) G.length tc, .int .i64 (x : Int)] w0 (Ret fun u w' => ∃ lb lc, u = .tuple #[.slice (some ⟨lb, 0, none⟩) (chs G P x).length lc, .bool true] ∧ St w0 M0 [row (.slice (some ⟨lb, 0, none⟩) (chs G P x).length lc) 3 1 (chs G P x).length ((zL (chs G P x)).map (Value.int .i64))] w') := by
  have hS := St.refl w0
  have hle := hg.le
  have hcl := chs_le hg hT x
  refine V_enter (N := 42) Try.func19 rfl Try.ntmps19 rfl ?_
  refine VC.sub (τ := [(0, _), (1, _)]) ⟨rfl, rfl, trivial⟩ ?_
  refine VC_seq ?_
  refine VC_region ?_
  refine VL_val rfl rfl rfl (yd_assign rfl) ?_
  refine VL_val rfl rfl rfl (yd_assign rfl) ?_
  refine VL_nil ?_
  refine VE_then ?_
  refine VC_seq ?_
  refine VC_region ?_
  refine VL_rel rfl rfl rfl (yr_bslice0 Try.underlying29 T.e3 hS) ?_
  clear hS; rintro _ w ⟨b8, rfl, hS⟩
  refine VL_val rfl rfl rfl (yd_assign rfl) ?_
  refine VL_nil ?_
  refine VE_then ?_
  refine VC_seq ?_
  refine VC_seq ?_
  refine VC_region ?_
  refine VL_val rfl rfl rfl (yd_move rfl) ?_
  refine VL_val rfl rfl rfl (yd_move rfl) ?_
  refine VL_val rfl rfl rfl (yd_index rfl rfl Try.underlying27 T.sz57 (by omega) (x * 5) (Nat.zero_add _)) ?_
  refine VL_val rfl rfl rfl (yd_field rfl T.fld57_1) ?_
  refine VL_val rfl rfl rfl (yd_load rfl T.one3 ((nc_ch (hS.keep0 h0) hx).trans (congrArg (fun o => some (Value.int .i64 (nO o))) (hB.ch x)))) ?_
  refine VL_val rfl rfl rfl (yd_assign rfl) ?_
  refine VL_nil ?_
  refine VE_then ?_
  refine VC_block ?_
  refine VC_loop3 [0] [_] rfl (fun (dn : List Nat) (rest : List Nat) (r : Value) => [(7, .int .i64 (nO rest.head?)), (6, r)]) (fun (dn : List Nat) (rest : List Nat) (r : Value) w => chs G P x = dn ++ rest ∧ r ≠ .slice none 0 0 ∧ St w0 M0 [row r 3 1 dn.length ((zL dn).map (Value.int .i64))] w) (fun (dn : List Nat) (rest : List Nat) (r : Value) => rest.length) [] (chs G P x) _ ⟨rfl, rfl, trivial⟩ (⟨rfl, by simp, hS⟩) ?_
  clear hS; rintro dn rest r w ⟨hcut, hrn, hS⟩
  obtain ⟨rb, rc, rfl, -⟩ := row_form (hS.get 0 rfl) (.inl hrn)
  have hlen : (chs G P x).length = dn.length + rest.length := by rw [hcut, List.length_append]
  refine VC_seq ?_
  refine VC_seq ?_
  refine VC_region ?_
  refine VL_val rfl rfl rfl (yd_move rfl) ?_
  refine VL_val rfl rfl rfl (yd_neq rfl rfl) ?_
  refine VL_nil ?_
  refine VE_then ?_
  refine VC_cond rfl (fun h15 => ?_) (fun h15 => ?_)
  · replace h15 := of_decide_eq_true h15
    obtain ⟨c, rest1, rfl⟩ : ∃ c rest1, rest = c :: rest1 := by
      cases rest with
      | nil => exact absurd rfl h15
      | cons c l => exact ⟨c, l, rfl⟩
    have hpc : P c = some x := (mem_chs hT).1 (by rw [hcut]; simp)
    have hcn := (postL_ok hg).lt c (hT.mem c x hpc).1
    have hz : nO (c :: rest1).head? = ((c : Nat) : Int) := rfl
    rw [List.length_cons] at hlen
    refine VC_skip ?_
    refine VE_then ?_
    refine VC_seq ?_
    refine VC_block ?_
    refine VC_seq ?_
    refine VC_seq ?_
    refine VC_region ?_
    refine VL_val rfl rfl rfl (yd_move rfl) ?_
    refine VL_val rfl rfl rfl (yd_lss rfl rfl) ?_
    refine VL_val rfl rfl rfl (yd_move rfl) ?_
    refine VL_split 23 rfl (fun h23 => ?_) (fun h23 => ?_)
    · replace h23 := of_decide_eq_true h23
      exact absurd h23 (by omega)
    · replace h23 := Int.not_lt.1 (of_decide_eq_false h23)
      refine VL_yes rfl rfl rfl rfl ?_
      refine VL_val rfl rfl rfl (yd_move rfl) ?_
      refine VL_yes rfl rfl rfl rfl ?_
      refine VL_val rfl rfl rfl (yd_move rfl) ?_
      refine VL_yes rfl rfl rfl rfl ?_
      refine VL_val rfl rfl rfl (yd_len rfl Try.underlying27) ?_
      refine VL_yes rfl rfl rfl rfl ?_
      refine VL_val rfl rfl rfl (yd_geq rfl rfl) ?_
      refine VL_val rfl rfl rfl (yd_pick_f rfl rfl) ?_
      refine VL_val rfl rfl rfl (yd_move rfl) ?_
      refine VL_split 29 rfl (fun h29 => ?_) (fun h29 => ?_)
      · replace h29 := of_decide_eq_true h29
        exact absurd h29 (by omega)
      · replace h29 := Int.not_le.1 (of_decide_eq_false h29)
        refine VL_yes rfl rfl rfl rfl ?_
        refine VL_val rfl rfl rfl (yd_move rfl) ?_
        refine VL_yes rfl rfl rfl rfl ?_
        refine VL_val rfl rfl rfl (yd_len rfl Try.underlying29) ?_
        refine VL_yes rfl rfl rfl rfl ?_
        refine VL_val rfl rfl rfl (yd_move rfl) ?_
        refine VL_yes rfl rfl rfl rfl ?_
        refine VL_val rfl rfl rfl (yd_len rfl Try.underlying27) ?_
        refine VL_yes rfl rfl rfl rfl ?_
        refine VL_val rfl rfl rfl (yd_gtr rfl rfl) ?_
        refine VL_val rfl rfl rfl (yd_pick_f rfl rfl) ?_
        refine VL_nil ?_
        refine VE_then ?_
        refine VC_cond rfl (fun h35 => ?_) (fun h35 => ?_)
        · replace h35 := of_decide_eq_true h35
          exact absurd h35 (by omega)
        · replace h35 := Int.not_lt.1 (of_decide_eq_false h35)
          refine VC_skip ?_
          refine VE_then ?_
          refine VC_region ?_
          refine VL_val rfl rfl rfl (yd_move rfl) ?_
          refine VL_val rfl rfl rfl (yd_move rfl) ?_
          refine VL_rel rfl rfl rfl (yr_bslice rfl Try.underlying29 T.e3 rfl (by decide) (by decide) hS) ?_
          clear hS; rintro _ w ⟨b39, rfl, hS⟩
          refine VL_rel rfl rfl rfl (yr_append rfl rfl Try.underlying29 T.e3 rfl (by decide) hS 0 rfl (hS.get 1 rfl) rfl (by intro u hu; simp [Value.cells] at hu; subst hu; rfl) (by omega) (by omega)) ?_
          clear hS; rintro v40 w ⟨hS, hnil⟩
          have hS := hS.sub (η' := _) (List.take_sublist 1 _)
          refine VL_val rfl rfl rfl (yd_assign rfl) ?_
          refine VL_nil ?_
          refine VE_block_normal ?_
          refine VE_then ?_
          refine VC_region ?_
          refine VL_val rfl rfl rfl (yd_move rfl) ?_
          refine VL_val rfl rfl rfl (yd_move rfl) ?_
          refine VL_val rfl rfl rfl (yd_index rfl rfl Try.underlying27 T.sz57 (i := c) (by omega) (c * 5) (Nat.zero_add _)) ?_
          refine VL_val rfl rfl rfl (yd_field rfl T.fld57_2) ?_
          refine VL_val rfl rfl rfl (yd_load rfl T.one3 ((nc_sb (hS.keep0 h0) hcn).trans (congrArg (fun o => some (Value.int .i64 (nO o))) ((hB.sb c).trans (sibF_at hg hT hcut))))) ?_
          refine VL_val rfl rfl rfl (yd_assign rfl) ?_
          refine VL_nil ?_
          refine VE_round3 (dn ++ [c]) rest1 _ ⟨rfl, rfl, rfl, trivial⟩ ⟨by rw [hcut]; simp, fun h => hrn (hnil.1 h).1, ?_⟩ (by simp)
          have e : (zL (dn ++ [c])).map (Value.int .i64) = (zL dn).map (Value.int .i64) ++ (Value.int .i64 (nO (c :: rest1).head?)).cells.toList := by simp [zL, Value.cells, nO]
          rw [e, List.length_append]; exact hS
  · replace h15 := Decidable.not_not.1 (of_decide_eq_false h15)
    obtain rfl : rest = [] := by
      cases rest with
      | nil => rfl
      | cons c l => have h15 : ((c : Nat) : Int) = -1 := h15; omega
    refine VC_exit ?_
    refine VE_then_exit (VE_then_exit (VE_block_exit ?_))
    refine VE_then ?_
    refine VC_seq ?_
    refine VC_region ?_
    refine VL_val rfl rfl rfl (yd_move rfl) ?_
    refine VL_val rfl rfl rfl (yd_assign rfl) ?_
    refine VL_val rfl rfl rfl (yd_assign rfl) ?_
    refine VL_nil ?_
    refine VE_then ?_
    refine VC_ret ?_
    refine VE_ret2 (rfl) rfl rfl ?_
    rw [List.append_nil] at hcut
    subst hcut
    exact ⟨_, _, rfl, hS⟩

end Go.Proofs.Ytmoooaaiohplhac
