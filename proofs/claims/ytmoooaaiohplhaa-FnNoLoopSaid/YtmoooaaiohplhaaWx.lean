/- below, grown. -/
import Derived.Test.YtmoooaaiohplhaaWw
namespace Go.Proofs.Ytmoooaaiohplhaa
open Go Go.V
set_option linter.unusedVariables false
set_option maxRecDepth 100000

theorem T.fld49_1 : FieldT Try.prog 49 1 1 := FieldT.of (by kernel_rfl)
theorem T.fld49_2 : FieldT Try.prog 49 2 2 := FieldT.of (by kernel_rfl)
theorem T.sz49 : (Try.prog.info? 49).map (·.size) = some 5 := by kernel_rfl
theorem T.call45 : CallT Try.prog 45 := CallT.of Try.func45 (by kernel_rfl) (by kernel_rfl)

open Go.PL
theorem nO_neg {o : Option Nat} (h : nO o = -1) : o = none := by
  cases o with
  | none => rfl
  | some i => have h : ((i : Nat) : Int) = -1 := h; omega
theorem nO_ge {o : Option Nat} (h : 0 ≤ nO o) : ∃ i, o = some i := by
  cases o with
  | none => exact absurd h (by decide)
  | some i => exact ⟨i, rfl⟩
theorem chs_le {G : Graph} {P : Nat → Option Nat} {r : Nat → Nat} (hg : Gd G) (hT : TreeP G P r) (x : Nat) : (chs G P x).length ≤ G.length :=
  nodup_len _ (chs_nodup hg x) fun c hc => (postL_ok hg).lt c (hT.mem c x ((mem_chs hT).1 hc)).1
theorem mem_take_lt {l : List Nat} {j c : Nat} (hn : l.Nodup) (hj : j < l.length) (hc : c = l[j]!) : c ∉ l.take j := by
  intro h
  obtain ⟨i, hi, e⟩ := List.mem_iff_getElem.1 h
  rw [List.length_take] at hi
  rw [List.getElem_take] at e
  rw [getElem!_pos l j hj] at hc
  have := (List.pairwise_iff_getElem.1 hn) i j (by omega) hj (by omega)
  exact this (e.trans hc)
theorem en_cell {w : World} {t : TRep} {n b c x : Nat} {T : TypeId} (h : (row (.slice (some ⟨b, 0, none⟩) n c) T 1 n ((zL ((List.range n).map t.en)).map (Value.int .i64))).holds w) (hx : x < n) : w.cell? ⟨b, x, none⟩ = some (.int .i64 ((t.en x : Nat) : Int)) :=
  row_cell h (by simp [zL, hx])

theorem below_ok {w0 : World} {G : Graph} {P : Nat → Option Nat} {r : Nat → Nat} {t : TRep} {tb tc x : Nat} (hg : Gd G) (hT : TreeP G P r) (hB : TB G P t) (h0 : (row (.slice (some ⟨tb, 0, none⟩) G.length tc) 49 5 G.length (nodeC G.length t)).holds w0) (hx : x < G.length) : Calls Try.prog 45 #[.slice (some ⟨tb, 0, none⟩) G.length tc, .int .i64 (x : Int)] w0 (Ret fun u w' => ∃ lb lc, u = .tuple #[.slice (some ⟨lb, 0, none⟩) (chs G P x).length lc, .bool true] ∧ St w0 M0 [row (.slice (some ⟨lb, 0, none⟩) (chs G P x).length lc) 3 1 (chs G P x).length ((zL (chs G P x)).map (Value.int .i64))] w') := by
  have hS := St.refl w0
  have hle := hg.le
  have hcl := chs_le hg hT x
  refine V_enter (N := 42) Try.func45 rfl Try.ntmps45 rfl ?_
  refine VC.sub (τ := [(0, _), (1, _)]) ⟨rfl, rfl, trivial⟩ ?_
  refine VC_seq ?_
  refine VC_region ?_
  refine VL_val rfl rfl rfl (yd_assign rfl) ?_
  refine VL_val rfl rfl rfl (yd_assign rfl) ?_
  refine VL_nil ?_
  refine VE_then ?_
  refine VC_seq ?_
  refine VC_region ?_
  refine VL_rel rfl rfl rfl (yr_bslice0 Try.underlying24 T.e3 hS) ?_
  clear hS; rintro _ w ⟨b8, rfl, hS⟩
  refine VL_val rfl rfl rfl (yd_assign rfl) ?_
  refine VL_nil ?_
  refine VE_then ?_
  refine VC_seq ?_
  refine VC_seq ?_
  refine VC_region ?_
  refine VL_val rfl rfl rfl (yd_move rfl) ?_
  refine VL_val rfl rfl rfl (yd_move rfl) ?_
  refine VL_val rfl rfl rfl (yd_index rfl rfl Try.underlying45 T.sz49 (by omega) (x * 5) (Nat.zero_add _)) ?_
  refine VL_val rfl rfl rfl (yd_field rfl T.fld49_1) ?_
  refine VL_val rfl rfl rfl (yd_load rfl T.one3 ((nc_ch (hS.keep0 h0) hx).trans (congrArg (fun o => some (Value.int .i64 (nO o))) (hB.ch x)))) ?_
  refine VL_val rfl rfl rfl (yd_assign rfl) ?_
  refine VL_nil ?_
  refine VE_then ?_
  refine VC_block ?_
  refine VC_loop3 [0] [_] rfl (fun (dn : List Nat) (rest : List Nat) (r : Value) => [(7, .int .i64 (nO rest.head?)), (6, r)]) (fun (dn : List Nat) (rest : List Nat) (r : Value) w => chs G P x = dn ++ rest ∧ r ≠ .slice none 0 0 ∧ St w0 M0 [row r 3 1 dn.length ((zL dn).map (Value.int .i64))] w) (fun (dn : List Nat) (rest : List Nat) (r : Value) => rest.length) [] (chs G P x) _ ⟨rfl, rfl, trivial⟩ (⟨rfl, by simp, hS⟩) ?_
  clear hS; rintro dn rest r w ⟨hcut, hrn, hS⟩
  obtain ⟨rb, rc, rfl, -⟩ := row_form (hS.get 0 rfl) (.inl hrn)
  have hlen : (chs G P x).length = dn.length + rest.length := by rw [hcut, List.length_append]
  refine VC_seq ?_
  refine VC_seq ?_
  refine VC_region ?_
  refine VL_val rfl rfl rfl (yd_move rfl) ?_
  refine VL_val rfl rfl rfl (yd_neq rfl rfl) ?_
  refine VL_nil ?_
  refine VE_then ?_
  refine VC_cond rfl (fun h15 => ?_) (fun h15 => ?_)
  · replace h15 := of_decide_eq_true h15
    obtain ⟨c, rest1, rfl⟩ : ∃ c rest1, rest = c :: rest1 := by
      cases rest with
      | nil => exact absurd rfl h15
      | cons c l => exact ⟨c, l, rfl⟩
    have hpc : P c = some x := (mem_chs hT).1 (by rw [hcut]; simp)
    have hcn := (postL_ok hg).lt c (hT.mem c x hpc).1
    have hz : nO (c :: rest1).head? = ((c : Nat) : Int) := rfl
    rw [List.length_cons] at hlen
    refine VC_skip ?_
    refine VE_then ?_
    refine VC_seq ?_
    refine VC_block ?_
    refine VC_seq ?_
    refine VC_seq ?_
    refine VC_region ?_
    refine VL_val rfl rfl rfl (yd_move rfl) ?_
    refine VL_val rfl rfl rfl (yd_lss rfl rfl) ?_
    refine VL_val rfl rfl rfl (yd_move rfl) ?_
    refine VL_split 23 rfl (fun h23 => ?_) (fun h23 => ?_)
    · replace h23 := of_decide_eq_true h23
      exact absurd h23 (by omega)
    · replace h23 := Int.not_lt.1 (of_decide_eq_false h23)
      refine VL_yes rfl rfl rfl rfl ?_
      refine VL_val rfl rfl rfl (yd_move rfl) ?_
      refine VL_yes rfl rfl rfl rfl ?_
      refine VL_val rfl rfl rfl (yd_move rfl) ?_
      refine VL_yes rfl rfl rfl rfl ?_
      refine VL_val rfl rfl rfl (yd_len rfl Try.underlying45) ?_
      refine VL_yes rfl rfl rfl rfl ?_
      refine VL_val rfl rfl rfl (yd_geq rfl rfl) ?_
      refine VL_val rfl rfl rfl (yd_pick_f rfl rfl) ?_
      refine VL_val rfl rfl rfl (yd_move rfl) ?_
      refine VL_split 29 rfl (fun h29 => ?_) (fun h29 => ?_)
      · replace h29 := of_decide_eq_true h29
        exact absurd h29 (by omega)
      · replace h29 := Int.not_le.1 (of_decide_eq_false h29)
        refine VL_yes rfl rfl rfl rfl ?_
        refine VL_val rfl rfl rfl (yd_move rfl) ?_
        refine VL_yes rfl rfl rfl rfl ?_
        refine VL_val rfl rfl rfl (yd_len rfl Try.underlying24) ?_
        refine VL_yes rfl rfl rfl rfl ?_
        refine VL_val rfl rfl rfl (yd_move rfl) ?_
        refine VL_yes rfl rfl rfl rfl ?_
        refine VL_val rfl rfl rfl (yd_len rfl Try.underlying45) ?_
        refine VL_yes rfl rfl rfl rfl ?_
        refine VL_val rfl rfl rfl (yd_gtr rfl rfl) ?_
        refine VL_val rfl rfl rfl (yd_pick_f rfl rfl) ?_
        refine VL_nil ?_
        refine VE_then ?_
        refine VC_cond rfl (fun h35 => ?_) (fun h35 => ?_)
        · replace h35 := of_decide_eq_true h35
          exact absurd h35 (by omega)
        · replace h35 := Int.not_lt.1 (of_decide_eq_false h35)
          refine VC_skip ?_
          refine VE_then ?_
          refine VC_region ?_
          refine VL_val rfl rfl rfl (yd_move rfl) ?_
          refine VL_val rfl rfl rfl (yd_move rfl) ?_
          refine VL_rel rfl rfl rfl (yr_bslice rfl Try.underlying24 T.e3 rfl (by decide) (by decide) hS) ?_
          clear hS; rintro _ w ⟨b39, rfl, hS⟩
          refine VL_rel rfl rfl rfl (yr_append rfl rfl Try.underlying24 T.e3 rfl (by decide) hS 0 rfl (hS.get 1 rfl) rfl (by intro u hu; simp [Value.cells] at hu; subst hu; rfl) (by omega) (by omega)) ?_
          clear hS; rintro v40 w ⟨hS, hnil⟩
          have hS := hS.sub (η' := _) (List.take_sublist 1 _)
          refine VL_val rfl rfl rfl (yd_assign rfl) ?_
          refine VL_nil ?_
          refine VE_block_normal ?_
          refine VE_then ?_
          refine VC_region ?_
          refine VL_val rfl rfl rfl (yd_move rfl) ?_
          refine VL_val rfl rfl rfl (yd_move rfl) ?_
          refine VL_val rfl rfl rfl (yd_index rfl rfl Try.underlying45 T.sz49 (i := c) (by omega) (c * 5) (Nat.zero_add _)) ?_
          refine VL_val rfl rfl rfl (yd_field rfl T.fld49_2) ?_
          refine VL_val rfl rfl rfl (yd_load rfl T.one3 ((nc_sb (hS.keep0 h0) hcn).trans (congrArg (fun o => some (Value.int .i64 (nO o))) ((hB.sb c).trans (sibF_at hg hT hcut))))) ?_
          refine VL_val rfl rfl rfl (yd_assign rfl) ?_
          refine VL_nil ?_
          refine VE_round3 (dn ++ [c]) rest1 _ ⟨rfl, rfl, rfl, trivial⟩ ⟨by rw [hcut]; simp, fun h => hrn (hnil.1 h).1, ?_⟩ (by simp)
          have e : (zL (dn ++ [c])).map (Value.int .i64) = (zL dn).map (Value.int .i64) ++ (Value.int .i64 (nO (c :: rest1).head?)).cells.toList := by simp [zL, Value.cells, nO]
          rw [e, List.length_append]; exact hS
  · replace h15 := Decidable.not_not.1 (of_decide_eq_false h15)
    obtain rfl : rest = [] := by
      cases rest with
      | nil => rfl
      | cons c l => have h15 : ((c : Nat) : Int) = -1 := h15; omega
    refine VC_exit ?_
    refine VE_then_exit (VE_then_exit (VE_block_exit ?_))
    refine VE_then ?_
    refine VC_seq ?_
    refine VC_region ?_
    refine VL_val rfl rfl rfl (yd_move rfl) ?_
    refine VL_val rfl rfl rfl (yd_assign rfl) ?_
    refine VL_val rfl rfl rfl (yd_assign rfl) ?_
    refine VL_nil ?_
    refine VE_then ?_
    refine VC_ret ?_
    refine VE_ret2 (rfl) rfl rfl ?_
    rw [List.append_nil] at hcut
    subst hcut
    exact ⟨_, _, rfl, hS⟩

theorem grown_ok {w0 : World} {G : Graph} {P : Nat → Option Nat} {r : Nat → Nat} {t : TRep} {tb tc : Nat} {v : Value} {l : List Int} (hg : Gd G) (hT : TreeP G P r) (hB : TB G P t) (h0 : (row (.slice (some ⟨tb, 0, none⟩) G.length tc) 49 5 G.length (nodeC G.length t)).holds w0) (hl : IntsAt w0 v l) (hll : l.length = G.length) (hlP : ∀ x, x < G.length → l[x]! = nO (P x)) : Calls Try.prog 30 #[.slice (some ⟨tb, 0, none⟩) G.length tc, v] w0 (Ret fun u w' => u = .bool true ∧ St w0 M0 [] w') := by
  have hS := St.refl w0
  have hle := hg.le
  have hpos := hg.pos
  obtain ⟨la, lc, lb, lo, rfl, hla, hcl⟩ := hl
  obtain rfl := hla (by omega)
  have hPl : ∀ c p, P c = some p → c < G.length ∧ p < G.length := fun c p h => ⟨(postL_ok hg).lt c (hT.mem c p h).1, (postL_ok hg).lt p (hT.mem c p h).2⟩
  refine V_enter (N := 69) Try.func30 rfl Try.ntmps30 rfl ?_
  refine VC.sub (τ := [(0, _), (1, _)]) ⟨rfl, rfl, trivial⟩ ?_
  refine VC_seq ?_
  refine VC_region ?_
  refine VL_val rfl rfl rfl (yd_assign rfl) ?_
  refine VL_nil ?_
  refine VE_then ?_
  refine VC_seq ?_
  refine VC_region ?_
  refine VL_val rfl rfl rfl (yd_move rfl) ?_
  refine VL_val rfl rfl rfl (yd_len rfl Try.underlying45) ?_
  refine VL_makeM Value.bool false rfl rfl rfl rfl rfl rfl Try.underlying28 T.e4 rfl rfl (by omega) (by omega) (by omega) hS ?_
  clear hS; intro b5 w hS
  refine VL_val rfl rfl rfl (yd_assign rfl) ?_
  refine VL_nil ?_
  refine VE_then ?_
  refine VC_seq ?_
  refine VC_seq ?_
  refine VC_region ?_
  refine VL_val rfl rfl rfl (yd_move rfl) ?_
  refine VL_val rfl rfl rfl (yd_len rfl Try.underlying45) ?_
  refine VL_val rfl rfl rfl (yd_move rfl) ?_
  refine VL_nil ?_
  refine VE_then ?_
  refine VC_block ?_
  refine VC_loop2 [0, 1, 5, 17] [_, _, _, _] rfl (fun (x : Nat) (sn : List Bool) => [(18, .int .i64 ((x : Nat) : Int))]) (fun (x : Nat) (sn : List Bool) w => x ≤ G.length ∧ sn.length = G.length ∧ (∀ c, c < G.length → (sn[c]! = true ↔ ∃ p, p < x ∧ P c = some p)) ∧ St w0 M0 [blk b5 4 (sn.map Value.bool)] w) (fun (x : Nat) (sn : List Bool) => G.length - x) 0 _ ⟨rfl, trivial⟩ (⟨Nat.zero_le _, List.length_replicate, fun c hc => by rw [get!_replicate _ _ _ hc]; exact ⟨fun h => (by cases h), fun ⟨p, hp, _⟩ => absurd hp (Nat.not_lt_zero _)⟩, hS⟩) ?_
  clear hS; rintro x sn w ⟨hx, hsl, hsn, hS⟩
  refine VC_seq ?_
  refine VC_region ?_
  refine VL_val rfl rfl rfl (yd_lss rfl rfl) ?_
  refine VL_nil ?_
  refine VE_then ?_
  refine VC_seq ?_
  refine VC_cond rfl (fun h19 => ?_) (fun h19 => ?_)
  · replace h19 := of_decide_eq_true h19
    refine VC_skip ?_
    refine VE_then ?_
    refine VC_seq ?_
    refine VC_block ?_
    refine VC_seq ?_
    refine VC_region ?_
    have hxl : x < G.length := by omega
    have hcx := chs_le hg hT x
    refine VL_val rfl rfl rfl (yd_move rfl) ?_
    refine VL_val rfl rfl rfl (yd_assign rfl) ?_
    refine VL_nil ?_
    refine VE_then ?_
    refine VC_seq ?_
    refine VC_region ?_
    refine VL_val rfl rfl rfl (yd_move rfl) ?_
    refine VL_val rfl rfl rfl (yd_move rfl) ?_
    refine VL_call rfl rfl rfl rfl T.call45 rfl (below_ok hg hT hB (hS.keep0 h0) hxl) ?_
    rintro _ w ⟨qb, qc, rfl, hR⟩
    have hS := hS.call0 hR
    refine VL_val rfl rfl rfl (yd_move rfl) ?_
    refine VL_val rfl rfl rfl (yd_extract rfl rfl) ?_
    refine VL_val rfl rfl rfl (yd_extract rfl rfl) ?_
    refine VL_val rfl rfl rfl (yd_assign rfl) ?_
    refine VL_val rfl rfl rfl (yd_assign rfl) ?_
    refine VL_nil ?_
    refine VE_then ?_
    refine VC_seq ?_
    refine VC_seq ?_
    refine VC_region ?_
    refine VL_val rfl rfl rfl (yd_move rfl) ?_
    refine VL_val rfl rfl rfl (yd_not rfl) ?_
    refine VL_nil ?_
    refine VE_then ?_
    refine VC_cond rfl (fun h28 => ?_) (fun h28 => ?_)
    · replace h28 := V.nt h28
      cases h28
    · replace h28 := V.nf h28
      refine VC_skip ?_
      refine VE_then ?_
      refine VC_seq ?_
      refine VC_region ?_
      refine VL_val rfl rfl rfl (yd_move rfl) ?_
      refine VL_val rfl rfl rfl (yd_len rfl Try.underlying24) ?_
      refine VL_val rfl rfl rfl (yd_move rfl) ?_
      refine VL_nil ?_
      refine VE_then ?_
      refine VC_block ?_
      refine VC_loop2 [0, 1, 5, 6, 7, 8, 17, 18, 19, 20, 21, 22, 23, 24, 25, 26, 27, 28, 29, 30] [_, _, _, _, _, _, _, _, _, _, _, _, _, _, _, _, _, _, _, _] rfl (fun (j : Nat) (sn : List Bool) => [(31, .int .i64 ((j : Nat) : Int))]) (fun (j : Nat) (sn : List Bool) w => j ≤ (chs G P x).length ∧ sn.length = G.length ∧ (∀ c, c < G.length → (sn[c]! = true ↔ (∃ p, p < x ∧ P c = some p) ∨ c ∈ (chs G P x).take j)) ∧ St w0 M0 [blk b5 4 (sn.map Value.bool), row (.slice (some ⟨qb, 0, none⟩) (chs G P x).length qc) 3 1 (chs G P x).length ((zL (chs G P x)).map (Value.int .i64))] w) (fun (j : Nat) (sn : List Bool) => (chs G P x).length - j) 0 sn ⟨rfl, trivial⟩ (⟨Nat.zero_le _, hsl, fun c hc => by rw [hsn c hc]; simp, hS⟩) ?_
      clear hS hsn hsl; rintro j sn w ⟨hj, hsl, hsn, hS⟩
      refine VC_seq ?_
      refine VC_region ?_
      refine VL_val rfl rfl rfl (yd_lss rfl rfl) ?_
      refine VL_nil ?_
      refine VE_then ?_
      refine VC_seq ?_
      refine VC_cond rfl (fun h32 => ?_) (fun h32 => ?_)
      · replace h32 := of_decide_eq_true h32
        refine VC_skip ?_
        refine VE_then ?_
        refine VC_seq ?_
        refine VC_block ?_
        refine VC_seq ?_
        refine VC_region ?_
        have hjl : j < (chs G P x).length := by omega
        obtain ⟨c, hc⟩ : ∃ c, c = (chs G P x)[j]! := ⟨_, rfl⟩
        have hcm : c ∈ chs G P x := by rw [hc, getElem!_pos (chs G P x) j hjl]; exact List.getElem_mem _
        have hpc : P c = some x := (mem_chs hT).1 hcm
        have hcn := (hPl c x hpc).1
        have hct := mem_take_lt (chs_nodup hg x) hjl hc
        refine VL_val rfl rfl rfl (yd_index0 rfl rfl Try.underlying24 T.sz3 (by omega)) ?_
        refine VL_val rfl rfl rfl (yd_load rfl T.one3 (show _ = some (.int .i64 ((c : Nat) : Int)) by rw [hc]; exact zl_cell (hS.get 1 rfl) (by omega))) ?_
        refine VL_val rfl rfl rfl (yd_assign rfl) ?_
        refine VL_nil ?_
        refine VE_then ?_
        refine VC_seq ?_
        refine VC_seq ?_
        refine VC_region ?_
        refine VL_val rfl rfl rfl (yd_move rfl) ?_
        refine VL_val rfl rfl rfl (yd_move rfl) ?_
        refine VL_val rfl rfl rfl (yd_index1 rfl rfl Try.underlying24 T.sz3 (by omega)) ?_
        refine VL_val rfl rfl rfl (yd_load rfl T.one3 (hS.cell0 (hcl c (by omega)))) ?_
        refine VL_val rfl rfl rfl (yd_move rfl) ?_
        refine VL_val rfl rfl rfl (yd_neq rfl rfl) ?_
        refine VL_val rfl rfl rfl (yd_move rfl) ?_
        refine VL_split 41 rfl (fun h41 => ?_) (fun h41 => ?_)
        · replace h41 := of_decide_eq_true h41
          exact absurd (by rw [hlP c hcn, hpc]; rfl) h41
        · replace h41 := Decidable.not_not.1 (of_decide_eq_false h41)
          refine VL_yes rfl rfl rfl rfl ?_
          refine VL_val rfl rfl rfl (yd_move rfl) ?_
          refine VL_yes rfl rfl rfl rfl ?_
          refine VL_val rfl rfl rfl (yd_move rfl) ?_
          refine VL_yes rfl rfl rfl rfl ?_
          refine VL_val rfl rfl rfl (yd_index0 rfl rfl Try.underlying28 T.sz4 (by omega)) ?_
          refine VL_yes rfl rfl rfl rfl ?_
          refine VL_val rfl rfl rfl (yd_load rfl T.one4 (blk_cellM (hS.get 0 rfl) (by omega))) ?_
          refine VL_val rfl rfl rfl (yd_pick_f rfl rfl) ?_
          refine VL_nil ?_
          refine VE_then ?_
          refine VC_cond rfl (fun h46 => ?_) (fun h46 => ?_)
          · skip
            exfalso
            rcases (hsn c hcn).1 h46 with ⟨p, hp, hpp⟩ | h
            · rw [hpc] at hpp; cases hpp; omega
            · exact hct h
          · skip
            refine VC_skip ?_
            refine VE_then ?_
            refine VC_region ?_
            refine VL_val rfl rfl rfl (yd_move rfl) ?_
            refine VL_val rfl rfl rfl (yd_move rfl) ?_
            refine VL_val rfl rfl rfl (yd_index0 rfl rfl Try.underlying28 T.sz4 (by omega)) ?_
            refine VL_storeM rfl rfl rfl rfl rfl T.one4 rfl hS 0 rfl (by omega) rfl ?_
            clear hS; intro w hS
            refine VL_nil ?_
            refine VE_block_normal ?_
            refine VE_then ?_
            refine VC_region ?_
            refine VL_val rfl rfl rfl (yd_add rfl rfl ((j + 1 : Nat) : Int) (by rw [wi64 (by omega) (by omega)]; omega)) ?_
            refine VL_val rfl rfl rfl (yd_move rfl) ?_
            refine VL_nil ?_
            refine VE_round2 (j + 1) _ ⟨rfl, rfl, rfl, rfl, rfl, rfl, rfl, rfl, rfl, rfl, rfl, rfl, rfl, rfl, rfl, rfl, rfl, rfl, rfl, rfl, rfl, trivial⟩ ⟨by omega, by simp [hsl], fun d hd => ?_, hS⟩ (by omega)
            rw [get!_set _ _ _ _ (by omega), take_snoc' hjl, ← hc, List.mem_append, List.mem_singleton]
            by_cases e : c = d
            · subst e; rw [if_pos rfl]; simp
            · rw [if_neg e, hsn d hd]
              constructor
              · rintro (h | h)
                · exact .inl h
                · exact .inr (.inl h)
              · rintro (h | h | h)
                · exact .inl h
                · exact .inr h
                · exact absurd h.symm e
      · replace h32 := Int.not_lt.1 (of_decide_eq_false h32)
        refine VC_exit ?_
        refine VE_then_exit (VE_then_exit (VE_block_exit ?_))
        refine VE_block_normal ?_
        refine VE_then ?_
        refine VC_region ?_
        refine VL_val rfl rfl rfl (yd_add rfl rfl ((x + 1 : Nat) : Int) (by rw [wi64 (by omega) (by omega)]; omega)) ?_
        refine VL_val rfl rfl rfl (yd_move rfl) ?_
        refine VL_nil ?_
        obtain rfl : j = (chs G P x).length := by omega
        refine VE_round2 (x + 1) sn ⟨rfl, rfl, rfl, rfl, rfl, trivial⟩ ⟨by omega, hsl, fun d hd => ?_, hS.sub (List.Sublist.cons_cons _ (List.nil_sublist _))⟩ (by omega)
        rw [hsn d hd, List.take_length, mem_chs hT]
        constructor
        · rintro (⟨p, h1, h2⟩ | h)
          · exact ⟨p, by omega, h2⟩
          · exact ⟨x, by omega, h⟩
        · rintro ⟨p, h1, h2⟩
          by_cases e : p = x
          · subst e; exact .inr h2
          · exact .inl ⟨p, by omega, h2⟩
  · replace h19 := Int.not_lt.1 (of_decide_eq_false h19)
    refine VC_exit ?_
    refine VE_then_exit (VE_then_exit (VE_block_exit ?_))
    refine VE_then ?_
    refine VC_seq ?_
    refine VC_seq ?_
    refine VC_region ?_
    obtain rfl : x = G.length := by omega
    refine VL_val rfl rfl rfl (yd_move rfl) ?_
    refine VL_val rfl rfl rfl (yd_len rfl Try.underlying24) ?_
    refine VL_val rfl rfl rfl (yd_move rfl) ?_
    refine VL_nil ?_
    refine VE_then ?_
    refine VC_block ?_
    refine VC_loop1 [5, 52, 53] [_, _, _] rfl (fun (k : Nat) => [(54, .int .i64 ((k : Nat) : Int))]) (fun (k : Nat) w => k ≤ G.length ∧ St w0 M0 [blk b5 4 (sn.map Value.bool)] w) (fun (k : Nat) => G.length - k) 0 ⟨rfl, trivial⟩ (⟨Nat.zero_le _, hS⟩) ?_
    clear hS; rintro k w ⟨hk, hS⟩
    refine VC_seq ?_
    refine VC_region ?_
    refine VL_val rfl rfl rfl (yd_lss rfl rfl) ?_
    refine VL_nil ?_
    refine VE_then ?_
    refine VC_seq ?_
    refine VC_cond rfl (fun h55 => ?_) (fun h55 => ?_)
    · replace h55 := of_decide_eq_true h55
      refine VC_skip ?_
      refine VE_then ?_
      refine VC_seq ?_
      refine VC_block ?_
      refine VC_seq ?_
      refine VC_region ?_
      have hkl : k < G.length := by omega
      refine VL_val rfl rfl rfl (yd_move rfl) ?_
      refine VL_val rfl rfl rfl (yd_index1 rfl rfl Try.underlying24 T.sz3 (by omega)) ?_
      refine VL_val rfl rfl rfl (yd_load rfl T.one3 (hS.cell0 (hcl k (by omega)))) ?_
      refine VL_val rfl rfl rfl (yd_assign rfl) ?_
      refine VL_val rfl rfl rfl (yd_assign rfl) ?_
      refine VL_nil ?_
      refine VE_then ?_
      refine VC_seq ?_
      refine VC_region ?_
      refine VL_val rfl rfl rfl (yd_move rfl) ?_
      refine VL_val rfl rfl rfl (yd_geq rfl rfl) ?_
      refine VL_val rfl rfl rfl (yd_move rfl) ?_
      refine VL_split 61 rfl (fun h61 => ?_) (fun h61 => ?_)
      · replace h61 := of_decide_eq_true h61
        rw [hlP k hkl] at h61
        obtain ⟨p, hp⟩ := nO_ge h61
        have hs := (hsn k hkl).2 ⟨p, (hPl k p hp).2, hp⟩
        refine VL_yes rfl rfl rfl rfl ?_
        refine VL_val rfl rfl rfl (yd_move rfl) ?_
        refine VL_yes rfl rfl rfl rfl ?_
        refine VL_val rfl rfl rfl (yd_move rfl) ?_
        refine VL_yes rfl rfl rfl rfl ?_
        refine VL_val rfl rfl rfl (yd_index0 rfl rfl Try.underlying28 T.sz4 (by omega)) ?_
        refine VL_yes rfl rfl rfl rfl ?_
        refine VL_val rfl rfl rfl (yd_load rfl T.one4 (blk_cellM (hS.get 0 rfl) (by omega))) ?_
        refine VL_yes rfl rfl rfl rfl ?_
        refine VL_val rfl rfl rfl (yd_not rfl) ?_
        refine VL_val rfl rfl rfl (yd_pick_t rfl rfl) ?_
        refine VL_nil ?_
        refine VE_then ?_
        refine VC_cond rfl (fun h67 => ?_) (fun h67 => ?_)
        · replace h67 := V.nt h67
          rw [hs] at h67; cases h67
        · replace h67 := V.nf h67
          refine VC_skip ?_
          refine VE_block_normal ?_
          refine VE_then ?_
          refine VC_region ?_
          refine VL_val rfl rfl rfl (yd_add rfl rfl ((k + 1 : Nat) : Int) (by rw [wi64 (by omega) (by omega)]; omega)) ?_
          refine VL_val rfl rfl rfl (yd_move rfl) ?_
          refine VL_nil ?_
          exact VE_round1 (k + 1) ⟨rfl, rfl, rfl, rfl, trivial⟩ ⟨by omega, hS⟩ (by omega)
      · replace h61 := Int.not_le.1 (of_decide_eq_false h61)
        refine VL_no rfl rfl rfl rfl rfl rfl rfl ?_
        refine VL_no rfl rfl rfl rfl rfl rfl rfl ?_
        refine VL_no rfl rfl rfl rfl rfl rfl rfl ?_
        refine VL_no rfl rfl rfl rfl rfl rfl rfl ?_
        refine VL_no rfl rfl rfl rfl rfl rfl rfl ?_
        refine VL_val rfl rfl rfl (yd_pick_f rfl rfl) ?_
        refine VL_nil ?_
        refine VE_then ?_
        refine VC_cond_f rfl ?_
        refine VC_skip ?_
        refine VE_block_normal ?_
        refine VE_then ?_
        refine VC_region ?_
        refine VL_val rfl rfl rfl (yd_add rfl rfl ((k + 1 : Nat) : Int) (by rw [wi64 (by omega) (by omega)]; omega)) ?_
        refine VL_val rfl rfl rfl (yd_move rfl) ?_
        refine VL_nil ?_
        exact VE_round1 (k + 1) ⟨rfl, rfl, rfl, rfl, trivial⟩ ⟨by omega, hS⟩ (by omega)
    · replace h55 := Int.not_lt.1 (of_decide_eq_false h55)
      refine VC_exit ?_
      refine VE_then_exit (VE_then_exit (VE_block_exit ?_))
      refine VE_then ?_
      refine VC_seq ?_
      refine VC_region ?_
      refine VL_val rfl rfl rfl (yd_assign rfl) ?_
      refine VL_nil ?_
      refine VE_then ?_
      refine VC_ret ?_
      refine VE_ret1 (rfl) rfl ?_
      exact ⟨rfl, hS.sub (List.nil_sublist _)⟩

end Go.Proofs.Ytmoooaaiohplhaa
