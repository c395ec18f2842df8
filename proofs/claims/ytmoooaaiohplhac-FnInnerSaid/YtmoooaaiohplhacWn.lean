/- Lengauer and Tarjan: dfsOrig. -/
import Derived.Test.YtmoooaaiohplhacWm
namespace Go.Proofs.Ytmoooaaiohplhac
open Go Go.V
set_option linter.unusedVariables false
set_option maxRecDepth 100000



open Go.PL
def stkP (f : FRep) (l : List (Nat × Nat)) : List Value := l.reverse.map fun e => ptr (f.bb e.1)
theorem stkP_cons (f : FRep) (e : Nat × Nat) (l : List (Nat × Nat)) : stkP f (e :: l) = stkP f l ++ [ptr (f.bb e.1)] := by simp [stkP]
theorem stkP_len (f : FRep) (l : List (Nat × Nat)) : (stkP f l).length = l.length := by simp [stkP]
theorem stkP_take (f : FRep) (e : Nat × Nat) (l : List (Nat × Nat)) : (stkP f (e :: l)).take (l.length * 1) = stkP f l := by
  rw [stkP_cons, List.take_append_of_le_length (by rw [stkP_len]; omega), List.take_of_length_le (by rw [stkP_len]; omega)]
/-- The arrays of the search. -/
structure ZD (n : Nat) (Z : List Nat) (vs : List Nat) (pr : Nat → Nat) (stk : List (Nat × Nat)) : Prop where
  len : Z.length = 7 * (n + 1)
  sem : ∀ x, x < n → Z[x + 1]! = nuL vs x
  ver : ∀ i, i < vs.length → Z[1 * (n + 1) + (i + 1)]! = vs[i]! + 1
  lab : ∀ x, x < n → x ∈ vs → Z[2 * (n + 1) + (x + 1)]! = x + 1
  par : ∀ x, x < n → x ≠ 0 → x ∈ vs → Z[3 * (n + 1) + (x + 1)]! = pr x + 1
  pst : ∀ e ∈ stk, e.1 < n → e.1 ≠ 0 → Z[3 * (n + 1) + (e.1 + 1)]! = pr e.1 + 1
  z4 : ∀ i, i < n + 1 → Z[4 * (n + 1) + i]! = 0
  z5 : ∀ i, i < n + 1 → Z[5 * (n + 1) + i]! = 0
  z6 : ∀ i, i < n + 1 → Z[6 * (n + 1) + i]! = 0
section
variable {n : Nat} {Z vs : List Nat} {pr : Nat → Nat} {stk rest : List (Nat × Nat)}
theorem zd_init (n : Nat) (pr : Nat → Nat) : ZD n (List.replicate (7 * (n + 1)) 0) [] pr [(0, 0)] := by
  refine ⟨by simp, fun x hx => ?_, fun i hi => by simp at hi, fun x _ hx => by simp at hx, fun x _ _ hx => by simp at hx, fun e he _ h0 => ?_, fun i hi => get!_replicate _ _ _ (by omega), fun i hi => get!_replicate _ _ _ (by omega), fun i hi => get!_replicate _ _ _ (by omega)⟩
  · rw [get!_replicate _ _ _ (by omega), nuL_zero (by simp)]
  · rw [List.mem_singleton.1 he] at h0; exact absurd rfl h0
theorem ZD.sub {e : Nat × Nat} (h : ZD n Z vs pr (e :: rest)) : ZD n Z vs pr rest := ⟨h.len, h.sem, h.ver, h.lab, h.par, fun e he => h.pst e (by simp [he]), h.z4, h.z5, h.z6⟩
theorem ZD.num {v p : Nat} (h : ZD n Z vs pr ((v, p) :: rest)) (hv : v < n) (hn : v ∉ vs) (hl : vs.length < n) :
    ZD n (((Z.set (v + 1) (vs.length + 1)).set (1 * (n + 1) + (vs.length + 1)) (v + 1)).set (2 * (n + 1) + (v + 1)) (v + 1)) (vs ++ [v]) pr rest := by
  have hz := h.len
  refine ⟨by simp [hz], fun x hx => ?_, fun i hi => ?_, fun x hx hm => ?_, fun x hx h0 hm => ?_, fun e he hx h0 => ?_, fun i hi => ?_, fun i hi => ?_, fun i hi => ?_⟩
  · rw [get!_set_ne _ _ (by omega), get!_set_ne _ _ (by omega), nuL_snoc hn]
    by_cases e : x = v
    · subst e; rw [get!_set_self _ _ _ (by omega), if_pos rfl]
    · rw [get!_set_ne _ _ (by omega), if_neg e]; exact h.sem x hx
  · rw [List.length_append, List.length_singleton] at hi
    rw [get!_set_ne _ _ (by omega)]
    by_cases e : i = vs.length
    · subst e; rw [get!_set_self _ _ _ (by rw [List.length_set]; omega), get!_append_len]
    · rw [get!_set_ne _ _ (by omega), get!_set_ne _ _ (by omega), get!_append_left (by omega)]; exact h.ver i (by omega)
  · by_cases e : x = v
    · subst e; rw [get!_set_self _ _ _ (by rw [List.length_set, List.length_set]; omega)]
    · rw [get!_set_ne _ _ (by omega), get!_set_ne _ _ (by omega), get!_set_ne _ _ (by omega)]
      rcases List.mem_append.1 hm with hm | hm
      · exact h.lab x hx hm
      · exact absurd (List.mem_singleton.1 hm) e
  · rw [get!_set_ne _ _ (by omega), get!_set_ne _ _ (by omega), get!_set_ne _ _ (by omega)]
    rcases List.mem_append.1 hm with hm | hm
    · exact h.par x hx h0 hm
    · have e := List.mem_singleton.1 hm
      subst e; exact h.pst (x, p) (by simp) hx h0
  · rw [get!_set_ne _ _ (by omega), get!_set_ne _ _ (by omega), get!_set_ne _ _ (by omega)]; exact h.pst e (by simp [he]) hx h0
  · rw [get!_set_ne _ _ (by omega), get!_set_ne _ _ (by omega), get!_set_ne _ _ (by omega)]; exact h.z4 i hi
  · rw [get!_set_ne _ _ (by omega), get!_set_ne _ _ (by omega), get!_set_ne _ _ (by omega)]; exact h.z5 i hi
  · rw [get!_set_ne _ _ (by omega), get!_set_ne _ _ (by omega), get!_set_ne _ _ (by omega)]; exact h.z6 i hi
theorem ZD.push {y v : Nat} (h : ZD n Z vs pr stk) (hy : y < n) (hn : y ∉ vs) (hl : vs.length ≤ n) : ZD n (Z.set (3 * (n + 1) + (y + 1)) (v + 1)) vs (pset pr y v) ((y, v) :: stk) := by
  have hz := h.len
  refine ⟨by simp [hz], fun x hx => by rw [get!_set_ne _ _ (by omega)]; exact h.sem x hx, fun i hi => ?_, fun x hx hm => by rw [get!_set_ne _ _ (by omega)]; exact h.lab x hx hm, fun x hx h0 hm => ?_, fun e he hx h0 => ?_, fun i hi => ?_, fun i hi => ?_, fun i hi => ?_⟩
  · rw [get!_set_ne _ _ (by omega)]; exact h.ver i hi
  · have hxy : x ≠ y := fun e => hn (by rw [← e]; exact hm)
    rw [get!_set_ne _ _ (by omega), pset_ne _ _ hxy]; exact h.par x hx h0 hm
  · by_cases c : e.1 = y
    · rw [c, get!_set_self _ _ _ (by omega), pset_same]
    · rw [get!_set_ne _ _ (by omega), pset_ne _ _ c]
      rcases List.mem_cons.1 he with rfl | he
      · exact absurd rfl c
      · exact h.pst e he hx h0
  · rw [get!_set_ne _ _ (by omega)]; exact h.z4 i hi
  · rw [get!_set_ne _ _ (by omega)]; exact h.z5 i hi
  · rw [get!_set_ne _ _ (by omega)]; exact h.z6 i hi
end
def Nop : Nat → Nat → Prop := fun _ _ => False
def Pj (G : Graph) (v j : Nat) : Nat → Nat → Prop := fun u w => u = v ∧ ∃ i, j ≤ i ∧ i < G[v]!.length ∧ G[v]![i]! = w
/-- The state ahead of a round: at the start, or under way. -/
def DS0 (G : Graph) (vs : List Nat) (pr : Nat → Nat) (stk : List (Nat × Nat)) : Prop := DI G vs pr stk Nop ∨ (vs = [] ∧ stk = [(0, 0)])
theorem ds_num {G : Graph} (hg : Gd G) {vs : List Nat} {pr : Nat → Nat} {v p : Nat} {rest : List (Nat × Nat)} (h : DS0 G vs pr ((v, p) :: rest)) (hv : v ∉ vs) : DI G (vs ++ [v]) pr rest (Pj G v 0) := by
  have hw : ∀ u w, (u = v ∧ Ed G v w) → Pj G v 0 u w := fun u w ⟨e, ed⟩ => by
    obtain ⟨i, hi, e2⟩ := ed.idx; exact ⟨e, i, Nat.zero_le _, hi, e2⟩
  rcases h with h | ⟨rfl, h⟩
  · exact (h.num hg hv).weaken (fun u w _ hp => .inr (hw u w hp))
  · cases h
    exact (DI.first hg pr).weaken (fun u w _ hp => .inr (hw u w hp))
theorem ds_lt {G : Graph} (hg : Gd G) {vs : List Nat} {pr : Nat → Nat} {v p : Nat} {rest : List (Nat × Nat)} (h : DS0 G vs pr ((v, p) :: rest)) : v < G.length := by
  rcases h with h | ⟨_, h⟩
  · exact (h.stk1 (v, p) (by simp)).2.lt hg
  · cases h; exact hg.pos

set_option maxHeartbeats 1000000 in
theorem dfs_ok {w0 : World} {f : FRep} {G : Graph} (hF : (funcR f G).holds w0) (hg : Gd G) {bs c0 c1 c2 c3 : Nat} (hb : (blk bs 90 ((List.replicate (7 * (G.length + 1)) 0).map iN)).holds w0) (hM : ∀ b, (funcR f G).fp b → b ≠ bs) : Calls Try.prog 74 #[ptr f.bf, ptr (f.bb 0), arr0 bs G.length c0, arr bs G.length 1 c1, arr bs G.length 2 c2, arr bs G.length 3 c3] w0 (Ret fun u w' => ∃ Z vs pr, u = iN vs.length ∧ DI G vs pr [] Nop ∧ ZD G.length Z vs pr [] ∧ St w0 (blk bs 90 ((List.replicate (7 * (G.length + 1)) 0).map iN)).fp [blk bs 90 (Z.map iN)] w') := by
  have hA := funcAt hF
  have hle := hg.le
  have hpos := hg.pos
  have hS := St.start hb
  refine V_enter (N := 107) Try.func74 rfl Try.ntmps74 rfl ?_
  refine VC.sub (τ := [(0, _), (1, _), (2, _), (3, _), (4, _), (5, _)]) ⟨rfl, rfl, rfl, rfl, rfl, rfl, trivial⟩ ?_
  refine VC_seq ?_
  refine VC_region ?_
  refine VL_val rfl rfl rfl (yd_assign rfl) ?_
  refine VL_nil ?_
  refine VE_then ?_
  refine VC_seq ?_
  refine VC_region ?_
  refine VL_val rfl rfl rfl (yd_assign rfl) ?_
  refine VL_nil ?_
  refine VE_then ?_
  refine VC_seq ?_
  refine VC_region ?_
  refine VL_make (l := 0) (c := 256) rfl rfl rfl rfl rfl rfl Try.underlying72 T.e82 (by omega) (by omega) (by omega) hS ?_
  clear hS; intro b19 w hS
  have hS := hS.mkrow 1 (c := 256) (sz := 1) rfl (by rw [Array.length_toList, size_madeCells]) (by omega)
  refine VL_val rfl rfl rfl (yd_assign rfl) ?_
  refine VL_nil ?_
  refine VE_then ?_
  refine VC_seq ?_
  refine VC_region ?_
  refine VL_val rfl rfl rfl (yd_move rfl) ?_
  refine VL_val rfl rfl rfl (yd_move rfl) ?_
  refine VL_rel rfl rfl rfl (yr_bslice rfl Try.underlying72 T.e82 rfl (by decide) (by decide) hS) ?_
  clear hS; rintro _ w ⟨b22, rfl, hS⟩
  refine VL_rel rfl rfl rfl (yr_append rfl rfl Try.underlying72 T.e82 rfl (by decide) hS 1 rfl (hS.get 2 rfl) rfl (fun u hu => by cases List.mem_singleton.1 (show u ∈ [ptr (f.bb 0)] from hu); rfl) (by omega) (by omega)) ?_
  clear hS; rintro v23 w ⟨hS, hnil⟩
  obtain ⟨sb0, sc0, rfl, hsc0⟩ := row_form (hS.get 1 rfl) (.inr (by omega))
  have hS := hS.sub (η' := _) (List.take_sublist 2 _)
  refine VL_val rfl rfl rfl (yd_assign rfl) ?_
  refine VL_nil ?_
  refine VE_then ?_
  refine VC_seq ?_
  refine VC_block ?_
  refine VC_loop6 [2, 3, 4, 5, 12] [_, _, _, _, _] rfl (fun (stk : List (Nat × Nat)) (vs : List Nat) (pr : Nat → Nat) (Z : List Nat) (sb : Nat) (sc : Nat) => [(14, .slice (some ⟨sb, 0, none⟩) stk.length sc), (13, .int .i32 ((vs.length : Nat) : Int))]) (fun (stk : List (Nat × Nat)) (vs : List Nat) (pr : Nat → Nat) (Z : List Nat) (sb : Nat) (sc : Nat) w => DS0 G vs pr stk ∧ vs.length ≤ G.length ∧ stk.length ≤ 60 ∧ stk.length ≤ 4 * vs.length + 1 ∧ ZD G.length Z vs pr stk ∧ St w0 (blk bs 90 ((List.replicate (7 * (G.length + 1)) 0).map iN)).fp [blk bs 90 (Z.map iN), row (.slice (some ⟨sb, 0, none⟩) stk.length sc) 82 1 stk.length (stkP f stk)] w) (fun (stk : List (Nat × Nat)) (vs : List Nat) (pr : Nat → Nat) (Z : List Nat) (sb : Nat) (sc : Nat) => 5 * (13 - vs.length) + stk.length) [(0, 0)] [] (fun _ => 0) _ _ _ ⟨rfl, rfl, trivial⟩ (⟨.inr ⟨rfl, rfl⟩, Nat.zero_le _, by simp, by simp, zd_init _ _, hS⟩) ?_
  clear hS; rintro stk vs pr Z sb sc w ⟨hD, hvl, hsl, hsl2, hz, hS⟩
  have hZ := hz.len
  refine VC_seq ?_
  refine VC_seq ?_
  refine VC_region ?_
  refine VL_val rfl rfl rfl (yd_move rfl) ?_
  refine VL_val rfl rfl rfl (yd_len rfl Try.underlying72) ?_
  refine VL_val rfl rfl rfl (yd_gtr rfl rfl) ?_
  refine VL_nil ?_
  refine VE_then ?_
  refine VC_cond rfl (fun h26 => ?_) (fun h26 => ?_)
  · replace h26 := of_decide_eq_true h26
    obtain ⟨⟨v, p⟩, rest, rfl⟩ := List.exists_cons_of_length_pos (show 0 < stk.length by omega)
    have hv := ds_lt hg hD
    have hcsl := row_le (hS.get 1 rfl)
    simp only [List.length_cons] at hsl hsl2
    refine VC_skip ?_
    refine VE_then ?_
    refine VC_block ?_
    refine VC_seq ?_
    refine VC_region ?_
    refine VL_val rfl rfl rfl (yd_move rfl) ?_
    refine VL_val rfl rfl rfl (yd_move rfl) ?_
    refine VL_val rfl rfl rfl (yd_len rfl Try.underlying72) ?_
    refine VL_val rfl rfl rfl (yd_sub rfl rfl _ (wi_sub1 (by omega))) ?_
    refine VL_val rfl rfl rfl (yd_index0 rfl rfl Try.underlying72 T.sz82 (Nat.lt_succ_self _)) ?_
    refine VL_val rfl rfl rfl (yd_load rfl T.one82 (row_cell (hS.get 1 rfl) (u := ptr (f.bb v)) (by rw [stkP_cons, ← stkP_len f rest]; simp))) ?_
    refine VL_val rfl rfl rfl (yd_assign rfl) ?_
    refine VL_nil ?_
    refine VE_then ?_
    refine VC_seq ?_
    refine VC_region ?_
    refine VL_val rfl rfl rfl (yd_move rfl) ?_
    refine VL_val rfl rfl rfl (yd_move rfl) ?_
    refine VL_val rfl rfl rfl (yd_len rfl Try.underlying72) ?_
    refine VL_val rfl rfl rfl (yd_sub rfl rfl _ (wi_sub1 (by omega))) ?_
    refine VL_val rfl rfl rfl (yd_slice_hi rfl rfl Try.underlying72 ⟨_, T.sz82⟩ (show rest.length ≤ sc from by simp only [List.length_cons] at hcsl; omega)) ?_
    have hS := hS.pop 1 (m := rest.length) rfl (Nat.le_succ _)
    rw [stkP_take] at hS
    refine VL_val rfl rfl rfl (yd_assign rfl) ?_
    refine VL_nil ?_
    refine VE_then ?_
    refine VC_seq ?_
    refine VC_seq ?_
    refine VC_region ?_
    refine VL_val rfl rfl rfl (yd_move rfl) ?_
    refine VL_val rfl rfl rfl (yd_move rfl) ?_
    refine VL_val rfl rfl rfl (yd_nilc rfl) ?_
    refine VL_val rfl rfl rfl (yd_field rfl T.fld93_0) ?_
    refine VL_val rfl rfl rfl (yd_load rfl T.one90 (hS.cell (hA.id v hv) (hM _ (fp_bb hv)))) ?_
    refine VL_val rfl rfl rfl (yd_index0 rfl rfl Try.underlying118 T.sz90 (by omega)) ?_
    refine VL_val rfl rfl rfl (yd_load rfl T.one90 (zc (hS.get 0 rfl) (by omega) (hz.sem v hv))) ?_
    refine VL_val rfl rfl rfl (yd_neq rfl rfl) ?_
    refine VL_nil ?_
    refine VE_then ?_
    refine VC_cond rfl (fun h45 => ?_) (fun h45 => ?_)
    · replace h45 := of_decide_eq_true h45
      have hvm : v ∈ vs := nuL_ne.1 (by omega)
      refine VC_exit ?_
      refine VE_then_exit (VE_block_exit ?_)
      exact VE_round6 rest vs pr Z sb sc ⟨rfl, rfl, rfl, rfl, rfl, rfl, rfl, trivial⟩ ⟨by rcases hD with hD | ⟨rfl, _⟩; exact .inl (hD.popv hvm); simp at hvm, hvl, by omega, by omega, hz.sub, hS⟩ (by simp only [List.length_cons]; omega)
    · replace h45 := Decidable.not_not.1 (of_decide_eq_false h45)
      have hvm : v ∉ vs := fun hm => nuL_ne.2 hm (by omega)
      have hD1 := ds_num hg hD hvm
      have hl1 := hD1.len
      simp only [List.length_append, List.length_singleton] at hl1
      obtain ⟨ua, uc, ub, hsuc, hua, hucs, hufp⟩ := hA.suc v hv
      have hr4 := hg.row v hv
      refine VC_skip ?_
      refine VE_then ?_
      refine VC_seq ?_
      refine VC_region ?_
      refine VL_val rfl rfl rfl (yd_move rfl) ?_
      refine VL_val rfl rfl rfl (yd_add rfl rfl ((vs.length + 1 : Nat) : Int) (by rw [wi32 (by omega) (by omega)]; omega)) ?_
      refine VL_val rfl rfl rfl (yd_assign rfl) ?_
      refine VL_nil ?_
      refine VE_then ?_
      refine VC_seq ?_
      refine VC_region ?_
      refine VL_val rfl rfl rfl (yd_move rfl) ?_
      refine VL_val rfl rfl rfl (yd_move rfl) ?_
      refine VL_val rfl rfl rfl (yd_nilc rfl) ?_
      refine VL_val rfl rfl rfl (yd_field rfl T.fld93_0) ?_
      refine VL_val rfl rfl rfl (yd_load rfl T.one90 (hS.cell (hA.id v hv) (hM _ (fp_bb hv)))) ?_
      refine VL_val rfl rfl rfl (yd_move rfl) ?_
      refine VL_val rfl rfl rfl (yd_index0 rfl rfl Try.underlying118 T.sz90 (by omega)) ?_
      refine VL_storeM (f := iN) (v := vs.length + 1) rfl rfl rfl rfl rfl T.one90 rfl hS 0 rfl (by omega) rfl ?_
      clear hS; intro w hS
      refine VL_nil ?_
      refine VE_then ?_
      refine VC_seq ?_
      refine VC_region ?_
      refine VL_val rfl rfl rfl (yd_move rfl) ?_
      refine VL_val rfl rfl rfl (yd_move rfl) ?_
      refine VL_val rfl rfl rfl (yd_move rfl) ?_
      refine VL_val rfl rfl rfl (yd_nilc rfl) ?_
      refine VL_val rfl rfl rfl (yd_field rfl T.fld93_0) ?_
      refine VL_val rfl rfl rfl (yd_load rfl T.one90 (hS.cell (hA.id v hv) (hM _ (fp_bb hv)))) ?_
      refine VL_val rfl rfl rfl (yd_index1 rfl rfl Try.underlying118 T.sz90 (by omega)) ?_
      refine VL_storeM (f := iN) (v := v + 1) rfl rfl rfl rfl rfl T.one90 rfl hS 0 rfl (by rw [List.length_set]; omega) rfl ?_
      clear hS; intro w hS
      refine VL_nil ?_
      refine VE_then ?_
      refine VC_seq ?_
      refine VC_drawS (fun w => w.cell? ⟨f.bb v, 0, none⟩ = some (.int .i32 ((v + 1 : Nat) : Int))) T.mixed hS ?_
      clear hS; intro w hS
      refine VA_take (i := 0) rfl rfl rfl rfl (by kernel_rfl) (by kernel_rfl) (by kernel_rfl) #[true, false, false, false, false, false, false, false, false, false, false] (by kernel_rfl) (fun _ _ _ _ h => h) (fun w hC => yd_move rfl) ?_
      refine VA_take (i := 1) rfl rfl rfl rfl (by kernel_rfl) (by kernel_rfl) (by kernel_rfl) #[true, true, false, false, false, false, false, false, false, false, false] (by kernel_rfl) (fun _ _ _ _ h => h) (fun w hC => yd_move rfl) ?_
      refine VA_take (i := 2) rfl rfl rfl rfl (by kernel_rfl) (by kernel_rfl) (by kernel_rfl) #[true, true, true, false, false, false, false, false, false, false, false] (by kernel_rfl) (fun _ _ _ _ h => h) (fun w hC => yd_nilc rfl) ?_
      refine VA_take (i := 3) rfl rfl rfl rfl (by kernel_rfl) (by kernel_rfl) (by kernel_rfl) #[true, true, true, true, false, false, false, false, false, false, false] (by kernel_rfl) (fun _ _ _ _ h => h) (fun w hC => yd_field rfl T.fld93_0) ?_
      refine VA_take (i := 4) rfl rfl rfl rfl (by kernel_rfl) (by kernel_rfl) (by kernel_rfl) #[true, true, true, true, true, false, false, false, false, false, false] (by kernel_rfl) (fun _ _ _ _ h => h) (fun w hC => yd_load rfl T.one90 hC) ?_
      refine VA_take (i := 5) rfl rfl rfl rfl (by kernel_rfl) (by kernel_rfl) (by kernel_rfl) #[true, true, true, true, true, true, false, false, false, false, false] (by kernel_rfl) (fun _ _ _ _ h => h) (fun w hC => yd_move rfl) ?_
      refine VA_take (i := 6) rfl rfl rfl rfl (by kernel_rfl) (by kernel_rfl) (by kernel_rfl) #[true, true, true, true, true, true, true, false, false, false, false] (by kernel_rfl) (fun _ _ _ _ h => h) (fun w hC => yd_nilc rfl) ?_
      refine VA_take (i := 7) rfl rfl rfl rfl (by kernel_rfl) (by kernel_rfl) (by kernel_rfl) #[true, true, true, true, true, true, true, true, false, false, false] (by kernel_rfl) (fun _ _ _ _ h => h) (fun w hC => yd_field rfl T.fld93_0) ?_
      refine VA_take (i := 8) rfl rfl rfl rfl (by kernel_rfl) (by kernel_rfl) (by kernel_rfl) #[true, true, true, true, true, true, true, true, true, false, false] (by kernel_rfl) (fun _ _ _ _ h => h) (fun w hC => yd_load rfl T.one90 hC) ?_
      refine VA_take (i := 9) rfl rfl rfl rfl (by kernel_rfl) (by kernel_rfl) (by kernel_rfl) #[true, true, true, true, true, true, true, true, true, true, false] (by kernel_rfl) (fun _ _ _ _ h => h) (fun w hC => yd_index1 rfl rfl Try.underlying118 T.sz90 (by omega)) ?_
      refine VA_only (i := 10) (by kernel_rfl) (hS.cell (hA.id v hv) (hM _ (fp_bb hv))) ?_
      refine VS_store rfl (wanted_none rfl) #[true, true, true, true, true, true, true, true, true, true, true] (by kernel_rfl) rfl rfl rfl rfl T.one90 rfl hS 0 rfl (by rw [List.length_map, List.length_set, List.length_set]; omega) ?_
      clear hS; intro w hS
      have hz1 := hz.num hv hvm (by omega)
      obtain ⟨Z1, eZ1⟩ : ∃ Z1, Z1 = (((Z.set (v + 1) (vs.length + 1)).set (1 * (G.length + 1) + (vs.length + 1)) (v + 1)).set (2 * (G.length + 1) + (v + 1)) (v + 1)) := ⟨_, rfl⟩
      have hS : St w0 (blk bs 90 ((List.replicate (7 * (G.length + 1)) 0).map iN)).fp [blk bs 90 (Z1.map iN), row (.slice (some ⟨sb, 0, none⟩) rest.length sc) 82 1 rest.length (stkP f rest)] w := by rw [eZ1, List.map_set]; exact hS
      rw [← eZ1] at hz1
      clear eZ1
      refine VA_done (by kernel_rfl) (hS.cell (hA.id v hv) (hM _ (fp_bb hv))) ?_
      refine VE_then ?_
      refine VC_seq ?_
      refine VC_region ?_
      refine VL_val rfl rfl rfl (yd_move rfl) ?_
      refine VL_val rfl rfl rfl (yd_nilc rfl) ?_
      refine VL_val rfl rfl rfl (yd_field rfl T.fld93_1) ?_
      refine VL_val rfl rfl rfl (yd_load rfl T.one91 (hS.cell (hsuc) (hM _ (fp_bb hv)))) ?_
      refine VL_val rfl rfl rfl (yd_len rfl Try.underlying91) ?_
      refine VL_val rfl rfl rfl (yd_move rfl) ?_
      refine VL_nil ?_
      refine VE_then ?_
      refine VC_block ?_
      refine VC_loop6 [2, 3, 4, 5, 12, 13, 15, 24, 25, 26, 27, 28, 29, 30, 31, 32, 33, 34, 35, 36, 37, 38, 39, 40, 41, 42, 43, 44, 45, 46, 47, 48, 49, 50, 51, 52, 53, 54, 55, 56, 57, 58, 59, 60, 61, 62, 63, 64, 65, 66, 67, 68, 69, 70, 71, 72, 73, 74, 75, 76] [_, _, _, _, _, _, _, _, _, _, _, _, _, _, _, _, _, _, _, _, _, _, _, _, _, _, _, _, _, _, _, _, _, _, _, _, _, _, _, _, _, _, _, _, _, _, _, _, _, _, _, _, _, _, _, _, _, _, _, _] rfl (fun (j : Nat) (stk : List (Nat × Nat)) (pr : Nat → Nat) (Z : List Nat) (sb : Nat) (sc : Nat) => [(77, .int .i64 ((j : Nat) : Int)), (14, .slice (some ⟨sb, 0, none⟩) stk.length sc)]) (fun (j : Nat) (stk : List (Nat × Nat)) (pr : Nat → Nat) (Z : List Nat) (sb : Nat) (sc : Nat) w => j ≤ G[v]!.length ∧ DI G (vs ++ [v]) pr stk (Pj G v j) ∧ stk.length ≤ rest.length + j ∧ ZD G.length Z (vs ++ [v]) pr stk ∧ St w0 (blk bs 90 ((List.replicate (7 * (G.length + 1)) 0).map iN)).fp [blk bs 90 (Z.map iN), row (.slice (some ⟨sb, 0, none⟩) stk.length sc) 82 1 stk.length (stkP f stk)] w) (fun (j : Nat) (stk : List (Nat × Nat)) (pr : Nat → Nat) (Z : List Nat) (sb : Nat) (sc : Nat) => G[v]!.length - j) 0 rest pr Z1 sb sc ⟨rfl, rfl, trivial⟩ (⟨Nat.zero_le _, hD1, Nat.le_refl _, hz1, hS⟩) ?_
      clear hS hz1 hD1 hz hD; rintro j stk pr Z sb sc w ⟨hj, hD, hsr, hz, hS⟩
      have hZ := hz.len
      refine VC_seq ?_
      refine VC_region ?_
      refine VL_val rfl rfl rfl (yd_lss rfl rfl) ?_
      refine VL_nil ?_
      refine VE_then ?_
      refine VC_seq ?_
      refine VC_cond rfl (fun h78 => ?_) (fun h78 => ?_)
      · replace h78 := of_decide_eq_true h78
        refine VC_skip ?_
        refine VE_then ?_
        refine VC_seq ?_
        refine VC_block ?_
        refine VC_seq ?_
        refine VC_region ?_
        obtain rfl := hua (by omega)
        have hlt := hg.lt v hv j (by omega)
        have hed : Ed G v G[v]![j]! := Ed.get hv (by omega)
        obtain ⟨y, hy⟩ : ∃ y, y = G[v]![j]! := ⟨_, rfl⟩
        have hcy := hucs j (by omega)
        rw [← hy] at hlt hed hcy
        refine VL_val rfl rfl rfl (yd_index0 rfl rfl Try.underlying91 T.sz96 (by omega)) ?_
        refine VL_val rfl rfl rfl (yd_loadn [ptr (f.bb y)] rfl T.agg96 (one_cell (hS.cell hcy (hM _ (hufp (by omega)))))) ?_
        refine VL_alloc rfl rfl rfl rfl T.e96 hS ?_
        clear hS; intro b17 w hS
        refine VL_storeN (cs := [ptr (f.bb y)]) rfl rfl rfl rfl rfl T.agg96 (by intro u hu; cases List.mem_singleton.1 hu; rfl) hS 2 rfl (by simp [Value.cells]) ?_
        clear hS; intro w hS
        refine VL_nil ?_
        refine VE_then ?_
        refine VC_seq ?_
        refine VC_region ?_
        refine VL_val rfl rfl rfl (yd_field rfl T.fld96_0) ?_
        refine VL_val rfl rfl rfl (yd_load rfl T.one82 (blk_cell (hS.get 2 rfl) rfl)) ?_
        refine VL_val rfl rfl rfl (yd_assign rfl) ?_
        refine VL_nil ?_
        have hS := hS.sub (η' := _) (List.take_sublist 2 _)
        refine VE_then ?_
        refine VC_seq ?_
        refine VC_region ?_
        refine VL_val rfl rfl rfl (yd_move rfl) ?_
        refine VL_val rfl rfl rfl (yd_move rfl) ?_
        refine VL_val rfl rfl rfl (yd_nilc rfl) ?_
        refine VL_val rfl rfl rfl (yd_field rfl T.fld93_0) ?_
        refine VL_val rfl rfl rfl (yd_load rfl T.one90 (hS.cell (hA.id y hlt) (hM _ (fp_bb hlt)))) ?_
        refine VL_val rfl rfl rfl (yd_index0 rfl rfl Try.underlying118 T.sz90 (by omega)) ?_
        refine VL_val rfl rfl rfl (yd_load rfl T.one90 (zc (hS.get 0 rfl) (by omega) (hz.sem y hlt))) ?_
        refine VL_val rfl rfl rfl (yd_eql rfl rfl) ?_
        refine VL_nil ?_
        refine VE_then ?_
        refine VC_cond rfl (fun h90 => ?_) (fun h90 => ?_)
        · replace h90 := of_decide_eq_true h90
          have hym : y ∉ vs ++ [v] := fun hm => nuL_ne.2 hm (by omega)
          have hD2 : DI G (vs ++ [v]) (pset pr y v) ((y, v) :: stk) (Pj G v (j + 1)) := hD.push (by rw [nuL_snoc_self hvm]; simp) hed hym (fun u x hp => by
            obtain ⟨e, i, h1, h2, h3⟩ := hp
            by_cases c : i = j
            · subst c; exact .inl ⟨e, by rw [← h3, hy]⟩
            · exact .inr ⟨e, i, by omega, h2, h3⟩)
          have hz2 := hz.push (v := v) hlt hym (by rw [List.length_append, List.length_singleton]; omega)
          refine VC_seq ?_
          refine VC_region ?_
          refine VL_val rfl rfl rfl (yd_move rfl) ?_
          refine VL_val rfl rfl rfl (yd_move rfl) ?_
          refine VL_rel rfl rfl rfl (yr_bslice rfl Try.underlying72 T.e82 rfl (by decide) (by decide) hS) ?_
          clear hS; rintro _ w ⟨b93, rfl, hS⟩
          refine VL_rel rfl rfl rfl (yr_append rfl rfl Try.underlying72 T.e82 rfl (by decide) hS 1 rfl (hS.get 2 rfl) rfl (fun u hu => by cases List.mem_singleton.1 (show u ∈ [ptr (f.bb y)] from hu); rfl) (by omega) (by omega)) ?_
          clear hS; rintro v94 w ⟨hS, hnil⟩
          obtain ⟨sb2, sc2, rfl, hsc2⟩ := row_form (hS.get 1 rfl) (.inr (by omega))
          have hS := hS.sub (η' := _) (List.take_sublist 2 _)
          refine VL_val rfl rfl rfl (yd_assign rfl) ?_
          refine VL_nil ?_
          refine VE_then ?_
          refine VC_drawS (fun w => w.cell? ⟨f.bb y, 0, none⟩ = some (.int .i32 ((y + 1 : Nat) : Int)) ∧ w.cell? ⟨f.bb v, 0, none⟩ = some (.int .i32 ((v + 1 : Nat) : Int))) T.mixed hS ?_
          clear hS; intro w hS
          refine VA_take (i := 0) rfl rfl rfl rfl (by kernel_rfl) (by kernel_rfl) (by kernel_rfl) #[true, false, false, false, false, false, false, false, false, false, false] (by kernel_rfl) (fun _ _ _ _ h => h) (fun w hC => yd_move rfl) ?_
          refine VA_take (i := 1) rfl rfl rfl rfl (by kernel_rfl) (by kernel_rfl) (by kernel_rfl) #[true, true, false, false, false, false, false, false, false, false, false] (by kernel_rfl) (fun _ _ _ _ h => h) (fun w hC => yd_move rfl) ?_
          refine VA_take (i := 2) rfl rfl rfl rfl (by kernel_rfl) (by kernel_rfl) (by kernel_rfl) #[true, true, true, false, false, false, false, false, false, false, false] (by kernel_rfl) (fun _ _ _ _ h => h) (fun w hC => yd_nilc rfl) ?_
          refine VA_take (i := 3) rfl rfl rfl rfl (by kernel_rfl) (by kernel_rfl) (by kernel_rfl) #[true, true, true, true, false, false, false, false, false, false, false] (by kernel_rfl) (fun _ _ _ _ h => h) (fun w hC => yd_field rfl T.fld93_0) ?_
          refine VA_take (i := 4) rfl rfl rfl rfl (by kernel_rfl) (by kernel_rfl) (by kernel_rfl) #[true, true, true, true, true, false, false, false, false, false, false] (by kernel_rfl) (fun _ _ _ _ h => h) (fun w hC => yd_load rfl T.one90 hC.1) ?_
          refine VA_take (i := 5) rfl rfl rfl rfl (by kernel_rfl) (by kernel_rfl) (by kernel_rfl) #[true, true, true, true, true, true, false, false, false, false, false] (by kernel_rfl) (fun _ _ _ _ h => h) (fun w hC => yd_move rfl) ?_
          refine VA_take (i := 6) rfl rfl rfl rfl (by kernel_rfl) (by kernel_rfl) (by kernel_rfl) #[true, true, true, true, true, true, true, false, false, false, false] (by kernel_rfl) (fun _ _ _ _ h => h) (fun w hC => yd_nilc rfl) ?_
          refine VA_take (i := 7) rfl rfl rfl rfl (by kernel_rfl) (by kernel_rfl) (by kernel_rfl) #[true, true, true, true, true, true, true, true, false, false, false] (by kernel_rfl) (fun _ _ _ _ h => h) (fun w hC => yd_field rfl T.fld93_0) ?_
          refine VA_take (i := 8) rfl rfl rfl rfl (by kernel_rfl) (by kernel_rfl) (by kernel_rfl) #[true, true, true, true, true, true, true, true, true, false, false] (by kernel_rfl) (fun _ _ _ _ h => h) (fun w hC => yd_load rfl T.one90 hC.2) ?_
          refine VA_take (i := 9) rfl rfl rfl rfl (by kernel_rfl) (by kernel_rfl) (by kernel_rfl) #[true, true, true, true, true, true, true, true, true, true, false] (by kernel_rfl) (fun _ _ _ _ h => h) (fun w hC => yd_index1 rfl rfl Try.underlying118 T.sz90 (by omega)) ?_
          refine VA_only (i := 10) (by kernel_rfl) ⟨(hS.cell (hA.id y hlt) (hM _ (fp_bb hlt))), (hS.cell (hA.id v hv) (hM _ (fp_bb hv)))⟩ ?_
          refine VS_store rfl (wanted_none rfl) #[true, true, true, true, true, true, true, true, true, true, true] (by kernel_rfl) rfl rfl rfl rfl T.one90 rfl hS 0 rfl (by rw [List.length_map]; omega) ?_
          clear hS; intro w hS
          have hS : St w0 (blk bs 90 ((List.replicate (7 * (G.length + 1)) 0).map iN)).fp [blk bs 90 ((Z.set (3 * (G.length + 1) + (y + 1)) (v + 1)).map iN), row (.slice (some ⟨sb2, 0, none⟩) ((y, v) :: stk).length sc2) 82 1 ((y, v) :: stk).length (stkP f ((y, v) :: stk))] w := by rw [List.map_set, stkP_cons]; exact hS
          refine VA_done (by kernel_rfl) ⟨(hS.cell (hA.id y hlt) (hM _ (fp_bb hlt))), (hS.cell (hA.id v hv) (hM _ (fp_bb hv)))⟩ ?_
          refine VE_block_normal ?_
          refine VE_then ?_
          refine VC_region ?_
          refine VL_val rfl rfl rfl (yd_add rfl rfl ((j + 1 : Nat) : Int) (by rw [wi64 (by omega) (by omega)]; omega)) ?_
          refine VL_val rfl rfl rfl (yd_move rfl) ?_
          refine VL_nil ?_
          first
          | exact VE_round6 (j + 1) ((y, v) :: stk) (pset pr y v) _ sb2 sc2 ⟨rfl, rfl, rfl, rfl, rfl, rfl, rfl, rfl, rfl, rfl, rfl, rfl, rfl, rfl, rfl, rfl, rfl, rfl, rfl, rfl, rfl, rfl, rfl, rfl, rfl, rfl, rfl, rfl, rfl, rfl, rfl, rfl, rfl, rfl, rfl, rfl, rfl, rfl, rfl, rfl, rfl, rfl, rfl, rfl, rfl, rfl, rfl, rfl, rfl, rfl, rfl, rfl, rfl, rfl, rfl, rfl, rfl, rfl, rfl, rfl, rfl, rfl, trivial⟩ ⟨by omega, hD2, by simp only [List.length_cons]; omega, hz2, hS⟩ (by omega)
          | exact VE_round6 (j + 1) stk pr Z sb sc ⟨rfl, rfl, rfl, rfl, rfl, rfl, rfl, rfl, rfl, rfl, rfl, rfl, rfl, rfl, rfl, rfl, rfl, rfl, rfl, rfl, rfl, rfl, rfl, rfl, rfl, rfl, rfl, rfl, rfl, rfl, rfl, rfl, rfl, rfl, rfl, rfl, rfl, rfl, rfl, rfl, rfl, rfl, rfl, rfl, rfl, rfl, rfl, rfl, rfl, rfl, rfl, rfl, rfl, rfl, rfl, rfl, rfl, rfl, rfl, rfl, rfl, rfl, trivial⟩ ⟨by omega, hD3, by omega, hz, hS⟩ (by omega)
        · replace h90 := of_decide_eq_false h90
          have hym : y ∈ vs ++ [v] := nuL_ne.1 (by omega)
          have hD3 : DI G (vs ++ [v]) pr stk (Pj G v (j + 1)) := hD.weaken (fun u x _ hp => by
            obtain ⟨e, i, h1, h2, h3⟩ := hp
            by_cases c : i = j
            · subst c; exact .inl (by rw [← h3, ← hy]; exact hym)
            · exact .inr ⟨e, i, by omega, h2, h3⟩)
          refine VC_skip ?_
          refine VE_block_normal ?_
          refine VE_then ?_
          refine VC_region ?_
          refine VL_val rfl rfl rfl (yd_add rfl rfl ((j + 1 : Nat) : Int) (by rw [wi64 (by omega) (by omega)]; omega)) ?_
          refine VL_val rfl rfl rfl (yd_move rfl) ?_
          refine VL_nil ?_
          first
          | exact VE_round6 (j + 1) ((y, v) :: stk) (pset pr y v) _ sb2 sc2 ⟨rfl, rfl, rfl, rfl, rfl, rfl, rfl, rfl, rfl, rfl, rfl, rfl, rfl, rfl, rfl, rfl, rfl, rfl, rfl, rfl, rfl, rfl, rfl, rfl, rfl, rfl, rfl, rfl, rfl, rfl, rfl, rfl, rfl, rfl, rfl, rfl, rfl, rfl, rfl, rfl, rfl, rfl, rfl, rfl, rfl, rfl, rfl, rfl, rfl, rfl, rfl, rfl, rfl, rfl, rfl, rfl, rfl, rfl, rfl, rfl, rfl, rfl, trivial⟩ ⟨by omega, hD2, by simp only [List.length_cons]; omega, hz2, hS⟩ (by omega)
          | exact VE_round6 (j + 1) stk pr Z sb sc ⟨rfl, rfl, rfl, rfl, rfl, rfl, rfl, rfl, rfl, rfl, rfl, rfl, rfl, rfl, rfl, rfl, rfl, rfl, rfl, rfl, rfl, rfl, rfl, rfl, rfl, rfl, rfl, rfl, rfl, rfl, rfl, rfl, rfl, rfl, rfl, rfl, rfl, rfl, rfl, rfl, rfl, rfl, rfl, rfl, rfl, rfl, rfl, rfl, rfl, rfl, rfl, rfl, rfl, rfl, rfl, rfl, rfl, rfl, rfl, rfl, rfl, rfl, trivial⟩ ⟨by omega, hD3, by omega, hz, hS⟩ (by omega)
      · replace h78 := Int.not_lt.1 (of_decide_eq_false h78)
        refine VC_exit ?_
        refine VE_then_exit (VE_then_exit (VE_block_exit ?_))
        refine VE_block_normal ?_
        have hD4 : DI G (vs ++ [v]) pr stk Nop := hD.weaken (fun u x _ hp => by obtain ⟨_, i, h1, h2, _⟩ := hp; omega)
        refine VE_round6 stk (vs ++ [v]) pr Z sb sc ⟨rfl, ?_, rfl, rfl, rfl, rfl, rfl, trivial⟩ ⟨.inl hD4, by simp; omega, by omega, by simp; omega, hz, hS⟩ (by simp; omega)
        rw [List.length_append]; rfl
  · replace h26 := Int.not_lt.1 (of_decide_eq_false h26)
    obtain rfl : stk = [] := List.eq_nil_of_length_eq_zero (by omega)
    refine VC_exit ?_
    refine VE_then_exit (VE_then_exit (VE_block_exit ?_))
    refine VE_then ?_
    refine VC_seq ?_
    refine VC_region ?_
    refine VL_val rfl rfl rfl (yd_move rfl) ?_
    refine VL_val rfl rfl rfl (yd_assign rfl) ?_
    refine VL_nil ?_
    refine VE_then ?_
    refine VC_ret ?_
    refine VE_ret1 (rfl) rfl ?_
    refine ⟨Z, vs, pr, rfl, ?_, hz, hS.sub (List.Sublist.cons_cons _ (List.nil_sublist _))⟩
    rcases hD with hD | ⟨_, h⟩
    · exact hD
    · cases h

end Go.Proofs.Ytmoooaaiohplhac
