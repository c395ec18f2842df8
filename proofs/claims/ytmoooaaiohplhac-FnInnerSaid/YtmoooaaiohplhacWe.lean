/- postorderWithNumbering, postorder, Postorder, PostorderNumbers. -/
import Derived.Test.YtmoooaaiohplhacWd
namespace Go.Proofs.Ytmoooaaiohplhac
open Go Go.V
set_option linter.unusedVariables false
set_option maxRecDepth 100000

theorem T.agg116 : AggT Try.prog 116 2 := ⟨⟨_, Try.underlying116, rfl⟩, by kernel_rfl⟩
theorem T.agg87 : AggT Try.prog 87 0 := ⟨⟨_, Try.underlying87, rfl⟩, by kernel_rfl⟩
theorem T.agg96 : AggT Try.prog 96 1 := ⟨⟨_, Try.underlying96, rfl⟩, by kernel_rfl⟩
theorem T.e116 : ElemT Try.prog 116 2 16 (.agg #[(.pointer none), (.int .i64 0)]) := ElemT.of (by kernel_rfl)
theorem T.fld116_0 : FieldT Try.prog 116 0 0 := FieldT.of (by kernel_rfl)
theorem T.fld116_1 : FieldT Try.prog 116 1 1 := FieldT.of (by kernel_rfl)
theorem T.fldz89_2 : Field0T Try.prog 89 2 2 32 40 := Field0T.of rfl (by kernel_rfl)
theorem T.one21 : OneT Try.prog 21 := ⟨⟨_, Try.underlying21, rfl⟩, by kernel_rfl⟩
theorem T.st116 : StructT Try.prog 116 [(0, 1), (1, 1)] [(.pointer none), (.int .i64 0)] := ⟨⟨_, Try.underlying116, by kernel_rfl⟩, ⟨_, rfl, by kernel_rfl⟩⟩
theorem T.sz116 : (Try.prog.info? 116).map (·.size) = some 2 := by kernel_rfl
theorem T.sz21 : (Try.prog.info? 21).map (·.size) = some 1 := by kernel_rfl
theorem T.sz96 : (Try.prog.info? 96).map (·.size) = some 1 := by kernel_rfl
theorem T.call57 : CallT Try.prog 57 := CallT.of Try.func57 (by kernel_rfl) (by kernel_rfl)
theorem T.call62 : CallT Try.prog 62 := CallT.of Try.func62 (by kernel_rfl) (by kernel_rfl)
theorem T.call63 : CallT Try.prog 63 := CallT.of Try.func63 (by kernel_rfl) (by kernel_rfl)
theorem T.call69 : CallT Try.prog 69 := CallT.of Try.func69 (by kernel_rfl) (by kernel_rfl)

open Go.PL
def stkC (f : FRep) (l : List (Nat × Nat)) : List Value := l.reverse.flatMap fun p => [ptr (f.bb p.1), .int .i64 (p.2 : Int)]
theorem stkC_cons (f : FRep) (b i : Nat) (rest : List (Nat × Nat)) : stkC f ((b, i) :: rest) = stkC f rest ++ [ptr (f.bb b), .int .i64 (i : Int)] := by simp [stkC]
theorem stkC_len (f : FRep) : ∀ l : List (Nat × Nat), (stkC f l).length = l.length * 2
  | [] => rfl
  | p :: l => by obtain ⟨b, i⟩ := p; rw [stkC_cons, List.length_append, stkC_len f l]; simp; omega
theorem stkC_set (f : FRep) (b i j : Nat) (rest : List (Nat × Nat)) : (stkC f ((b, i) :: rest)).set (rest.length * 2 + 1) (.int .i64 (j : Int)) = stkC f ((b, j) :: rest) := by
  rw [stkC_cons, stkC_cons, List.set_append_right _ _ (by rw [stkC_len]; omega), stkC_len, Nat.add_sub_cancel_left]; rfl
theorem stkC_take (f : FRep) (b i : Nat) (rest : List (Nat × Nat)) : (stkC f ((b, i) :: rest)).take (rest.length * 2) = stkC f rest := by
  rw [stkC_cons, List.take_append_of_le_length (by rw [stkC_len]; omega), List.take_of_length_le (by rw [stkC_len]; omega)]
def ordV (f : FRep) (l : List Nat) : List Value := l.map fun x => ptr (f.bb x)
theorem ordV_snoc (f : FRep) (l : List Nat) (b : Nat) : ordV f (l ++ [b]) = ordV f l ++ [ptr (f.bb b)] := by simp [ordV]
theorem ordV_len (f : FRep) (l : List Nat) : (ordV f l).length = l.length := by simp [ordV]
/-- What the marks say. -/
def SeenOK (G : Graph) (s : DS) (sn : List Bool) : Prop := sn.length = G.length + 1 ∧ ∀ x, x < G.length → (sn[x + 1]! = true ↔ x ∈ s.all)
theorem seen_init {G : Graph} (hg : Gd G) : SeenOK G dinit ((List.replicate (G.length + 1) false).set 1 true) := by
  refine ⟨by simp, fun x hx => ?_⟩
  rw [get!_set _ _ _ _ (by simp; have := hg.pos; omega)]
  by_cases h : x = 0
  · subst h; simp [DS.all, dinit]
  · rw [if_neg (by omega), get!_replicate _ _ _ (by omega)]; simp [DS.all, dinit, h]
theorem seen_same {G : Graph} {s s' : DS} {sn : List Bool} (h : SeenOK G s sn) (hs : ∀ x, x ∈ s'.all ↔ x ∈ s.all) : SeenOK G s' sn := ⟨h.1, fun x hx => by rw [hs, h.2 x hx]⟩
theorem seen_push {G : Graph} {s s' : DS} {sn : List Bool} {y : Nat} (h : SeenOK G s sn) (hy : y < G.length) (hs : ∀ x, x ∈ s'.all ↔ x = y ∨ x ∈ s.all) : SeenOK G s' (sn.set (y + 1) true) := by
  refine ⟨by simp [h.1], fun x hx => ?_⟩
  rw [get!_set _ _ _ _ (by rw [h.1]; omega), hs]
  by_cases e : x = y
  · subst e; simp
  · rw [if_neg (by omega), h.2 x hx]; simp [e]
theorem all_push (b i y : Nat) (rest : List (Nat × Nat)) (ord : List Nat) (x : Nat) : x ∈ (⟨(y, 0) :: (b, i + 1) :: rest, ord⟩ : DS).all ↔ x = y ∨ x ∈ (⟨(b, i) :: rest, ord⟩ : DS).all := by
  simp only [DS.all, List.map_cons, List.mem_append, List.mem_cons]; constructor
  · rintro (h1 | h1 | h1 | h1) <;> simp [h1]
  · rintro (h1 | h1 | h1 | h1) <;> simp [h1]
theorem all_pop (b i : Nat) (rest : List (Nat × Nat)) (ord : List Nat) (x : Nat) : x ∈ (⟨rest, ord ++ [b]⟩ : DS).all ↔ x ∈ (⟨(b, i) :: rest, ord⟩ : DS).all := by simp [DS.all]
/-- What the numbers hold: places for those that have come up. -/
def PnOK (G : Graph) (ord : List Nat) (pn : List Int) : Prop := pn.length = G.length + 1 ∧ ∀ x, x < G.length → (x ∉ ord ∧ pn[x + 1]! = -1) ∨ ∃ i, i < ord.length ∧ ord[i]! = x ∧ pn[x + 1]! = (i : Int)
theorem pn_snoc {G : Graph} {ord : List Nat} {pn : List Int} {b : Nat} (h : PnOK G ord pn) (hb : b < G.length) (hn : b ∉ ord) : PnOK G (ord ++ [b]) (pn.set (b + 1) (ord.length : Int)) := by
  refine ⟨by simp [h.1], fun x hx => ?_⟩
  rw [get!_set _ _ _ _ (by rw [h.1]; omega)]
  by_cases e : x = b
  · subst e; right; exact ⟨ord.length, by simp, get!_append_len _ _, by rw [if_pos rfl]⟩
  · rw [if_neg (by omega)]
    rcases h.2 x hx with ⟨h1, h2⟩ | ⟨i, h1, h2, h3⟩
    · left; exact ⟨by simp [h1, e], h2⟩
    · right; exact ⟨i, by simp; omega, by rw [get!_append_left h1]; exact h2, h3⟩

set_option maxHeartbeats 1000000 in
theorem post_nil {w0 : World} {f : FRep} {G : Graph} (hF : (funcR f G).holds w0) (hg : Gd G) : Calls Try.prog 55 #[ptr f.bf, .slice none 0 0] w0 (Ret fun u w' => ∃ b c, u = .slice (some ⟨b, 0, none⟩) (postL G).length c ∧ St w0 M0 [row u 82 1 (postL G).length (ordV f (postL G))] w') := by
  have hA := funcAt hF
  have hle := hg.le
  have hS := St.refl w0
  have hFk : ∀ {η : List Res} {w : World}, St w0 M0 η w → (funcR f G).holds w := fun h => h.func hF
  refine V_enterD (N := 124) Try.func55 rfl Try.ntmps55 rfl ?_
  refine VC.sub (τ := [(0, _), (1, _)]) ⟨rfl, rfl, trivial⟩ ?_
  refine VC_seq ?_
  refine VC_region ?_
  refine VL_val rfl rfl rfl (yd_assign rfl) ?_
  refine VL_nil ?_
  refine VE_then ?_
  refine VC_seq ?_
  obtain ⟨fcs, hfc⟩ := hA.hf
  refine VC_draw T.mixed hS ?_
  clear hS; intro w hS
  refine VA_take (i := 0) rfl rfl rfl rfl (by kernel_rfl) (by kernel_rfl) (by kernel_rfl) #[true, false, false, false, false, false, false, false] (by kernel_rfl) (fun _ _ _ _ h => h) (fun w hS => yd_move rfl) ?_
  refine VA_take (i := 1) rfl rfl rfl rfl (by kernel_rfl) (by kernel_rfl) (by kernel_rfl) #[true, true, false, false, false, false, false, false] (by kernel_rfl) (fun _ _ _ _ h => h) (fun w hS => yd_nilc rfl) ?_
  refine VA_take (i := 2) rfl rfl rfl rfl (by kernel_rfl) (by kernel_rfl) (by kernel_rfl) #[true, true, true, false, false, false, false, false] (by kernel_rfl) (fun _ _ _ _ h => h) (fun w hS => yd_field0 rfl T.fldz89_2 (hS.heap0 hfc)) ?_
  refine VA_take (i := 3) rfl rfl rfl rfl (by kernel_rfl) (by kernel_rfl) (by kernel_rfl) #[true, true, true, true, false, false, false, false] (by kernel_rfl) (fun _ _ _ _ h => h) (fun w hS => yd_loadE rfl T.agg87) ?_
  refine VA_take (i := 4) rfl rfl rfl rfl (by kernel_rfl) (by kernel_rfl) (by kernel_rfl) #[true, true, true, true, true, false, false, false] (by kernel_rfl) (fun _ _ _ _ h => h) (fun w hS => yd_move rfl) ?_
  refine VA_only (i := 5) (by kernel_rfl) hS ?_
  refine VS_call rfl (wanted_none rfl) #[true, true, true, true, true, true, false, false] (by kernel_rfl) rfl rfl rfl T.call57 rfl (numBlocks_ok (hFk hS) hg) ?_
  rintro _ _ ⟨rfl, rfl⟩
  refine VA_only (i := 6) (by kernel_rfl) hS ?_
  refine VS_call rfl (wanted_none rfl) #[true, true, true, true, true, true, true, false] (by kernel_rfl) rfl rfl rfl T.call62 rfl (allocBool_ok (by omega)) ?_
  rintro _ w ⟨b5, rfl, hR⟩
  have hS := hS.call0 hR
  refine VA.weaken (S' := fun w => St w0 M0 ([] ++ [blk b5 4 ((List.replicate (G.length + 1) false).map Value.bool)]) w) ?_ (fun w h => h.sub (List.sublist_append_left _ _))
  refine VA_take (i := 7) rfl rfl rfl rfl (by kernel_rfl) (by kernel_rfl) (by kernel_rfl) #[true, true, true, true, true, true, true, true] (by kernel_rfl) (fun _ _ _ _ h => h) (fun w hS => yd_assign rfl) ?_
  refine VA_done (by kernel_rfl) hS ?_
  refine VE_then ?_
  refine VC_seq ?_
  refine VC_region ?_
  refine VL_val rfl rfl rfl (yd_move rfl) ?_
  refine VL_val rfl rfl rfl (yd_nilc rfl) ?_
  refine VL_val rfl rfl rfl (yd_field0 rfl T.fldz89_2 (hS.heap0 hfc)) ?_
  refine VL_val rfl rfl rfl (yd_loadE rfl T.agg87) ?_
  refine VL_val rfl rfl rfl (yd_move rfl) ?_
  refine VL_defer rfl rfl rfl rfl ?_
  refine VL_nil ?_
  refine VE_then ?_
  refine VC_seq ?_
  refine VC_region ?_
  refine VL_val rfl rfl rfl (yd_move rfl) ?_
  refine VL_val rfl rfl rfl (yd_nilc rfl) ?_
  refine VL_val rfl rfl rfl (yd_field rfl T.fld89_1) ?_
  refine VL_val rfl rfl rfl (yd_load rfl T.one72 (hS.cell0 (hA.blocks))) ?_
  refine VL_val rfl rfl rfl (yd_len rfl Try.underlying72) ?_
  refine VL_makeM Value.pointer none (l := 0) rfl rfl rfl rfl rfl rfl Try.underlying72 T.e82 rfl rfl (by omega) (by omega) (by omega) hS ?_
  clear hS; intro b6 w hS
  have hS := hS.mkrow 1 (c := G.length) (sz := 1) rfl (by simp) (by omega)
  refine VL_val rfl rfl rfl (yd_assign rfl) ?_
  refine VL_nil ?_
  refine VE_then ?_
  refine VC_seq ?_
  refine VC_region ?_
  refine VL_make (l := 0) (c := 32) rfl rfl rfl rfl rfl rfl Try.underlying114 T.e116 (by omega) (by omega) (by omega) hS ?_
  clear hS; intro b7 w hS
  have hS := hS.mkrow 2 (c := 32) (sz := 2) rfl (by rw [Array.length_toList, size_madeCells]) (by omega)
  refine VL_val rfl rfl rfl (yd_assign rfl) ?_
  refine VL_nil ?_
  refine VE_then ?_
  refine VC_seq ?_
  refine VC_region ?_
  refine VL_val rfl rfl rfl (yd_move rfl) ?_
  refine VL_val rfl rfl rfl (yd_move rfl) ?_
  refine VL_val rfl rfl rfl (yd_nilc rfl) ?_
  refine VL_val rfl rfl rfl (yd_field rfl T.fld89_0) ?_
  refine VL_val rfl rfl rfl (yd_load rfl T.one82 (hS.cell0 (hA.entry))) ?_
  refine VL_val rfl rfl rfl (yd_build T.st116 (vs := [(0, _)]) rfl rfl) ?_
  refine VL_rel rfl rfl rfl (yr_bslice rfl Try.underlying114 T.e116 rfl (by decide) (by decide) hS) ?_
  clear hS; rintro _ w ⟨b38, rfl, hS⟩
  refine VL_rel rfl rfl rfl (yr_append rfl rfl Try.underlying114 T.e116 rfl (by decide) hS 2 rfl (hS.get 3 rfl) rfl (fun u hu => by rcases List.mem_cons.1 (show u ∈ [ptr (f.bb 0), .int .i64 0] from hu) with rfl | hu; rfl; cases List.mem_singleton.1 hu; rfl) (by omega) (by omega)) ?_
  clear hS; rintro v39 w ⟨hS, hnil⟩
  obtain ⟨bs0, cs0, rfl, hcs0⟩ := row_form (hS.get 2 rfl) (.inr (by omega))
  refine VL_val rfl rfl rfl (yd_assign rfl) ?_
  refine VL_nil ?_
  refine VE_then ?_
  refine VC_seq ?_
  refine VC_region ?_
  have hpos := hg.pos
  have hS := hS.sub (η' := _) (List.take_sublist 3 _)
  refine VL_val rfl rfl rfl (yd_move rfl) ?_
  refine VL_val rfl rfl rfl (yd_move rfl) ?_
  refine VL_val rfl rfl rfl (yd_nilc rfl) ?_
  refine VL_val rfl rfl rfl (yd_field rfl T.fld89_0) ?_
  refine VL_val rfl rfl rfl (yd_load rfl T.one82 (hS.cell0 (hA.entry))) ?_
  refine VL_val rfl rfl rfl (yd_nilc rfl) ?_
  refine VL_val rfl rfl rfl (yd_field rfl T.fld93_0) ?_
  refine VL_val rfl rfl rfl (yd_load rfl T.one90 (hS.cell0 (hA.id 0 (by omega)))) ?_
  refine VL_val rfl rfl rfl (yd_index0 rfl rfl Try.underlying25 T.sz4 (by omega)) ?_
  refine VL_storeM rfl rfl rfl rfl rfl T.one4 rfl hS 0 rfl (by simp; omega) rfl ?_
  clear hS; intro w hS
  refine VL_nil ?_
  refine VE_then ?_
  refine VC_seq ?_
  refine VC_block ?_
  refine VC_loop8 [1, 4, 5] [_, _, _] rfl (fun (t : Nat) (stk : List (Nat × Nat)) (ord : List Nat) (sn : List Bool) (bs : Nat) (cs : Nat) (bo : Nat) (co : Nat) => [(7, .slice (some ⟨bs, 0, none⟩) stk.length cs), (6, .slice (some ⟨bo, 0, none⟩) ord.length co)]) (fun (t : Nat) (stk : List (Nat × Nat)) (ord : List Nat) (sn : List Bool) (bs : Nat) (cs : Nat) (bo : Nat) (co : Nat) w => dit G t = ⟨stk, ord⟩ ∧ t ≤ 66 ∧ SeenOK G ⟨stk, ord⟩ sn ∧ St w0 M0 [blk b5 4 (sn.map Value.bool), row (.slice (some ⟨bo, 0, none⟩) ord.length co) 82 1 ord.length (ordV f ord), row (.slice (some ⟨bs, 0, none⟩) stk.length cs) 116 2 stk.length (stkC f stk)] w) (fun (t : Nat) (stk : List (Nat × Nat)) (ord : List Nat) (sn : List Bool) (bs : Nat) (cs : Nat) (bo : Nat) (co : Nat) => 67 - t) 0 [(0, 0)] [] _ _ _ _ _ ⟨rfl, rfl, trivial⟩ (⟨rfl, by omega, seen_init hg, hS⟩) ?_
  clear hS; rintro t stk ord sn bs cs bo co w ⟨hs, ht, hsn, hS⟩
  have hD := dinv_it hg t
  rw [hs] at hD
  have hall := nodup_len _ hD.nd hD.lt
  refine VC_seq ?_
  refine VC_seq ?_
  refine VC_region ?_
  refine VL_val rfl rfl rfl (yd_move rfl) ?_
  refine VL_val rfl rfl rfl (yd_len rfl Try.underlying114) ?_
  refine VL_val rfl rfl rfl (yd_gtr rfl rfl) ?_
  refine VL_nil ?_
  refine VE_then ?_
  refine VC_cond rfl (fun h51 => ?_) (fun h51 => ?_)
  · replace h51 := of_decide_eq_true h51
    obtain ⟨⟨b, i⟩, rest, rfl⟩ := List.exists_cons_of_length_pos (show 0 < stk.length by omega)
    simp only [DS.all, List.length_append, List.length_map, List.length_cons] at hall
    have hb : b < G.length := hD.lt b (by simp [DS.all])
    have ht60 : t ≤ 65 := dit_lt hg (by rw [hs]; simp)
    have hidx := hD.idx (b, i) (by simp)
    have hr4 := hg.row b hb
    have hi4 : i ≤ G[b]!.length := hidx.1
    obtain ⟨sa, sc, sb, hsuc, hsa, hscs, hsfp⟩ := hA.suc b hb
    refine VC_skip ?_
    refine VE_then ?_
    refine VC_block ?_
    refine VC_seq ?_
    refine VC_region ?_
    refine VL_val rfl rfl rfl (yd_move rfl) ?_
    refine VL_val rfl rfl rfl (yd_len rfl Try.underlying114) ?_
    refine VL_val rfl rfl rfl (yd_sub rfl rfl _ (wi_sub1 (by omega))) ?_
    refine VL_val rfl rfl rfl (yd_assign rfl) ?_
    refine VL_nil ?_
    refine VE_then ?_
    refine VC_seq ?_
    refine VC_region ?_
    refine VL_val rfl rfl rfl (yd_move rfl) ?_
    refine VL_val rfl rfl rfl (yd_move rfl) ?_
    refine VL_val rfl rfl rfl (yd_index rfl rfl Try.underlying114 T.sz116 (Nat.lt_succ_self _) _ (Nat.zero_add _)) ?_
    have htop := row_tail (C := stkC f rest) (L := [ptr (f.bb b), .int .i64 (i : Int)]) (stkC_cons f b i rest ▸ hS.get 2 rfl) (stkC_len f rest)
    refine VL_val rfl rfl rfl (yd_loadn [ptr (f.bb b), .int .i64 (i : Int)] rfl T.agg116 htop) ?_
    refine VL_alloc rfl rfl rfl rfl T.e116 hS ?_
    clear hS; intro b9 w hS
    refine VL_storeN (cs := [ptr (f.bb b), .int .i64 (i : Int)]) rfl rfl rfl rfl rfl T.agg116 (by intro u hu; simp at hu; rcases hu with rfl | rfl <;> rfl) hS 3 rfl (by simp [Value.cells]) ?_
    clear hS; intro w hS
    refine VL_nil ?_
    refine VE_then ?_
    refine VC_seq ?_
    refine VC_region ?_
    refine VL_val rfl rfl rfl (yd_field rfl T.fld116_0) ?_
    refine VL_val rfl rfl rfl (yd_load rfl T.one82 (blk_cell (hS.get 3 rfl) rfl)) ?_
    refine VL_val rfl rfl rfl (yd_assign rfl) ?_
    refine VL_nil ?_
    refine VE_then ?_
    refine VC_seq ?_
    refine VC_seq ?_
    refine VC_region ?_
    refine VL_val rfl rfl rfl (yd_field rfl T.fld116_1) ?_
    refine VL_val rfl rfl rfl (yd_load rfl T.one3 (blk_cell (hS.get 3 rfl) rfl)) ?_
    refine VL_val rfl rfl rfl (yd_assign rfl) ?_
    refine VL_nil ?_
    refine VE_then ?_
    refine VC_seq ?_
    refine VC_region ?_
    refine VL_val rfl rfl rfl (yd_move rfl) ?_
    refine VL_val rfl rfl rfl (yd_move rfl) ?_
    refine VL_val rfl rfl rfl (yd_nilc rfl) ?_
    refine VL_val rfl rfl rfl (yd_field rfl T.fld93_1) ?_
    refine VL_val rfl rfl rfl (yd_load rfl T.one91 (hS.cell0 (hsuc))) ?_
    refine VL_val rfl rfl rfl (yd_len rfl Try.underlying91) ?_
    refine VL_val rfl rfl rfl (yd_lss rfl rfl) ?_
    refine VL_nil ?_
    refine VE_then ?_
    refine VC_cond rfl (fun h69 => ?_) (fun h69 => ?_)
    · replace h69 := of_decide_eq_true h69
      refine VC_seq ?_
      refine VC_region ?_
      refine VL_val rfl rfl rfl (yd_move rfl) ?_
      refine VL_val rfl rfl rfl (yd_move rfl) ?_
      refine VL_val rfl rfl rfl (yd_index rfl rfl Try.underlying114 T.sz116 (Nat.lt_succ_self _) _ (Nat.zero_add _)) ?_
      refine VL_val rfl rfl rfl (yd_field rfl T.fld116_1) ?_
      have htop := row_tail (C := stkC f rest) (L := [ptr (f.bb b), .int .i64 (i : Int)]) (stkC_cons f b i rest ▸ hS.get 2 rfl) (stkC_len f rest)
      refine VL_val rfl rfl rfl (yd_load rfl T.one3 (htop 1 _ rfl)) ?_
      refine VL_val rfl rfl rfl (yd_add rfl rfl _ (wi_add1 (by omega))) ?_
      refine VL_val rfl rfl rfl (yd_index rfl rfl Try.underlying114 T.sz116 (Nat.lt_succ_self _) _ (Nat.zero_add _)) ?_
      refine VL_val rfl rfl rfl (yd_field rfl T.fld116_1) ?_
      refine VL_storeR rfl rfl rfl rfl rfl T.one3 rfl hS 2 rfl (by rw [stkC_len]; simp only [List.length_cons]; omega) ?_
      clear hS; intro w hS
      rw [stkC_set] at hS
      refine VL_nil ?_
      refine VE_then ?_
      refine VC_seq ?_
      refine VC_region ?_
      obtain rfl := hsa (by omega)
      have hlt := hg.lt b hb i (by omega)
      refine VL_val rfl rfl rfl (yd_move rfl) ?_
      refine VL_val rfl rfl rfl (yd_nilc rfl) ?_
      refine VL_val rfl rfl rfl (yd_field rfl T.fld93_1) ?_
      refine VL_val rfl rfl rfl (yd_load rfl T.one91 (hS.cell0 (hsuc))) ?_
      refine VL_val rfl rfl rfl (yd_move rfl) ?_
      refine VL_val rfl rfl rfl (yd_index0 rfl rfl Try.underlying91 T.sz96 (by omega)) ?_
      refine VL_val rfl rfl rfl (yd_loadn [ptr (f.bb G[b]![i]!)] rfl T.agg96 (one_cell (hS.cell0 (hscs i (by omega))))) ?_
      refine VL_call rfl rfl rfl rfl T.call69 rfl (edgeBlock_ok) ?_
      clear htop; rintro _ w ⟨rfl, hR⟩
      have hS := hS.call0 hR
      refine VL_val rfl rfl rfl (yd_assign rfl) ?_
      refine VL_nil ?_
      refine VE_then ?_
      refine VC_seq ?_
      refine VC_seq ?_
      refine VC_region ?_
      refine VL_val rfl rfl rfl (yd_move rfl) ?_
      refine VL_val rfl rfl rfl (yd_move rfl) ?_
      refine VL_val rfl rfl rfl (yd_nilc rfl) ?_
      refine VL_val rfl rfl rfl (yd_field rfl T.fld93_0) ?_
      refine VL_val rfl rfl rfl (yd_load rfl T.one90 (hS.cell0 (hA.id _ hlt))) ?_
      refine VL_val rfl rfl rfl (yd_index0 rfl rfl Try.underlying25 T.sz4 (by omega)) ?_
      refine VL_val rfl rfl rfl (yd_load rfl T.one4 (blk_cellM (hS.get 0 rfl) (by rw [hsn.1]; omega))) ?_
      refine VL_val rfl rfl rfl (yd_not rfl) ?_
      refine VL_nil ?_
      refine VE_then ?_
      refine VC_cond rfl (fun h93 => ?_) (fun h93 => ?_)
      · replace h93 := V.nt h93
        have hnm : ¬ G[b]![i]! ∈ (⟨(b, i) :: rest, ord⟩ : DS).all := fun h => by have := (hsn.2 _ hlt).2 h; rw [h93] at this; cases this
        refine VC_seq ?_
        refine VC_region ?_
        refine VL_val rfl rfl rfl (yd_move rfl) ?_
        refine VL_val rfl rfl rfl (yd_move rfl) ?_
        refine VL_val rfl rfl rfl (yd_nilc rfl) ?_
        refine VL_val rfl rfl rfl (yd_field rfl T.fld93_0) ?_
        refine VL_val rfl rfl rfl (yd_load rfl T.one90 (hS.cell0 (hA.id _ hlt))) ?_
        refine VL_val rfl rfl rfl (yd_index0 rfl rfl Try.underlying25 T.sz4 (by omega)) ?_
        refine VL_storeM rfl rfl rfl rfl rfl T.one4 rfl hS 0 rfl (by rw [hsn.1]; omega) rfl ?_
        clear hS; intro w hS
        refine VL_nil ?_
        refine VE_then ?_
        refine VC_region ?_
        have hS := hS.sub (η' := _) (List.take_sublist 3 _)
        refine VL_val rfl rfl rfl (yd_move rfl) ?_
        refine VL_val rfl rfl rfl (yd_move rfl) ?_
        refine VL_val rfl rfl rfl (yd_build T.st116 (vs := [(0, _)]) rfl rfl) ?_
        refine VL_rel rfl rfl rfl (yr_bslice rfl Try.underlying114 T.e116 rfl (by decide) (by decide) hS) ?_
        clear hS; rintro _ w ⟨b103, rfl, hS⟩
        refine VL_rel rfl rfl rfl (yr_append rfl rfl Try.underlying114 T.e116 rfl (by decide) hS 2 rfl (hS.get 3 rfl) rfl (fun u hu => by rcases List.mem_cons.1 (show u ∈ [ptr (f.bb G[b]![i]!), .int .i64 0] from hu) with rfl | hu; rfl; cases List.mem_singleton.1 hu; rfl) (by simp only [List.length_cons]; omega) (by simp only [List.length_cons]; omega)) ?_
        clear hS; rintro v104 w ⟨hS, hnil⟩
        obtain ⟨bs1, cs1, rfl, hcs1⟩ := row_form (hS.get 2 rfl) (.inr (by omega))
        have hS := hS.sub (η' := _) (List.take_sublist 3 _)
        have e17 : stkC f ((b, i + 1) :: rest) ++ [ptr (f.bb G[b]![i]!), .int .i64 0] = stkC f ((G[b]![i]!, 0) :: (b, i + 1) :: rest) := (stkC_cons f _ 0 _).symm
        refine VL_val rfl rfl rfl (yd_assign rfl) ?_
        refine VL_nil ?_
        refine VE_then ?_
        refine VC_exit ?_
        refine VE_then_exit (VE_block_exit ?_)
        have hS : St w0 M0 [blk b5 4 ((sn.set (G[b]![i]! + 1) true).map Value.bool), row (.slice (some ⟨bo, 0, none⟩) ord.length co) 82 1 ord.length (ordV f ord), row (.slice (some ⟨bs1, 0, none⟩) ((G[b]![i]!, 0) :: (b, i + 1) :: rest).length cs1) 116 2 ((G[b]![i]!, 0) :: (b, i + 1) :: rest).length (stkC f ((G[b]![i]!, 0) :: (b, i + 1) :: rest))] w := by rw [← e17]; exact hS
        exact VE_round8 (t + 1) ((G[b]![i]!, 0) :: (b, i + 1) :: rest) ord _ _ _ _ _ ⟨rfl, rfl, rfl, rfl, rfl, trivial⟩ ⟨by rw [dit, hs]; exact dstep_push rfl (by omega) hnm, by omega, seen_push hsn hlt (all_push _ _ _ _ _), hS⟩ (by omega)
      · replace h93 := V.nf h93
        have hm : G[b]![i]! ∈ (⟨(b, i) :: rest, ord⟩ : DS).all := (hsn.2 _ hlt).1 h93
        refine VC_skip ?_
        refine VE_then ?_
        refine VC_exit ?_
        refine VE_then_exit (VE_block_exit ?_)
        have hS := hS.sub (η' := _) (List.take_sublist 3 _)
        exact VE_round8 (t + 1) ((b, i + 1) :: rest) ord _ _ _ _ _ ⟨rfl, rfl, rfl, rfl, rfl, trivial⟩ ⟨by rw [dit, hs]; exact dstep_inc rfl (by omega) hm, by omega, seen_same hsn (fun _ => Iff.rfl), hS⟩ (by omega)
    · replace h69 := Int.not_lt.1 (of_decide_eq_false h69)
      refine VC_skip ?_
      refine VE_then ?_
      refine VC_seq ?_
      refine VC_region ?_
      have hcsl := row_le (hS.get 2 rfl)
      have hnb : b ∉ ord := fun h => by have := hD.nd; simp only [DS.all, List.map_cons] at this; exact (List.nodup_append.1 this).2.2 b h b (by simp) rfl
      refine VL_val rfl rfl rfl (yd_move rfl) ?_
      refine VL_val rfl rfl rfl (yd_move rfl) ?_
      refine VL_val rfl rfl rfl (yd_slice_hi rfl rfl Try.underlying114 ⟨_, T.sz116⟩ (show rest.length ≤ cs from by simp only [List.length_cons] at hcsl; omega)) ?_
      have hS := hS.pop 2 (m := rest.length) rfl (Nat.le_succ _)
      rw [stkC_take] at hS
      refine VL_val rfl rfl rfl (yd_assign rfl) ?_
      refine VL_nil ?_
      refine VE_then ?_
      refine VC_seq ?_
      refine VC_seq ?_
      refine VC_region ?_
      refine VL_val rfl rfl rfl (yd_move rfl) ?_
      refine VL_val rfl rfl rfl (yd_neqnil rfl Try.underlying113) ?_
      refine VL_nil ?_
      refine VE_then ?_
      refine VC_cond_f' rfl (rfl) ?_
      refine VC_skip ?_
      refine VE_then ?_
      refine VC_region ?_
      refine VL_val rfl rfl rfl (yd_move rfl) ?_
      refine VL_val rfl rfl rfl (yd_move rfl) ?_
      refine VL_rel rfl rfl rfl (yr_bslice rfl Try.underlying72 T.e82 rfl (by decide) (by decide) hS) ?_
      clear hS; rintro _ w ⟨b121, rfl, hS⟩
      refine VL_rel rfl rfl rfl (yr_append rfl rfl Try.underlying72 T.e82 rfl (by decide) hS 1 rfl (hS.get 4 rfl) rfl (fun u hu => by cases List.mem_singleton.1 (show u ∈ [ptr (f.bb b)] from hu); rfl) (by omega) (by omega)) ?_
      clear hS; rintro v122 w ⟨hS, hnil⟩
      obtain ⟨bo1, co1, rfl, hco1⟩ := row_form (hS.get 1 rfl) (.inr (by omega))
      have hS := hS.sub (η' := _) (List.take_sublist 3 _)
      refine VL_val rfl rfl rfl (yd_assign rfl) ?_
      refine VL_nil ?_
      refine VE_block_normal ?_
      have hS : St w0 M0 [blk b5 4 (sn.map Value.bool), row (.slice (some ⟨bo1, 0, none⟩) (ord ++ [b]).length co1) 82 1 (ord ++ [b]).length (ordV f (ord ++ [b])), row (.slice (some ⟨bs, 0, none⟩) rest.length cs) 116 2 rest.length (stkC f rest)] w := by rw [ordV_snoc, List.length_append]; exact hS
      refine VE_round8 (t + 1) rest (ord ++ [b]) sn bs cs bo1 co1 ⟨rfl, ?_, rfl, rfl, rfl, trivial⟩ ⟨by rw [dit, hs]; exact dstep_pop rfl (by omega), by omega, seen_same hsn (all_pop _ _ _ _), hS⟩ (by omega)
      rw [List.length_append]; rfl
  · replace h51 := Int.not_lt.1 (of_decide_eq_false h51)
    obtain rfl : stk = [] := List.eq_nil_of_length_eq_zero (by omega)
    refine VC_exit ?_
    refine VE_then_exit (VE_then_exit (VE_block_exit ?_))
    refine VE_then ?_
    refine VC_seq ?_
    refine VC_region ?_
    refine VL_val rfl rfl rfl (yd_move rfl) ?_
    refine VL_val rfl rfl rfl (yd_assign rfl) ?_
    refine VL_nil ?_
    refine VE_then ?_
    refine VC_ret ?_
    refine VE_ret1D rfl rfl ?_
    intro tmps ht22
    refine leaves_one T.call63 freeBool_ok ?_
    intro w1 hR
    have hS := hS.call0 hR
    refine leaves_nil1 rfl ht22 ?_
    have e := dit_post (G := G) (t := t) (by rw [hs]) ht
    rw [hs] at e
    subst e
    exact ⟨bo, co, rfl, hS.sub (List.Sublist.cons _ (List.Sublist.cons_cons _ (List.nil_sublist _)))⟩

set_option maxHeartbeats 1000000 in
theorem post_num {w0 : World} {f : FRep} {G : Graph} (hF : (funcR f G).holds w0) (hg : Gd G) {bp : Nat} {pn0 : List Int} (hp : (blk bp 21 (pn0.map (Value.int .i32))).holds w0) (hM : ∀ b, (funcR f G).fp b → b ≠ bp) (hpn0 : PnOK G [] pn0) : Calls Try.prog 55 #[ptr f.bf, .slice (some ⟨bp, 0, none⟩) (G.length + 1) (G.length + 1)] w0 (Ret fun u w' => ∃ b c pn, u = .slice (some ⟨b, 0, none⟩) (postL G).length c ∧ PnOK G (postL G) pn ∧ St w0 (blk bp 21 (pn0.map (Value.int .i32))).fp [blk bp 21 (pn.map (Value.int .i32)), row u 82 1 (postL G).length (ordV f (postL G))] w') := by
  have hA := funcAt hF
  have hle := hg.le
  have hS := St.start hp
  have hFk : ∀ {η : List Res} {w : World}, St w0 (blk bp 21 (pn0.map (Value.int .i32))).fp η w → (funcR f G).holds w := fun h => h.keep hF hM
  refine V_enterD (N := 124) Try.func55 rfl Try.ntmps55 rfl ?_
  refine VC.sub (τ := [(0, _), (1, _)]) ⟨rfl, rfl, trivial⟩ ?_
  refine VC_seq ?_
  refine VC_region ?_
  refine VL_val rfl rfl rfl (yd_assign rfl) ?_
  refine VL_nil ?_
  refine VE_then ?_
  refine VC_seq ?_
  obtain ⟨fcs, hfc⟩ := hA.hf
  refine VC_draw T.mixed hS ?_
  clear hS; intro w hS
  refine VA_take (i := 0) rfl rfl rfl rfl (by kernel_rfl) (by kernel_rfl) (by kernel_rfl) #[true, false, false, false, false, false, false, false] (by kernel_rfl) (fun _ _ _ _ h => h) (fun w hS => yd_move rfl) ?_
  refine VA_take (i := 1) rfl rfl rfl rfl (by kernel_rfl) (by kernel_rfl) (by kernel_rfl) #[true, true, false, false, false, false, false, false] (by kernel_rfl) (fun _ _ _ _ h => h) (fun w hS => yd_nilc rfl) ?_
  refine VA_take (i := 2) rfl rfl rfl rfl (by kernel_rfl) (by kernel_rfl) (by kernel_rfl) #[true, true, true, false, false, false, false, false] (by kernel_rfl) (fun _ _ _ _ h => h) (fun w hS => yd_field0 rfl T.fldz89_2 ((hS.old _ (Array.getElem?_eq_some_iff.1 hfc).1 (hM _ fp_bf)).trans hfc)) ?_
  refine VA_take (i := 3) rfl rfl rfl rfl (by kernel_rfl) (by kernel_rfl) (by kernel_rfl) #[true, true, true, true, false, false, false, false] (by kernel_rfl) (fun _ _ _ _ h => h) (fun w hS => yd_loadE rfl T.agg87) ?_
  refine VA_take (i := 4) rfl rfl rfl rfl (by kernel_rfl) (by kernel_rfl) (by kernel_rfl) #[true, true, true, true, true, false, false, false] (by kernel_rfl) (fun _ _ _ _ h => h) (fun w hS => yd_move rfl) ?_
  refine VA_only (i := 5) (by kernel_rfl) hS ?_
  refine VS_call rfl (wanted_none rfl) #[true, true, true, true, true, true, false, false] (by kernel_rfl) rfl rfl rfl T.call57 rfl (numBlocks_ok (hFk hS) hg) ?_
  rintro _ _ ⟨rfl, rfl⟩
  refine VA_only (i := 6) (by kernel_rfl) hS ?_
  refine VS_call rfl (wanted_none rfl) #[true, true, true, true, true, true, true, false] (by kernel_rfl) rfl rfl rfl T.call62 rfl (allocBool_ok (by omega)) ?_
  rintro _ w ⟨b5, rfl, hR⟩
  have hS := hS.call0 hR
  refine VA.weaken (S' := fun w => St w0 (blk bp 21 (pn0.map (Value.int .i32))).fp ([blk bp 21 (pn0.map (Value.int .i32))] ++ [blk b5 4 ((List.replicate (G.length + 1) false).map Value.bool)]) w) ?_ (fun w h => h.sub (List.sublist_append_left _ _))
  refine VA_take (i := 7) rfl rfl rfl rfl (by kernel_rfl) (by kernel_rfl) (by kernel_rfl) #[true, true, true, true, true, true, true, true] (by kernel_rfl) (fun _ _ _ _ h => h) (fun w hS => yd_assign rfl) ?_
  refine VA_done (by kernel_rfl) hS ?_
  refine VE_then ?_
  refine VC_seq ?_
  refine VC_region ?_
  refine VL_val rfl rfl rfl (yd_move rfl) ?_
  refine VL_val rfl rfl rfl (yd_nilc rfl) ?_
  refine VL_val rfl rfl rfl (yd_field0 rfl T.fldz89_2 ((hS.old _ (Array.getElem?_eq_some_iff.1 hfc).1 (hM _ fp_bf)).trans hfc)) ?_
  refine VL_val rfl rfl rfl (yd_loadE rfl T.agg87) ?_
  refine VL_val rfl rfl rfl (yd_move rfl) ?_
  refine VL_defer rfl rfl rfl rfl ?_
  refine VL_nil ?_
  refine VE_then ?_
  refine VC_seq ?_
  refine VC_region ?_
  refine VL_val rfl rfl rfl (yd_move rfl) ?_
  refine VL_val rfl rfl rfl (yd_nilc rfl) ?_
  refine VL_val rfl rfl rfl (yd_field rfl T.fld89_1) ?_
  refine VL_val rfl rfl rfl (yd_load rfl T.one72 (hS.cell (hA.blocks) (hM _ fp_bf))) ?_
  refine VL_val rfl rfl rfl (yd_len rfl Try.underlying72) ?_
  refine VL_makeM Value.pointer none (l := 0) rfl rfl rfl rfl rfl rfl Try.underlying72 T.e82 rfl rfl (by omega) (by omega) (by omega) hS ?_
  clear hS; intro b6 w hS
  have hS := hS.mkrow 2 (c := G.length) (sz := 1) rfl (by simp) (by omega)
  refine VL_val rfl rfl rfl (yd_assign rfl) ?_
  refine VL_nil ?_
  refine VE_then ?_
  refine VC_seq ?_
  refine VC_region ?_
  refine VL_make (l := 0) (c := 32) rfl rfl rfl rfl rfl rfl Try.underlying114 T.e116 (by omega) (by omega) (by omega) hS ?_
  clear hS; intro b7 w hS
  have hS := hS.mkrow 3 (c := 32) (sz := 2) rfl (by rw [Array.length_toList, size_madeCells]) (by omega)
  refine VL_val rfl rfl rfl (yd_assign rfl) ?_
  refine VL_nil ?_
  refine VE_then ?_
  refine VC_seq ?_
  refine VC_region ?_
  refine VL_val rfl rfl rfl (yd_move rfl) ?_
  refine VL_val rfl rfl rfl (yd_move rfl) ?_
  refine VL_val rfl rfl rfl (yd_nilc rfl) ?_
  refine VL_val rfl rfl rfl (yd_field rfl T.fld89_0) ?_
  refine VL_val rfl rfl rfl (yd_load rfl T.one82 (hS.cell (hA.entry) (hM _ fp_bf))) ?_
  refine VL_val rfl rfl rfl (yd_build T.st116 (vs := [(0, _)]) rfl rfl) ?_
  refine VL_rel rfl rfl rfl (yr_bslice rfl Try.underlying114 T.e116 rfl (by decide) (by decide) hS) ?_
  clear hS; rintro _ w ⟨b38, rfl, hS⟩
  refine VL_rel rfl rfl rfl (yr_append rfl rfl Try.underlying114 T.e116 rfl (by decide) hS 3 rfl (hS.get 4 rfl) rfl (fun u hu => by rcases List.mem_cons.1 (show u ∈ [ptr (f.bb 0), .int .i64 0] from hu) with rfl | hu; rfl; cases List.mem_singleton.1 hu; rfl) (by omega) (by omega)) ?_
  clear hS; rintro v39 w ⟨hS, hnil⟩
  obtain ⟨bs0, cs0, rfl, hcs0⟩ := row_form (hS.get 3 rfl) (.inr (by omega))
  refine VL_val rfl rfl rfl (yd_assign rfl) ?_
  refine VL_nil ?_
  refine VE_then ?_
  refine VC_seq ?_
  refine VC_region ?_
  have hpos := hg.pos
  have hS := hS.sub (η' := _) (List.take_sublist 4 _)
  refine VL_val rfl rfl rfl (yd_move rfl) ?_
  refine VL_val rfl rfl rfl (yd_move rfl) ?_
  refine VL_val rfl rfl rfl (yd_nilc rfl) ?_
  refine VL_val rfl rfl rfl (yd_field rfl T.fld89_0) ?_
  refine VL_val rfl rfl rfl (yd_load rfl T.one82 (hS.cell (hA.entry) (hM _ fp_bf))) ?_
  refine VL_val rfl rfl rfl (yd_nilc rfl) ?_
  refine VL_val rfl rfl rfl (yd_field rfl T.fld93_0) ?_
  refine VL_val rfl rfl rfl (yd_load rfl T.one90 (hS.cell (hA.id 0 (by omega)) (hM _ (fp_bb (by omega))))) ?_
  refine VL_val rfl rfl rfl (yd_index0 rfl rfl Try.underlying25 T.sz4 (by omega)) ?_
  refine VL_storeM rfl rfl rfl rfl rfl T.one4 rfl hS 1 rfl (by simp; omega) rfl ?_
  clear hS; intro w hS
  refine VL_nil ?_
  refine VE_then ?_
  refine VC_seq ?_
  refine VC_block ?_
  refine VC_loop8 [1, 4, 5] [_, _, _] rfl (fun (t : Nat) (stk : List (Nat × Nat)) (ord : List Nat) (sn : List Bool) (bs : Nat) (cs : Nat) (bc : Nat × Nat) (pn : List Int) => [(7, .slice (some ⟨bs, 0, none⟩) stk.length cs), (6, .slice (some ⟨bc.1, 0, none⟩) ord.length bc.2)]) (fun (t : Nat) (stk : List (Nat × Nat)) (ord : List Nat) (sn : List Bool) (bs : Nat) (cs : Nat) (bc : Nat × Nat) (pn : List Int) w => dit G t = ⟨stk, ord⟩ ∧ t ≤ 66 ∧ SeenOK G ⟨stk, ord⟩ sn ∧ PnOK G ord pn ∧ St w0 (blk bp 21 (pn0.map (Value.int .i32))).fp [blk bp 21 (pn.map (Value.int .i32)), blk b5 4 (sn.map Value.bool), row (.slice (some ⟨bc.1, 0, none⟩) ord.length bc.2) 82 1 ord.length (ordV f ord), row (.slice (some ⟨bs, 0, none⟩) stk.length cs) 116 2 stk.length (stkC f stk)] w) (fun (t : Nat) (stk : List (Nat × Nat)) (ord : List Nat) (sn : List Bool) (bs : Nat) (cs : Nat) (bc : Nat × Nat) (pn : List Int) => 67 - t) 0 [(0, 0)] [] _ _ _ (_, _) _ ⟨rfl, rfl, trivial⟩ (⟨rfl, by omega, seen_init hg, hpn0, hS⟩) ?_
  clear hS; rintro t stk ord sn bs cs ⟨bo, co⟩ pn w ⟨hs, ht, hsn, hpn, hS⟩
  have hD := dinv_it hg t
  rw [hs] at hD
  have hall := nodup_len _ hD.nd hD.lt
  refine VC_seq ?_
  refine VC_seq ?_
  refine VC_region ?_
  refine VL_val rfl rfl rfl (yd_move rfl) ?_
  refine VL_val rfl rfl rfl (yd_len rfl Try.underlying114) ?_
  refine VL_val rfl rfl rfl (yd_gtr rfl rfl) ?_
  refine VL_nil ?_
  refine VE_then ?_
  refine VC_cond rfl (fun h51 => ?_) (fun h51 => ?_)
  · replace h51 := of_decide_eq_true h51
    obtain ⟨⟨b, i⟩, rest, rfl⟩ := List.exists_cons_of_length_pos (show 0 < stk.length by omega)
    simp only [DS.all, List.length_append, List.length_map, List.length_cons] at hall
    have hb : b < G.length := hD.lt b (by simp [DS.all])
    have ht60 : t ≤ 65 := dit_lt hg (by rw [hs]; simp)
    have hidx := hD.idx (b, i) (by simp)
    have hr4 := hg.row b hb
    have hi4 : i ≤ G[b]!.length := hidx.1
    obtain ⟨sa, sc, sb, hsuc, hsa, hscs, hsfp⟩ := hA.suc b hb
    refine VC_skip ?_
    refine VE_then ?_
    refine VC_block ?_
    refine VC_seq ?_
    refine VC_region ?_
    refine VL_val rfl rfl rfl (yd_move rfl) ?_
    refine VL_val rfl rfl rfl (yd_len rfl Try.underlying114) ?_
    refine VL_val rfl rfl rfl (yd_sub rfl rfl _ (wi_sub1 (by omega))) ?_
    refine VL_val rfl rfl rfl (yd_assign rfl) ?_
    refine VL_nil ?_
    refine VE_then ?_
    refine VC_seq ?_
    refine VC_region ?_
    refine VL_val rfl rfl rfl (yd_move rfl) ?_
    refine VL_val rfl rfl rfl (yd_move rfl) ?_
    refine VL_val rfl rfl rfl (yd_index rfl rfl Try.underlying114 T.sz116 (Nat.lt_succ_self _) _ (Nat.zero_add _)) ?_
    have htop := row_tail (C := stkC f rest) (L := [ptr (f.bb b), .int .i64 (i : Int)]) (stkC_cons f b i rest ▸ hS.get 3 rfl) (stkC_len f rest)
    refine VL_val rfl rfl rfl (yd_loadn [ptr (f.bb b), .int .i64 (i : Int)] rfl T.agg116 htop) ?_
    refine VL_alloc rfl rfl rfl rfl T.e116 hS ?_
    clear hS; intro b9 w hS
    refine VL_storeN (cs := [ptr (f.bb b), .int .i64 (i : Int)]) rfl rfl rfl rfl rfl T.agg116 (by intro u hu; simp at hu; rcases hu with rfl | rfl <;> rfl) hS 4 rfl (by simp [Value.cells]) ?_
    clear hS; intro w hS
    refine VL_nil ?_
    refine VE_then ?_
    refine VC_seq ?_
    refine VC_region ?_
    refine VL_val rfl rfl rfl (yd_field rfl T.fld116_0) ?_
    refine VL_val rfl rfl rfl (yd_load rfl T.one82 (blk_cell (hS.get 4 rfl) rfl)) ?_
    refine VL_val rfl rfl rfl (yd_assign rfl) ?_
    refine VL_nil ?_
    refine VE_then ?_
    refine VC_seq ?_
    refine VC_seq ?_
    refine VC_region ?_
    refine VL_val rfl rfl rfl (yd_field rfl T.fld116_1) ?_
    refine VL_val rfl rfl rfl (yd_load rfl T.one3 (blk_cell (hS.get 4 rfl) rfl)) ?_
    refine VL_val rfl rfl rfl (yd_assign rfl) ?_
    refine VL_nil ?_
    refine VE_then ?_
    refine VC_seq ?_
    refine VC_region ?_
    refine VL_val rfl rfl rfl (yd_move rfl) ?_
    refine VL_val rfl rfl rfl (yd_move rfl) ?_
    refine VL_val rfl rfl rfl (yd_nilc rfl) ?_
    refine VL_val rfl rfl rfl (yd_field rfl T.fld93_1) ?_
    refine VL_val rfl rfl rfl (yd_load rfl T.one91 (hS.cell (hsuc) (hM _ (fp_bb hb)))) ?_
    refine VL_val rfl rfl rfl (yd_len rfl Try.underlying91) ?_
    refine VL_val rfl rfl rfl (yd_lss rfl rfl) ?_
    refine VL_nil ?_
    refine VE_then ?_
    refine VC_cond rfl (fun h69 => ?_) (fun h69 => ?_)
    · replace h69 := of_decide_eq_true h69
      refine VC_seq ?_
      refine VC_region ?_
      refine VL_val rfl rfl rfl (yd_move rfl) ?_
      refine VL_val rfl rfl rfl (yd_move rfl) ?_
      refine VL_val rfl rfl rfl (yd_index rfl rfl Try.underlying114 T.sz116 (Nat.lt_succ_self _) _ (Nat.zero_add _)) ?_
      refine VL_val rfl rfl rfl (yd_field rfl T.fld116_1) ?_
      have htop := row_tail (C := stkC f rest) (L := [ptr (f.bb b), .int .i64 (i : Int)]) (stkC_cons f b i rest ▸ hS.get 3 rfl) (stkC_len f rest)
      refine VL_val rfl rfl rfl (yd_load rfl T.one3 (htop 1 _ rfl)) ?_
      refine VL_val rfl rfl rfl (yd_add rfl rfl _ (wi_add1 (by omega))) ?_
      refine VL_val rfl rfl rfl (yd_index rfl rfl Try.underlying114 T.sz116 (Nat.lt_succ_self _) _ (Nat.zero_add _)) ?_
      refine VL_val rfl rfl rfl (yd_field rfl T.fld116_1) ?_
      refine VL_storeR rfl rfl rfl rfl rfl T.one3 rfl hS 3 rfl (by rw [stkC_len]; simp only [List.length_cons]; omega) ?_
      clear hS; intro w hS
      rw [stkC_set] at hS
      refine VL_nil ?_
      refine VE_then ?_
      refine VC_seq ?_
      refine VC_region ?_
      obtain rfl := hsa (by omega)
      have hlt := hg.lt b hb i (by omega)
      refine VL_val rfl rfl rfl (yd_move rfl) ?_
      refine VL_val rfl rfl rfl (yd_nilc rfl) ?_
      refine VL_val rfl rfl rfl (yd_field rfl T.fld93_1) ?_
      refine VL_val rfl rfl rfl (yd_load rfl T.one91 (hS.cell (hsuc) (hM _ (fp_bb hb)))) ?_
      refine VL_val rfl rfl rfl (yd_move rfl) ?_
      refine VL_val rfl rfl rfl (yd_index0 rfl rfl Try.underlying91 T.sz96 (by omega)) ?_
      refine VL_val rfl rfl rfl (yd_loadn [ptr (f.bb G[b]![i]!)] rfl T.agg96 (one_cell (hS.cell (hscs i (by omega)) (hM _ (hsfp (by omega)))))) ?_
      refine VL_call rfl rfl rfl rfl T.call69 rfl (edgeBlock_ok) ?_
      clear htop; rintro _ w ⟨rfl, hR⟩
      have hS := hS.call0 hR
      refine VL_val rfl rfl rfl (yd_assign rfl) ?_
      refine VL_nil ?_
      refine VE_then ?_
      refine VC_seq ?_
      refine VC_seq ?_
      refine VC_region ?_
      refine VL_val rfl rfl rfl (yd_move rfl) ?_
      refine VL_val rfl rfl rfl (yd_move rfl) ?_
      refine VL_val rfl rfl rfl (yd_nilc rfl) ?_
      refine VL_val rfl rfl rfl (yd_field rfl T.fld93_0) ?_
      refine VL_val rfl rfl rfl (yd_load rfl T.one90 (hS.cell (hA.id _ hlt) (hM _ (fp_bb hlt)))) ?_
      refine VL_val rfl rfl rfl (yd_index0 rfl rfl Try.underlying25 T.sz4 (by omega)) ?_
      refine VL_val rfl rfl rfl (yd_load rfl T.one4 (blk_cellM (hS.get 1 rfl) (by rw [hsn.1]; omega))) ?_
      refine VL_val rfl rfl rfl (yd_not rfl) ?_
      refine VL_nil ?_
      refine VE_then ?_
      refine VC_cond rfl (fun h93 => ?_) (fun h93 => ?_)
      · replace h93 := V.nt h93
        have hnm : ¬ G[b]![i]! ∈ (⟨(b, i) :: rest, ord⟩ : DS).all := fun h => by have := (hsn.2 _ hlt).2 h; rw [h93] at this; cases this
        refine VC_seq ?_
        refine VC_region ?_
        refine VL_val rfl rfl rfl (yd_move rfl) ?_
        refine VL_val rfl rfl rfl (yd_move rfl) ?_
        refine VL_val rfl rfl rfl (yd_nilc rfl) ?_
        refine VL_val rfl rfl rfl (yd_field rfl T.fld93_0) ?_
        refine VL_val rfl rfl rfl (yd_load rfl T.one90 (hS.cell (hA.id _ hlt) (hM _ (fp_bb hlt)))) ?_
        refine VL_val rfl rfl rfl (yd_index0 rfl rfl Try.underlying25 T.sz4 (by omega)) ?_
        refine VL_storeM rfl rfl rfl rfl rfl T.one4 rfl hS 1 rfl (by rw [hsn.1]; omega) rfl ?_
        clear hS; intro w hS
        refine VL_nil ?_
        refine VE_then ?_
        refine VC_region ?_
        have hS := hS.sub (η' := _) (List.take_sublist 4 _)
        refine VL_val rfl rfl rfl (yd_move rfl) ?_
        refine VL_val rfl rfl rfl (yd_move rfl) ?_
        refine VL_val rfl rfl rfl (yd_build T.st116 (vs := [(0, _)]) rfl rfl) ?_
        refine VL_rel rfl rfl rfl (yr_bslice rfl Try.underlying114 T.e116 rfl (by decide) (by decide) hS) ?_
        clear hS; rintro _ w ⟨b103, rfl, hS⟩
        refine VL_rel rfl rfl rfl (yr_append rfl rfl Try.underlying114 T.e116 rfl (by decide) hS 3 rfl (hS.get 4 rfl) rfl (fun u hu => by rcases List.mem_cons.1 (show u ∈ [ptr (f.bb G[b]![i]!), .int .i64 0] from hu) with rfl | hu; rfl; cases List.mem_singleton.1 hu; rfl) (by simp only [List.length_cons]; omega) (by simp only [List.length_cons]; omega)) ?_
        clear hS; rintro v104 w ⟨hS, hnil⟩
        obtain ⟨bs1, cs1, rfl, hcs1⟩ := row_form (hS.get 3 rfl) (.inr (by omega))
        have hS := hS.sub (η' := _) (List.take_sublist 4 _)
        have e17 : stkC f ((b, i + 1) :: rest) ++ [ptr (f.bb G[b]![i]!), .int .i64 0] = stkC f ((G[b]![i]!, 0) :: (b, i + 1) :: rest) := (stkC_cons f _ 0 _).symm
        refine VL_val rfl rfl rfl (yd_assign rfl) ?_
        refine VL_nil ?_
        refine VE_then ?_
        refine VC_exit ?_
        refine VE_then_exit (VE_block_exit ?_)
        have hS : St w0 (blk bp 21 (pn0.map (Value.int .i32))).fp [blk bp 21 (pn.map (Value.int .i32)), blk b5 4 ((sn.set (G[b]![i]! + 1) true).map Value.bool), row (.slice (some ⟨bo, 0, none⟩) ord.length co) 82 1 ord.length (ordV f ord), row (.slice (some ⟨bs1, 0, none⟩) ((G[b]![i]!, 0) :: (b, i + 1) :: rest).length cs1) 116 2 ((G[b]![i]!, 0) :: (b, i + 1) :: rest).length (stkC f ((G[b]![i]!, 0) :: (b, i + 1) :: rest))] w := by rw [← e17]; exact hS
        exact VE_round8 (t + 1) ((G[b]![i]!, 0) :: (b, i + 1) :: rest) ord _ _ _ (bo, co) pn ⟨rfl, rfl, rfl, rfl, rfl, trivial⟩ ⟨by rw [dit, hs]; exact dstep_push rfl (by omega) hnm, by omega, seen_push hsn hlt (all_push _ _ _ _ _), hpn, hS⟩ (by omega)
      · replace h93 := V.nf h93
        have hm : G[b]![i]! ∈ (⟨(b, i) :: rest, ord⟩ : DS).all := (hsn.2 _ hlt).1 h93
        refine VC_skip ?_
        refine VE_then ?_
        refine VC_exit ?_
        refine VE_then_exit (VE_block_exit ?_)
        have hS := hS.sub (η' := _) (List.take_sublist 4 _)
        exact VE_round8 (t + 1) ((b, i + 1) :: rest) ord _ _ _ (bo, co) pn ⟨rfl, rfl, rfl, rfl, rfl, trivial⟩ ⟨by rw [dit, hs]; exact dstep_inc rfl (by omega) hm, by omega, seen_same hsn (fun _ => Iff.rfl), hpn, hS⟩ (by omega)
    · replace h69 := Int.not_lt.1 (of_decide_eq_false h69)
      refine VC_skip ?_
      refine VE_then ?_
      refine VC_seq ?_
      refine VC_region ?_
      have hcsl := row_le (hS.get 3 rfl)
      have hnb : b ∉ ord := fun h => by have := hD.nd; simp only [DS.all, List.map_cons] at this; exact (List.nodup_append.1 this).2.2 b h b (by simp) rfl
      refine VL_val rfl rfl rfl (yd_move rfl) ?_
      refine VL_val rfl rfl rfl (yd_move rfl) ?_
      refine VL_val rfl rfl rfl (yd_slice_hi rfl rfl Try.underlying114 ⟨_, T.sz116⟩ (show rest.length ≤ cs from by simp only [List.length_cons] at hcsl; omega)) ?_
      have hS := hS.pop 3 (m := rest.length) rfl (Nat.le_succ _)
      rw [stkC_take] at hS
      refine VL_val rfl rfl rfl (yd_assign rfl) ?_
      refine VL_nil ?_
      refine VE_then ?_
      refine VC_seq ?_
      refine VC_seq ?_
      refine VC_region ?_
      refine VL_val rfl rfl rfl (yd_move rfl) ?_
      refine VL_val rfl rfl rfl (yd_neqnil rfl Try.underlying113) ?_
      refine VL_nil ?_
      refine VE_then ?_
      refine VC_cond_t' rfl (rfl) ?_
      refine VC_region ?_
      refine VL_val rfl rfl rfl (yd_move rfl) ?_
      refine VL_val rfl rfl rfl (yd_move rfl) ?_
      refine VL_val rfl rfl rfl (yd_nilc rfl) ?_
      refine VL_val rfl rfl rfl (yd_field rfl T.fld93_0) ?_
      refine VL_val rfl rfl rfl (yd_load rfl T.one90 (hS.cell (hA.id b hb) (hM _ (fp_bb hb)))) ?_
      refine VL_val rfl rfl rfl (yd_move rfl) ?_
      refine VL_val rfl rfl rfl (yd_len rfl Try.underlying72) ?_
      refine VL_val rfl rfl rfl (yd_conv rfl ⟨_, Try.underlying3⟩ Try.underlying21 _ (wi32_nat (by omega))) ?_
      refine VL_val rfl rfl rfl (yd_index0 rfl rfl Try.underlying113 T.sz21 (by omega)) ?_
      refine VL_storeM rfl rfl rfl rfl rfl T.one21 rfl hS 0 rfl (by rw [hpn.1]; omega) rfl ?_
      clear hS; intro w hS
      refine VL_nil ?_
      refine VE_then ?_
      refine VC_region ?_
      refine VL_val rfl rfl rfl (yd_move rfl) ?_
      refine VL_val rfl rfl rfl (yd_move rfl) ?_
      refine VL_rel rfl rfl rfl (yr_bslice rfl Try.underlying72 T.e82 rfl (by decide) (by decide) hS) ?_
      clear hS; rintro _ w ⟨b121, rfl, hS⟩
      refine VL_rel rfl rfl rfl (yr_append rfl rfl Try.underlying72 T.e82 rfl (by decide) hS 2 rfl (hS.get 5 rfl) rfl (fun u hu => by cases List.mem_singleton.1 (show u ∈ [ptr (f.bb b)] from hu); rfl) (by omega) (by omega)) ?_
      clear hS; rintro v122 w ⟨hS, hnil⟩
      obtain ⟨bo1, co1, rfl, hco1⟩ := row_form (hS.get 2 rfl) (.inr (by omega))
      have hS := hS.sub (η' := _) (List.take_sublist 4 _)
      refine VL_val rfl rfl rfl (yd_assign rfl) ?_
      refine VL_nil ?_
      refine VE_block_normal ?_
      have hS : St w0 (blk bp 21 (pn0.map (Value.int .i32))).fp [blk bp 21 ((pn.set (b + 1) (ord.length : Int)).map (Value.int .i32)), blk b5 4 (sn.map Value.bool), row (.slice (some ⟨bo1, 0, none⟩) (ord ++ [b]).length co1) 82 1 (ord ++ [b]).length (ordV f (ord ++ [b])), row (.slice (some ⟨bs, 0, none⟩) rest.length cs) 116 2 rest.length (stkC f rest)] w := by rw [ordV_snoc, List.length_append]; exact hS
      refine VE_round8 (t + 1) rest (ord ++ [b]) sn bs cs (bo1, co1) (pn.set (b + 1) (ord.length : Int)) ⟨rfl, ?_, rfl, rfl, rfl, trivial⟩ ⟨by rw [dit, hs]; exact dstep_pop rfl (by omega), by omega, seen_same hsn (all_pop _ _ _ _), pn_snoc hpn hb hnb, hS⟩ (by omega)
      rw [List.length_append]; rfl
  · replace h51 := Int.not_lt.1 (of_decide_eq_false h51)
    obtain rfl : stk = [] := List.eq_nil_of_length_eq_zero (by omega)
    refine VC_exit ?_
    refine VE_then_exit (VE_then_exit (VE_block_exit ?_))
    refine VE_then ?_
    refine VC_seq ?_
    refine VC_region ?_
    refine VL_val rfl rfl rfl (yd_move rfl) ?_
    refine VL_val rfl rfl rfl (yd_assign rfl) ?_
    refine VL_nil ?_
    refine VE_then ?_
    refine VC_ret ?_
    refine VE_ret1D rfl rfl ?_
    intro tmps ht22
    refine leaves_one T.call63 freeBool_ok ?_
    intro w1 hR
    have hS := hS.call0 hR
    refine leaves_nil1 rfl ht22 ?_
    have e := dit_post (G := G) (t := t) (by rw [hs]) ht
    rw [hs] at e
    subst e
    exact ⟨bo, co, pn, rfl, hpn, hS.sub (List.Sublist.cons_cons _ (List.Sublist.cons _ (List.Sublist.cons_cons _ (List.nil_sublist _))))⟩

end Go.Proofs.Ytmoooaaiohplhac
