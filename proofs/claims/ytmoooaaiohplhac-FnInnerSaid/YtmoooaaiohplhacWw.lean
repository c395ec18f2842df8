/- nodes, Tree, ancestors, the order of dominators. -/
import Derived.Test.YtmoooaaiohplhacWv
import Derived.Test.YtmoooaaiohplhacWr
namespace Go.Proofs.Ytmoooaaiohplhac
open Go Go.V
set_option linter.unusedVariables false
set_option maxRecDepth 100000

theorem T.agg64 : AggT Try.prog 64 5 := ⟨⟨_, Try.underlying64, rfl⟩, by kernel_rfl⟩
theorem T.agg98 : AggT Try.prog 98 5 := ⟨⟨_, Try.underlying98, rfl⟩, by kernel_rfl⟩
theorem T.e57 : ElemT Try.prog 57 5 40 (.agg #[(.int .i64 0), (.int .i64 0), (.int .i64 0), (.int .i64 0), (.int .i64 0)]) := ElemT.of (by kernel_rfl)
theorem T.e64 : ElemT Try.prog 64 5 40 (.agg #[(.int .i64 0), (.int .i64 0), (.int .i64 0), (.int .i64 0), (.int .i64 0)]) := ElemT.of (by kernel_rfl)
theorem T.fld64_0 : FieldT Try.prog 64 0 0 := FieldT.of (by kernel_rfl)
theorem T.fld64_1 : FieldT Try.prog 64 1 1 := FieldT.of (by kernel_rfl)
theorem T.fld64_2 : FieldT Try.prog 64 2 2 := FieldT.of (by kernel_rfl)
theorem T.fld64_3 : FieldT Try.prog 64 3 3 := FieldT.of (by kernel_rfl)
theorem T.fld64_4 : FieldT Try.prog 64 4 4 := FieldT.of (by kernel_rfl)
theorem T.st57 : StructT Try.prog 57 [(0, 1), (1, 1), (2, 1), (3, 1), (4, 1)] [(.int .i64 0), (.int .i64 0), (.int .i64 0), (.int .i64 0), (.int .i64 0)] := ⟨⟨_, Try.underlying57, by kernel_rfl⟩, ⟨_, rfl, by kernel_rfl⟩⟩
theorem T.st64 : StructT Try.prog 64 [(0, 1), (1, 1), (2, 1), (3, 1), (4, 1)] [(.int .i64 0), (.int .i64 0), (.int .i64 0), (.int .i64 0), (.int .i64 0)] := ⟨⟨_, Try.underlying64, by kernel_rfl⟩, ⟨_, rfl, by kernel_rfl⟩⟩
theorem T.sz64 : (Try.prog.info? 64).map (·.size) = some 5 := by kernel_rfl
theorem T.call34 : CallT Try.prog 34 := CallT.of Try.func34 (by kernel_rfl) (by kernel_rfl)
theorem T.call35 : CallT Try.prog 35 := CallT.of Try.func35 (by kernel_rfl) (by kernel_rfl)
theorem T.call44 : CallT Try.prog 44 := CallT.of Try.func44 (by kernel_rfl) (by kernel_rfl)
theorem T.call45 : CallT Try.prog 45 := CallT.of Try.func45 (by kernel_rfl) (by kernel_rfl)

open Go.PL
theorem numberP_ok {w0 : World} {f : FRep} {G : Graph} (hF : (funcR f G).holds w0) (hg : Gd G) {o : Option Nat} (ho : ∀ i, o = some i → i < G.length) : Calls Try.prog 52 #[pP f o] w0 (Ret fun u w' => u = .int .i64 (nO o) ∧ w0 = w') := by
  rw [pP_eq]; exact number_ok hF hg ho
theorem TOK.lt {G : Graph} {P : Nat → Option Nat} {r : Nat → Nat} {t : TRep} (hg : Gd G) (hT : TreeP G P r) (h : TOK G P t) : (∀ x i, t.ch x = some i → i < G.length) ∧ (∀ x i, t.sb x = some i → i < G.length) ∧ ∀ x i, t.pa x = some i → i < G.length := by
  have := h.toTB.lt hg hT
  exact ⟨this.1, this.2, fun x i e => by rw [h.pa] at e; exact (postL_ok hg).lt i (hT.mem x i e).2⟩
theorem TOK.anc {G : Graph} {P : Nat → Option Nat} {t : TRep} (h : TOK G P t) {x y : Nat} (hx : x ∈ postL G) (hy : y ∈ postL G) : (x = y ∨ (t.en x ≤ t.en y ∧ t.ex y ≤ t.ex x)) ↔ Abv P x y := by
  by_cases e : x = y
  · subst e; exact ⟨fun _ => .refl _, fun _ => .inl rfl⟩
  · rw [h.num.eq x y hx hy e]; exact ⟨fun h => h.resolve_left e, .inr⟩
theorem TOK.sanc {G : Graph} {P : Nat → Option Nat} {t : TRep} (h : TOK G P t) {x y : Nat} (hx : x ∈ postL G) (hy : y ∈ postL G) : (x ≠ y ∧ (t.en x < t.en y ∧ t.ex y < t.ex x)) ↔ x ≠ y ∧ Abv P x y := by
  rw [← h.num.nest x y hx hy]; exact ⟨fun h => ⟨h.1, h.2.2⟩, fun h => ⟨h.1, h⟩⟩

set_option maxHeartbeats 1000000 in
theorem nodes_ok {w0 : World} {f : FRep} {G : Graph} {t : TRep} {tb : Nat} (hF : (funcR f G).holds w0) (hg : Gd G) (hb : (blk tb 98 (tcells f G.length t)).holds w0) (hl : ∀ c, t.en c ≤ 1000 ∧ t.ex c ≤ 1000) (hlt : (∀ x i, t.ch x = some i → i < G.length) ∧ (∀ x i, t.sb x = some i → i < G.length) ∧ ∀ x i, t.pa x = some i → i < G.length) : Calls Try.prog 44 #[ptr f.bf, .slice (some ⟨tb, 0, none⟩) (G.length + 1) (G.length + 1)] w0 (Ret fun u w' => St w0 M0 [row u 64 5 G.length (nodeC G.length t)] w') := by
  have hA := funcAt hF
  have hle := hg.le
  have hS := St.refl w0
  refine V_enter (N := 46) Try.func44 rfl Try.ntmps44 rfl ?_
  refine VC.sub (τ := [(0, _), (1, _)]) ⟨rfl, rfl, trivial⟩ ?_
  refine VC_seq ?_
  refine VC_region ?_
  refine VL_val rfl rfl rfl (yd_assign rfl) ?_
  refine VL_nil ?_
  refine VE_then ?_
  refine VC_seq ?_
  refine VC_region ?_
  refine VL_val rfl rfl rfl (yd_assign rfl) ?_
  refine VL_nil ?_
  refine VE_then ?_
  refine VC_seq ?_
  refine VC_seq ?_
  refine VC_region ?_
  refine VL_val rfl rfl rfl (yd_move rfl) ?_
  refine VL_val rfl rfl rfl (yd_nilc rfl) ?_
  refine VL_val rfl rfl rfl (yd_field rfl T.fld89_1) ?_
  refine VL_val rfl rfl rfl (yd_load rfl T.one72 (hS.cell0 hA.blocks)) ?_
  refine VL_val rfl rfl rfl (yd_len rfl Try.underlying72) ?_
  refine VL_val rfl rfl rfl (yd_move rfl) ?_
  refine VL_nil ?_
  refine VE_then ?_
  refine VC_block ?_
  have hS := St_nils hS (L := [row (.slice none 0 0) 64 5 0 []]) (by intro r hr; simp at hr; subst hr; exact ⟨⟨rfl, .inl ⟨rfl, rfl⟩⟩, fun b hb => by simp [row, Value.ownBlock] at hb⟩)
  refine VC_loop2 [1, 4, 12, 13] [_, _, _, _] rfl (fun (k : Nat) (r : Value) => [(14, .int .i64 ((k : Nat) : Int)), (5, r)]) (fun (k : Nat) (r : Value) w => k ≤ G.length ∧ St w0 M0 [row r 64 5 k (nodeC k t)] w) (fun (k : Nat) (r : Value) => G.length - k) 0 (.slice none 0 0) ⟨rfl, rfl, trivial⟩ (⟨Nat.zero_le _, hS⟩) ?_
  clear hS; rintro k r w ⟨hk, hS⟩
  refine VC_seq ?_
  refine VC_region ?_
  refine VL_val rfl rfl rfl (yd_lss rfl rfl) ?_
  refine VL_nil ?_
  refine VE_then ?_
  refine VC_seq ?_
  refine VC_cond rfl (fun h15 => ?_) (fun h15 => ?_)
  · replace h15 := of_decide_eq_true h15
    refine VC_skip ?_
    refine VE_then ?_
    refine VC_seq ?_
    refine VC_block ?_
    refine VC_seq ?_
    refine VC_region ?_
    have hkl : k < G.length := by omega
    have hlk := hl k
    refine VL_val rfl rfl rfl (yd_index0 rfl rfl Try.underlying72 T.sz82 (by omega)) ?_
    refine VL_val rfl rfl rfl (yd_load rfl T.one82 (hS.cell0 (hA.blk k hkl))) ?_
    refine VL_val rfl rfl rfl (yd_assign rfl) ?_
    refine VL_nil ?_
    refine VE_then ?_
    refine VC_seq ?_
    refine VC_region ?_
    refine VL_val rfl rfl rfl (yd_move rfl) ?_
    refine VL_val rfl rfl rfl (yd_move rfl) ?_
    refine VL_val rfl rfl rfl (yd_nilc rfl) ?_
    refine VL_val rfl rfl rfl (yd_field rfl T.fld93_0) ?_
    refine VL_val rfl rfl rfl (yd_load rfl T.one90 (hS.cell0 (hA.id k hkl))) ?_
    refine VL_val rfl rfl rfl (yd_index rfl rfl Try.underlying69 T.sz98 (by omega) ((k + 1) * 5) (Nat.zero_add _)) ?_
    refine VL_val rfl rfl rfl (yd_loadn [pP f (t.ch k), pP f (t.sb k), pP f (t.pa k), .int .i32 ((t.en k : Nat) : Int), .int .i32 ((t.ex k : Nat) : Int)] rfl T.agg98 (tc_all (hS.keep0 hb) hkl)) ?_
    refine VL_alloc rfl rfl rfl rfl T.e98 hS ?_
    clear hS; intro b8 w hS
    refine VL_storeN (cs := [pP f (t.ch k), pP f (t.sb k), pP f (t.pa k), .int .i32 ((t.en k : Nat) : Int), .int .i32 ((t.ex k : Nat) : Int)]) rfl rfl rfl rfl rfl T.agg98 (by intro u hu; simp only [List.mem_cons, List.not_mem_nil, or_false] at hu; rcases hu with rfl | rfl | rfl | rfl | rfl <;> rfl) hS 1 rfl (by simp [Value.cells]) ?_
    clear hS; intro w hS
    have hS : St w0 M0 [row r 64 5 k (nodeC k t), blk b8 98 [pP f (t.ch k), pP f (t.sb k), pP f (t.pa k), .int .i32 ((t.en k : Nat) : Int), .int .i32 ((t.ex k : Nat) : Int)]] w := hS
    refine VL_nil ?_
    refine VE_then ?_
    refine VC_drawS (fun w => (blk b8 98 [pP f (t.ch k), pP f (t.sb k), pP f (t.pa k), .int .i32 ((t.en k : Nat) : Int), .int .i32 ((t.ex k : Nat) : Int)]).holds w) T.mixed hS ?_
    clear hS; intro w hS
    refine VA_take (i := 0) rfl rfl rfl rfl (by kernel_rfl) (by kernel_rfl) (by kernel_rfl) #[true, false, false, false, false, false, false, false, false, false, false, false, false, false, false, false, false, false, false, false] (by kernel_rfl) (fun _ _ _ _ h => h) (fun w hC => yd_move rfl) ?_
    refine VA_take (i := 1) rfl rfl rfl rfl (by kernel_rfl) (by kernel_rfl) (by kernel_rfl) #[true, true, false, false, false, false, false, false, false, false, false, false, false, false, false, false, false, false, false, false] (by kernel_rfl) (fun _ _ _ _ h => h) (fun w hC => yd_field rfl T.fld98_2) ?_
    refine VA_take (i := 2) rfl rfl rfl rfl (by kernel_rfl) (by kernel_rfl) (by kernel_rfl) #[true, true, true, false, false, false, false, false, false, false, false, false, false, false, false, false, false, false, false, false] (by kernel_rfl) (fun _ _ _ _ h => h) (fun w hC => yd_load rfl T.one82 (blk_cell hC rfl)) ?_
    refine VA_take (i := 4) rfl rfl rfl rfl (by kernel_rfl) (by kernel_rfl) (by kernel_rfl) #[true, true, true, false, true, false, false, false, false, false, false, false, false, false, false, false, false, false, false, false] (by kernel_rfl) (fun _ _ _ _ h => h) (fun w hC => yd_field rfl T.fld98_0) ?_
    refine VA_take (i := 5) rfl rfl rfl rfl (by kernel_rfl) (by kernel_rfl) (by kernel_rfl) #[true, true, true, false, true, true, false, false, false, false, false, false, false, false, false, false, false, false, false, false] (by kernel_rfl) (fun _ _ _ _ h => h) (fun w hC => yd_load rfl T.one82 (blk_cell hC rfl)) ?_
    refine VA_take (i := 7) rfl rfl rfl rfl (by kernel_rfl) (by kernel_rfl) (by kernel_rfl) #[true, true, true, false, true, true, false, true, false, false, false, false, false, false, false, false, false, false, false, false] (by kernel_rfl) (fun _ _ _ _ h => h) (fun w hC => yd_field rfl T.fld98_1) ?_
    refine VA_take (i := 8) rfl rfl rfl rfl (by kernel_rfl) (by kernel_rfl) (by kernel_rfl) #[true, true, true, false, true, true, false, true, true, false, false, false, false, false, false, false, false, false, false, false] (by kernel_rfl) (fun _ _ _ _ h => h) (fun w hC => yd_load rfl T.one82 (blk_cell hC rfl)) ?_
    refine VA_take (i := 10) rfl rfl rfl rfl (by kernel_rfl) (by kernel_rfl) (by kernel_rfl) #[true, true, true, false, true, true, false, true, true, false, true, false, false, false, false, false, false, false, false, false] (by kernel_rfl) (fun _ _ _ _ h => h) (fun w hC => yd_field rfl T.fld98_3) ?_
    refine VA_take (i := 11) rfl rfl rfl rfl (by kernel_rfl) (by kernel_rfl) (by kernel_rfl) #[true, true, true, false, true, true, false, true, true, false, true, true, false, false, false, false, false, false, false, false] (by kernel_rfl) (fun _ _ _ _ h => h) (fun w hC => yd_load rfl T.one21 (blk_cell hC rfl)) ?_
    refine VA_take (i := 12) rfl rfl rfl rfl (by kernel_rfl) (by kernel_rfl) (by kernel_rfl) #[true, true, true, false, true, true, false, true, true, false, true, true, true, false, false, false, false, false, false, false] (by kernel_rfl) (fun _ _ _ _ h => h) (fun w hC => yd_conv rfl ⟨_, Try.underlying21⟩ Try.underlying3 ((t.en k : Nat) : Int) (by rw [wi64 (by omega) (by omega)])) ?_
    refine VA_take (i := 13) rfl rfl rfl rfl (by kernel_rfl) (by kernel_rfl) (by kernel_rfl) #[true, true, true, false, true, true, false, true, true, false, true, true, true, true, false, false, false, false, false, false] (by kernel_rfl) (fun _ _ _ _ h => h) (fun w hC => yd_field rfl T.fld98_4) ?_
    refine VA_take (i := 14) rfl rfl rfl rfl (by kernel_rfl) (by kernel_rfl) (by kernel_rfl) #[true, true, true, false, true, true, false, true, true, false, true, true, true, true, true, false, false, false, false, false] (by kernel_rfl) (fun _ _ _ _ h => h) (fun w hC => yd_load rfl T.one21 (blk_cell hC rfl)) ?_
    refine VA_take (i := 15) rfl rfl rfl rfl (by kernel_rfl) (by kernel_rfl) (by kernel_rfl) #[true, true, true, false, true, true, false, true, true, false, true, true, true, true, true, true, false, false, false, false] (by kernel_rfl) (fun _ _ _ _ h => h) (fun w hC => yd_conv rfl ⟨_, Try.underlying21⟩ Try.underlying3 ((t.ex k : Nat) : Int) (by rw [wi64 (by omega) (by omega)])) ?_
    refine VA_only (i := 3) (by kernel_rfl) (hS.get 1 rfl) ?_
    refine VS_call rfl (wanted_none rfl) #[true, true, true, true, true, true, false, true, true, false, true, true, true, true, true, true, false, false, false, false] (by kernel_rfl) rfl rfl rfl T.call52 rfl (numberP_ok (hS.func hF) hg (by first | exact hlt.1 k | exact hlt.2.1 k | exact hlt.2.2 k)) ?_
    rintro _ _ ⟨rfl, rfl⟩
    refine VA_only (i := 6) (by kernel_rfl) (hS.get 1 rfl) ?_
    refine VS_call rfl (wanted_none rfl) #[true, true, true, true, true, true, true, true, true, false, true, true, true, true, true, true, false, false, false, false] (by kernel_rfl) rfl rfl rfl T.call52 rfl (numberP_ok (hS.func hF) hg (by first | exact hlt.1 k | exact hlt.2.1 k | exact hlt.2.2 k)) ?_
    rintro _ _ ⟨rfl, rfl⟩
    refine VA_only (i := 9) (by kernel_rfl) (hS.get 1 rfl) ?_
    refine VS_call rfl (wanted_none rfl) #[true, true, true, true, true, true, true, true, true, true, true, true, true, true, true, true, false, false, false, false] (by kernel_rfl) rfl rfl rfl T.call52 rfl (numberP_ok (hS.func hF) hg (by first | exact hlt.1 k | exact hlt.2.1 k | exact hlt.2.2 k)) ?_
    rintro _ _ ⟨rfl, rfl⟩
    refine VA_take (i := 16) rfl rfl rfl rfl (by kernel_rfl) (by kernel_rfl) (by kernel_rfl) #[true, true, true, true, true, true, true, true, true, true, true, true, true, true, true, true, true, false, false, false] (by kernel_rfl) (fun _ _ _ _ h => h) (fun w hC => yd_build (cells := (node5 t k).toArray) T.st64 (vs := [(0, _), (1, _), (2, _), (3, _), (4, _)]) rfl rfl) ?_
    refine VA_only (i := 17) (by kernel_rfl) (hS.get 1 rfl) ?_
    refine VS_rel rfl (wanted_none rfl) #[true, true, true, true, true, true, true, true, true, true, true, true, true, true, true, true, true, true, false, false] (by kernel_rfl) rfl rfl (yr_bslice rfl Try.underlying54 T.e64 rfl (by decide) (by decide) hS) ?_
    clear hS; rintro _ w ⟨b42, rfl, hS⟩
    refine VA_only (i := 18) (by kernel_rfl) (hS.get 1 rfl) ?_
    refine VS_rel rfl (wanted_none rfl) #[true, true, true, true, true, true, true, true, true, true, true, true, true, true, true, true, true, true, true, false] (by kernel_rfl) rfl rfl (yr_append rfl rfl Try.underlying54 T.e64 rfl (by decide) hS 0 rfl (hS.get 2 rfl) rfl (fun u hu => node5_one u (show u ∈ node5 t k from hu)) (by omega) (by omega)) ?_
    clear hS; rintro v43 w ⟨hS, -⟩
    refine VA_take (i := 19) rfl rfl rfl rfl (by kernel_rfl) (by kernel_rfl) (by kernel_rfl) #[true, true, true, true, true, true, true, true, true, true, true, true, true, true, true, true, true, true, true, true] (by kernel_rfl) (fun _ _ _ _ h => h) (fun w hC => yd_assign rfl) ?_
    refine VA_done (by kernel_rfl) (hS.get 1 rfl) ?_
    refine VE_block_normal ?_
    refine VE_then ?_
    refine VC_region ?_
    refine VL_val rfl rfl rfl (yd_add rfl rfl ((k + 1 : Nat) : Int) (by rw [wi64 (by omega) (by omega)]; omega)) ?_
    refine VL_val rfl rfl rfl (yd_move rfl) ?_
    refine VL_nil ?_
    refine VE_round2 (k + 1) _ ⟨rfl, rfl, rfl, rfl, rfl, rfl, trivial⟩ ⟨by omega, ?_⟩ (by omega)
    rw [nodeC_snoc]
    exact hS.sub (List.Sublist.cons_cons _ (List.nil_sublist _))
  · replace h15 := Int.not_lt.1 (of_decide_eq_false h15)
    refine VC_exit ?_
    refine VE_then_exit (VE_then_exit (VE_block_exit ?_))
    refine VE_then ?_
    refine VC_seq ?_
    refine VC_region ?_
    refine VL_val rfl rfl rfl (yd_move rfl) ?_
    refine VL_val rfl rfl rfl (yd_assign rfl) ?_
    refine VL_nil ?_
    refine VE_then ?_
    refine VC_ret ?_
    refine VE_ret1 (rfl) rfl ?_
    obtain rfl : k = G.length := by omega
    exact hS

set_option maxHeartbeats 1000000 in
theorem implNodes_ok {w0 : World} {v : Value} {t : TRep} {n : Nat} (h0 : (row v 64 5 n (nodeC n t)).holds w0) (hp : 1 ≤ n) (hn : n ≤ 1000) : Calls Try.prog 34 #[v] w0 (Ret fun u w' => St w0 M0 [row u 57 5 n (nodeC n t)] w') := by
  have hS := St.refl w0
  obtain ⟨vb, vc, rfl, -⟩ := row_form h0 (.inr (by omega))
  refine V_enter (N := 29) Try.func34 rfl Try.ntmps34 rfl ?_
  refine VC.sub (τ := [(0, _)]) ⟨rfl, trivial⟩ ?_
  refine VC_seq ?_
  refine VC_region ?_
  refine VL_val rfl rfl rfl (yd_assign rfl) ?_
  refine VL_nil ?_
  refine VE_then ?_
  refine VC_seq ?_
  refine VC_region ?_
  refine VL_rel rfl rfl rfl (yr_bslice0 Try.underlying27 T.e57 hS) ?_
  clear hS; rintro _ w ⟨b6, rfl, hS⟩
  refine VL_val rfl rfl rfl (yd_assign rfl) ?_
  refine VL_nil ?_
  refine VE_then ?_
  refine VC_seq ?_
  refine VC_seq ?_
  refine VC_region ?_
  refine VL_val rfl rfl rfl (yd_move rfl) ?_
  refine VL_val rfl rfl rfl (yd_len rfl Try.underlying54) ?_
  refine VL_val rfl rfl rfl (yd_move rfl) ?_
  refine VL_nil ?_
  refine VE_then ?_
  refine VC_block ?_
  refine VC_loop2 [2, 7, 8] [_, _, _] rfl (fun (k : Nat) (r : Value) => [(9, .int .i64 ((k : Nat) : Int)), (3, r)]) (fun (k : Nat) (r : Value) w => k ≤ n ∧ St w0 M0 [row r 57 5 k (nodeC k t)] w) (fun (k : Nat) (r : Value) => n - k) 0 _ ⟨rfl, rfl, trivial⟩ (⟨Nat.zero_le _, hS⟩) ?_
  clear hS; rintro k r w ⟨hk, hS⟩
  refine VC_seq ?_
  refine VC_region ?_
  refine VL_val rfl rfl rfl (yd_lss rfl rfl) ?_
  refine VL_nil ?_
  refine VE_then ?_
  refine VC_seq ?_
  refine VC_cond rfl (fun h10 => ?_) (fun h10 => ?_)
  · replace h10 := of_decide_eq_true h10
    refine VC_skip ?_
    refine VE_then ?_
    refine VC_seq ?_
    refine VC_block ?_
    refine VC_seq ?_
    refine VC_region ?_
    have hkl : k < n := by omega
    refine VL_val rfl rfl rfl (yd_index rfl rfl Try.underlying54 T.sz64 (by omega) (k * 5) (Nat.zero_add _)) ?_
    refine VL_val rfl rfl rfl (yd_loadn (node5 t k) rfl T.agg64 (nc_all (hS.keep0 h0) hkl)) ?_
    refine VL_alloc rfl rfl rfl rfl T.e64 hS ?_
    clear hS; intro b5 w hS
    refine VL_storeN (cs := node5 t k) rfl rfl rfl rfl rfl T.agg64 node5_one hS 1 rfl (by simp [Value.cells, node5]) ?_
    clear hS; intro w hS
    refine VL_nil ?_
    refine VE_then ?_
    refine VC_region ?_
    refine VL_val rfl rfl rfl (yd_move rfl) ?_
    refine VL_val rfl rfl rfl (yd_field rfl T.fld64_0) ?_
    refine VL_val rfl rfl rfl (yd_load rfl T.one3 (blk_cell (hS.get 1 rfl) rfl)) ?_
    refine VL_val rfl rfl rfl (yd_field rfl T.fld64_1) ?_
    refine VL_val rfl rfl rfl (yd_load rfl T.one3 (blk_cell (hS.get 1 rfl) rfl)) ?_
    refine VL_val rfl rfl rfl (yd_field rfl T.fld64_2) ?_
    refine VL_val rfl rfl rfl (yd_load rfl T.one3 (blk_cell (hS.get 1 rfl) rfl)) ?_
    refine VL_val rfl rfl rfl (yd_field rfl T.fld64_3) ?_
    refine VL_val rfl rfl rfl (yd_load rfl T.one3 (blk_cell (hS.get 1 rfl) rfl)) ?_
    refine VL_val rfl rfl rfl (yd_field rfl T.fld64_4) ?_
    refine VL_val rfl rfl rfl (yd_load rfl T.one3 (blk_cell (hS.get 1 rfl) rfl)) ?_
    refine VL_val rfl rfl rfl (yd_build (cells := (node5 t k).toArray) T.st57 (vs := [(0, _), (1, _), (2, _), (3, _), (4, _)]) rfl rfl) ?_
    refine VL_rel rfl rfl rfl (yr_bslice rfl Try.underlying27 T.e57 rfl (by decide) (by decide) hS) ?_
    clear hS; rintro _ w ⟨b25, rfl, hS⟩
    refine VL_rel rfl rfl rfl (yr_append rfl rfl Try.underlying27 T.e57 rfl (by decide) hS 0 rfl (hS.get 2 rfl) rfl (fun u hu => node5_one u (show u ∈ node5 t k from hu)) (by omega) (by omega)) ?_
    clear hS; rintro v26 w ⟨hS, -⟩
    refine VL_val rfl rfl rfl (yd_assign rfl) ?_
    refine VL_nil ?_
    refine VE_block_normal ?_
    refine VE_then ?_
    refine VC_region ?_
    refine VL_val rfl rfl rfl (yd_add rfl rfl ((k + 1 : Nat) : Int) (by rw [wi64 (by omega) (by omega)]; omega)) ?_
    refine VL_val rfl rfl rfl (yd_move rfl) ?_
    refine VL_nil ?_
    refine VE_round2 (k + 1) _ ⟨rfl, rfl, rfl, rfl, rfl, trivial⟩ ⟨by omega, ?_⟩ (by omega)
    rw [nodeC_snoc]
    exact hS.sub (List.Sublist.cons_cons _ (List.nil_sublist _))
  · replace h10 := Int.not_lt.1 (of_decide_eq_false h10)
    refine VC_exit ?_
    refine VE_then_exit (VE_then_exit (VE_block_exit ?_))
    refine VE_then ?_
    refine VC_seq ?_
    refine VC_region ?_
    refine VL_val rfl rfl rfl (yd_move rfl) ?_
    refine VL_val rfl rfl rfl (yd_assign rfl) ?_
    refine VL_nil ?_
    refine VE_then ?_
    refine VC_ret ?_
    refine VE_ret1 (rfl) rfl ?_
    obtain rfl : k = n := by omega
    exact hS

theorem Tree_ok {w0 : World} {v : Value} {G : Graph} (hG : GraphAt w0 v G) (hg : Gd G) : Calls Try.prog 35 #[v] w0 (Ret fun u w' => ∃ L t, IdomsOK G L ∧ TOK G (fun y => L[y]!) t ∧ St w0 M0 [row u 64 5 G.length (nodeC G.length t)] w') := by
  have hS := St.refl w0
  refine V_enter (N := 10) Try.func35 rfl Try.ntmps35 rfl ?_
  refine VC.sub (τ := [(0, _)]) ⟨rfl, trivial⟩ ?_
  refine VC_seq ?_
  refine VC_region ?_
  refine VL_val rfl rfl rfl (yd_assign rfl) ?_
  refine VL_nil ?_
  refine VE_then ?_
  refine VC_seq ?_
  refine VC_region ?_
  refine VL_val rfl rfl rfl (yd_move rfl) ?_
  refine VL_call rfl rfl rfl rfl T.call43 rfl (newFunc_ok hG hg) ?_
  rintro _ w ⟨f, rfl, hP, hR⟩
  have hS := hS.call0 hR
  refine VL_val rfl rfl rfl (yd_assign rfl) ?_
  refine VL_nil ?_
  refine VE_then ?_
  refine VC_seq ?_
  refine VC_region ?_
  refine VL_val rfl rfl rfl (yd_move rfl) ?_
  refine VL_val rfl rfl rfl (yd_move rfl) ?_
  refine VL_call rfl rfl rfl rfl T.call45 rfl (sdom_ok (hS.get 0 rfl) hP hg) ?_
  rintro _ w ⟨tb, t, L, rfl, hid, hok, hR⟩
  have hS := hS.call0 hR
  refine VL_call rfl rfl rfl rfl T.call44 rfl (nodes_ok (hS.get 0 rfl) hg (hS.get 1 rfl) hok.le (hok.lt hg (tree_idoms hg hid))) ?_
  rintro u w hR
  have hS := hS.call0 hR
  refine VL_val rfl rfl rfl (yd_assign rfl) ?_
  refine VL_nil ?_
  refine VE_then ?_
  refine VC_ret ?_
  refine VE_ret1 (rfl) rfl ?_
  exact ⟨L, t, hid, hok, hS.sub (List.Sublist.cons _ (List.Sublist.cons _ (List.Sublist.refl _)))⟩

theorem implTree_ok {w0 : World} {v : Value} {G : Graph} (hG : GraphAt w0 v G) (hg : Gd G) : Calls Try.prog 16 #[v] w0 (Ret fun u w' => ∃ L t, IdomsOK G L ∧ TOK G (fun y => L[y]!) t ∧ St w0 M0 [row u 57 5 G.length (nodeC G.length t)] w') := by
  have hS := St.refl w0
  have hle := hg.le
  refine V_enter (N := 6) Try.func16 rfl Try.ntmps16 rfl ?_
  refine VC.sub (τ := [(0, _)]) ⟨rfl, trivial⟩ ?_
  refine VC_seq ?_
  refine VC_region ?_
  refine VL_val rfl rfl rfl (yd_assign rfl) ?_
  refine VL_nil ?_
  refine VE_then ?_
  refine VC_seq ?_
  refine VC_region ?_
  refine VL_val rfl rfl rfl (yd_move rfl) ?_
  refine VL_call rfl rfl rfl rfl T.call35 rfl (Tree_ok hG hg) ?_
  rintro u4 w ⟨L, t, hid, hok, hR⟩
  have hS := hS.call0 hR
  refine VL_call rfl rfl rfl rfl T.call34 rfl (implNodes_ok (hS.get 0 rfl) hg.pos (by omega)) ?_
  rintro u w hR
  have hS := hS.call0 hR
  refine VL_val rfl rfl rfl (yd_assign rfl) ?_
  refine VL_nil ?_
  refine VE_then ?_
  refine VC_ret ?_
  refine VE_ret1 (rfl) rfl ?_
  exact ⟨L, t, hid, hok, hS.sub (List.Sublist.cons _ (List.Sublist.refl _))⟩

theorem isAncestorEq_ok {w0 : World} {f : FRep} {G : Graph} {t : TRep} {tb x y : Nat} (hF : (funcR f G).holds w0) (hg : Gd G) (hb : (blk tb 98 (tcells f G.length t)).holds w0) (hx : x < G.length) (hy : y < G.length) : Calls Try.prog 64 #[.slice (some ⟨tb, 0, none⟩) (G.length + 1) (G.length + 1), ptr (f.bb x), ptr (f.bb y)] w0 (Ret fun u w' => ∃ b, u = .bool b ∧ (b = true ↔ x = y ∨ (t.en x ≤ t.en y ∧ t.ex y ≤ t.ex x)) ∧ St w0 M0 [] w') := by
  have hA := funcAt hF
  have hle := hg.le
  have hS := St.refl w0
  refine V_enter (N := 44) Try.func64 rfl Try.ntmps64 rfl ?_
  refine VC.sub (τ := [(0, _), (1, _), (2, _)]) ⟨rfl, rfl, rfl, trivial⟩ ?_
  refine VC_seq ?_
  refine VC_region ?_
  refine VL_val rfl rfl rfl (yd_assign rfl) ?_
  refine VL_nil ?_
  refine VE_then ?_
  refine VC_seq ?_
  refine VC_seq ?_
  refine VC_region ?_
  refine VL_val rfl rfl rfl (yd_move rfl) ?_
  refine VL_val rfl rfl rfl (yd_move rfl) ?_
  refine VL_val rfl rfl rfl (yd_eqlp rfl rfl Try.underlying82 T.sz93 (by decide) (hA.isC hx) (hA.isC hy)) ?_
  refine VL_nil ?_
  refine VE_then ?_
  refine VC_cond rfl (fun h11 => ?_) (fun h11 => ?_)
  · replace h11 := of_decide_eq_true h11
    have hxy : x = y := by apply hA.inj x y hx hy; simpa [ptr] using h11
    refine VC_seq ?_
    refine VC_region ?_
    refine VL_val rfl rfl rfl (yd_assign rfl) ?_
    refine VL_nil ?_
    refine VE_then ?_
    refine VC_ret ?_
    refine VE_then_ret (?_)
    refine VE_ret1 (rfl) rfl ?_
    exact ⟨_, rfl, ⟨fun _ => .inl hxy, fun _ => rfl⟩, hS⟩
  · replace h11 := of_decide_eq_false h11
    have hxy : x ≠ y := fun e => by subst e; exact h11 rfl
    refine VC_skip ?_
    refine VE_then ?_
    refine VC_seq ?_
    refine VC_region ?_
    refine VL_val rfl rfl rfl (yd_move rfl) ?_
    refine VL_val rfl rfl rfl (yd_move rfl) ?_
    refine VL_val rfl rfl rfl (yd_nilc rfl) ?_
    refine VL_val rfl rfl rfl (yd_field rfl T.fld93_0) ?_
    refine VL_val rfl rfl rfl (yd_load rfl T.one90 (hS.cell0 (hA.id x hx))) ?_
    refine VL_val rfl rfl rfl (yd_index rfl rfl Try.underlying69 T.sz98 (by omega) ((x + 1) * 5) (Nat.zero_add _)) ?_
    refine VL_val rfl rfl rfl (yd_assign rfl) ?_
    refine VL_nil ?_
    refine VE_then ?_
    refine VC_seq ?_
    refine VC_region ?_
    refine VL_val rfl rfl rfl (yd_move rfl) ?_
    refine VL_val rfl rfl rfl (yd_move rfl) ?_
    refine VL_val rfl rfl rfl (yd_nilc rfl) ?_
    refine VL_val rfl rfl rfl (yd_field rfl T.fld93_0) ?_
    refine VL_val rfl rfl rfl (yd_load rfl T.one90 (hS.cell0 (hA.id y hy))) ?_
    refine VL_val rfl rfl rfl (yd_index rfl rfl Try.underlying69 T.sz98 (by omega) ((y + 1) * 5) (Nat.zero_add _)) ?_
    refine VL_val rfl rfl rfl (yd_assign rfl) ?_
    refine VL_nil ?_
    refine VE_then ?_
    refine VC_seq ?_
    refine VC_draw T.mixed hS ?_
    clear hS; intro w hS
    refine VA_take (i := 0) rfl rfl rfl rfl (by kernel_rfl) (by kernel_rfl) (by kernel_rfl) #[true, false, false, false, false, false, false, false, false, false, false, false, false, false, false, false, false, false, false, false, false] (by kernel_rfl) (fun _ _ _ _ h => h) (fun w hS => yd_move rfl) ?_
    refine VA_take (i := 1) rfl rfl rfl rfl (by kernel_rfl) (by kernel_rfl) (by kernel_rfl) #[true, true, false, false, false, false, false, false, false, false, false, false, false, false, false, false, false, false, false, false, false] (by kernel_rfl) (fun _ _ _ _ h => h) (fun w hS => yd_nilc rfl) ?_
    refine VA_take (i := 2) rfl rfl rfl rfl (by kernel_rfl) (by kernel_rfl) (by kernel_rfl) #[true, true, true, false, false, false, false, false, false, false, false, false, false, false, false, false, false, false, false, false, false] (by kernel_rfl) (fun _ _ _ _ h => h) (fun w hS => yd_field rfl T.fld98_3) ?_
    refine VA_take (i := 3) rfl rfl rfl rfl (by kernel_rfl) (by kernel_rfl) (by kernel_rfl) #[true, true, true, true, false, false, false, false, false, false, false, false, false, false, false, false, false, false, false, false, false] (by kernel_rfl) (fun _ _ _ _ h => h) (fun w hS => yd_load rfl T.one21 (tc_en (hS.keep0 hb) hx)) ?_
    refine VA_take (i := 4) rfl rfl rfl rfl (by kernel_rfl) (by kernel_rfl) (by kernel_rfl) #[true, true, true, true, true, false, false, false, false, false, false, false, false, false, false, false, false, false, false, false, false] (by kernel_rfl) (fun _ _ _ _ h => h) (fun w hS => yd_move rfl) ?_
    refine VA_take (i := 5) rfl rfl rfl rfl (by kernel_rfl) (by kernel_rfl) (by kernel_rfl) #[true, true, true, true, true, true, false, false, false, false, false, false, false, false, false, false, false, false, false, false, false] (by kernel_rfl) (fun _ _ _ _ h => h) (fun w hS => yd_nilc rfl) ?_
    refine VA_take (i := 6) rfl rfl rfl rfl (by kernel_rfl) (by kernel_rfl) (by kernel_rfl) #[true, true, true, true, true, true, true, false, false, false, false, false, false, false, false, false, false, false, false, false, false] (by kernel_rfl) (fun _ _ _ _ h => h) (fun w hS => yd_field rfl T.fld98_3) ?_
    refine VA_take (i := 7) rfl rfl rfl rfl (by kernel_rfl) (by kernel_rfl) (by kernel_rfl) #[true, true, true, true, true, true, true, true, false, false, false, false, false, false, false, false, false, false, false, false, false] (by kernel_rfl) (fun _ _ _ _ h => h) (fun w hS => yd_load rfl T.one21 (tc_en (hS.keep0 hb) hy)) ?_
    refine VA_take (i := 8) rfl rfl rfl rfl (by kernel_rfl) (by kernel_rfl) (by kernel_rfl) #[true, true, true, true, true, true, true, true, true, false, false, false, false, false, false, false, false, false, false, false, false] (by kernel_rfl) (fun _ _ _ _ h => h) (fun w hS => yd_leq rfl rfl) ?_
    refine VA_take (i := 9) rfl rfl rfl rfl (by kernel_rfl) (by kernel_rfl) (by kernel_rfl) #[true, true, true, true, true, true, true, true, true, true, false, false, false, false, false, false, false, false, false, false, false] (by kernel_rfl) (fun _ _ _ _ h => h) (fun w hS => yd_move rfl) ?_
    refine VA_split 33 rfl (fun h33 => ?_) (fun h33 => ?_)
    · replace h33 := of_decide_eq_true h33
      refine VA_takeG (i := 10) rfl rfl rfl rfl rfl rfl rfl (by kernel_rfl) (by kernel_rfl) (by kernel_rfl) #[true, true, true, true, true, true, true, true, true, true, true, false, false, false, false, false, false, false, false, false, false] (by kernel_rfl) (fun _ _ _ _ h => h) (fun w hS => yd_move rfl) ?_
      refine VA_takeG (i := 11) rfl rfl rfl rfl rfl rfl rfl (by kernel_rfl) (by kernel_rfl) (by kernel_rfl) #[true, true, true, true, true, true, true, true, true, true, true, true, false, false, false, false, false, false, false, false, false] (by kernel_rfl) (fun _ _ _ _ h => h) (fun w hS => yd_nilc rfl) ?_
      refine VA_takeG (i := 12) rfl rfl rfl rfl rfl rfl rfl (by kernel_rfl) (by kernel_rfl) (by kernel_rfl) #[true, true, true, true, true, true, true, true, true, true, true, true, true, false, false, false, false, false, false, false, false] (by kernel_rfl) (fun _ _ _ _ h => h) (fun w hS => yd_field rfl T.fld98_4) ?_
      refine VA_takeG (i := 13) rfl rfl rfl rfl rfl rfl rfl (by kernel_rfl) (by kernel_rfl) (by kernel_rfl) #[true, true, true, true, true, true, true, true, true, true, true, true, true, true, false, false, false, false, false, false, false] (by kernel_rfl) (fun _ _ _ _ h => h) (fun w hS => yd_load rfl T.one21 (tc_ex (hS.keep0 hb) hy)) ?_
      refine VA_takeG (i := 14) rfl rfl rfl rfl rfl rfl rfl (by kernel_rfl) (by kernel_rfl) (by kernel_rfl) #[true, true, true, true, true, true, true, true, true, true, true, true, true, true, true, false, false, false, false, false, false] (by kernel_rfl) (fun _ _ _ _ h => h) (fun w hS => yd_move rfl) ?_
      refine VA_takeG (i := 15) rfl rfl rfl rfl rfl rfl rfl (by kernel_rfl) (by kernel_rfl) (by kernel_rfl) #[true, true, true, true, true, true, true, true, true, true, true, true, true, true, true, true, false, false, false, false, false] (by kernel_rfl) (fun _ _ _ _ h => h) (fun w hS => yd_nilc rfl) ?_
      refine VA_takeG (i := 16) rfl rfl rfl rfl rfl rfl rfl (by kernel_rfl) (by kernel_rfl) (by kernel_rfl) #[true, true, true, true, true, true, true, true, true, true, true, true, true, true, true, true, true, false, false, false, false] (by kernel_rfl) (fun _ _ _ _ h => h) (fun w hS => yd_field rfl T.fld98_4) ?_
      refine VA_takeG (i := 17) rfl rfl rfl rfl rfl rfl rfl (by kernel_rfl) (by kernel_rfl) (by kernel_rfl) #[true, true, true, true, true, true, true, true, true, true, true, true, true, true, true, true, true, true, false, false, false] (by kernel_rfl) (fun _ _ _ _ h => h) (fun w hS => yd_load rfl T.one21 (tc_ex (hS.keep0 hb) hx)) ?_
      refine VA_takeG (i := 18) rfl rfl rfl rfl rfl rfl rfl (by kernel_rfl) (by kernel_rfl) (by kernel_rfl) #[true, true, true, true, true, true, true, true, true, true, true, true, true, true, true, true, true, true, true, false, false] (by kernel_rfl) (fun _ _ _ _ h => h) (fun w hS => yd_leq rfl rfl) ?_
      refine VA_take (i := 19) rfl rfl rfl rfl (by kernel_rfl) (by kernel_rfl) (by kernel_rfl) #[true, true, true, true, true, true, true, true, true, true, true, true, true, true, true, true, true, true, true, true, false] (by kernel_rfl) (fun _ _ _ _ h => h) (fun w hS => yd_pick_t rfl rfl) ?_
      refine VA_take (i := 20) rfl rfl rfl rfl (by kernel_rfl) (by kernel_rfl) (by kernel_rfl) #[true, true, true, true, true, true, true, true, true, true, true, true, true, true, true, true, true, true, true, true, true] (by kernel_rfl) (fun _ _ _ _ h => h) (fun w hS => yd_assign rfl) ?_
      refine VA_done (by kernel_rfl) hS ?_
      refine VE_then ?_
      refine VC_ret ?_
      refine VE_ret1 (rfl) rfl ?_
      first
      | (refine ⟨_, rfl, ?_, hS⟩; rw [decide_eq_true_eq]; exact ⟨fun h => .inr ⟨by omega, by omega⟩, fun h => by rcases h with h | h <;> omega⟩)
      | exact ⟨_, rfl, ⟨fun h => (by cases h), fun h => by rcases h with h | h <;> omega⟩, hS⟩
    · replace h33 := Int.not_le.1 (of_decide_eq_false h33)
      refine VA_no (i := 10) rfl rfl rfl rfl rfl rfl rfl rfl (by kernel_rfl) (by kernel_rfl) (by kernel_rfl) #[true, true, true, true, true, true, true, true, true, true, true, false, false, false, false, false, false, false, false, false, false] (by kernel_rfl) (fun _ _ _ _ h => h) ?_
      refine VA_no (i := 11) rfl rfl rfl rfl rfl rfl rfl rfl (by kernel_rfl) (by kernel_rfl) (by kernel_rfl) #[true, true, true, true, true, true, true, true, true, true, true, true, false, false, false, false, false, false, false, false, false] (by kernel_rfl) (fun _ _ _ _ h => h) ?_
      refine VA_no (i := 12) rfl rfl rfl rfl rfl rfl rfl rfl (by kernel_rfl) (by kernel_rfl) (by kernel_rfl) #[true, true, true, true, true, true, true, true, true, true, true, true, true, false, false, false, false, false, false, false, false] (by kernel_rfl) (fun _ _ _ _ h => h) ?_
      refine VA_no (i := 13) rfl rfl rfl rfl rfl rfl rfl rfl (by kernel_rfl) (by kernel_rfl) (by kernel_rfl) #[true, true, true, true, true, true, true, true, true, true, true, true, true, true, false, false, false, false, false, false, false] (by kernel_rfl) (fun _ _ _ _ h => h) ?_
      refine VA_no (i := 14) rfl rfl rfl rfl rfl rfl rfl rfl (by kernel_rfl) (by kernel_rfl) (by kernel_rfl) #[true, true, true, true, true, true, true, true, true, true, true, true, true, true, true, false, false, false, false, false, false] (by kernel_rfl) (fun _ _ _ _ h => h) ?_
      refine VA_no (i := 15) rfl rfl rfl rfl rfl rfl rfl rfl (by kernel_rfl) (by kernel_rfl) (by kernel_rfl) #[true, true, true, true, true, true, true, true, true, true, true, true, true, true, true, true, false, false, false, false, false] (by kernel_rfl) (fun _ _ _ _ h => h) ?_
      refine VA_no (i := 16) rfl rfl rfl rfl rfl rfl rfl rfl (by kernel_rfl) (by kernel_rfl) (by kernel_rfl) #[true, true, true, true, true, true, true, true, true, true, true, true, true, true, true, true, true, false, false, false, false] (by kernel_rfl) (fun _ _ _ _ h => h) ?_
      refine VA_no (i := 17) rfl rfl rfl rfl rfl rfl rfl rfl (by kernel_rfl) (by kernel_rfl) (by kernel_rfl) #[true, true, true, true, true, true, true, true, true, true, true, true, true, true, true, true, true, true, false, false, false] (by kernel_rfl) (fun _ _ _ _ h => h) ?_
      refine VA_no (i := 18) rfl rfl rfl rfl rfl rfl rfl rfl (by kernel_rfl) (by kernel_rfl) (by kernel_rfl) #[true, true, true, true, true, true, true, true, true, true, true, true, true, true, true, true, true, true, true, false, false] (by kernel_rfl) (fun _ _ _ _ h => h) ?_
      refine VA_take (i := 19) rfl rfl rfl rfl (by kernel_rfl) (by kernel_rfl) (by kernel_rfl) #[true, true, true, true, true, true, true, true, true, true, true, true, true, true, true, true, true, true, true, true, false] (by kernel_rfl) (fun _ _ _ _ h => h) (fun w hS => yd_pick_f rfl rfl) ?_
      refine VA_take (i := 20) rfl rfl rfl rfl (by kernel_rfl) (by kernel_rfl) (by kernel_rfl) #[true, true, true, true, true, true, true, true, true, true, true, true, true, true, true, true, true, true, true, true, true] (by kernel_rfl) (fun _ _ _ _ h => h) (fun w hS => yd_assign rfl) ?_
      refine VA_done (by kernel_rfl) hS ?_
      refine VE_then ?_
      refine VC_ret ?_
      refine VE_ret1 (rfl) rfl ?_
      first
      | (refine ⟨_, rfl, ?_, hS⟩; rw [decide_eq_true_eq]; exact ⟨fun h => .inr ⟨by omega, by omega⟩, fun h => by rcases h with h | h <;> omega⟩)
      | exact ⟨_, rfl, ⟨fun h => (by cases h), fun h => by rcases h with h | h <;> omega⟩, hS⟩

theorem isAncestor_ok {w0 : World} {f : FRep} {G : Graph} {t : TRep} {tb x y : Nat} (hF : (funcR f G).holds w0) (hg : Gd G) (hb : (blk tb 98 (tcells f G.length t)).holds w0) (hx : x < G.length) (hy : y < G.length) : Calls Try.prog 66 #[.slice (some ⟨tb, 0, none⟩) (G.length + 1) (G.length + 1), ptr (f.bb x), ptr (f.bb y)] w0 (Ret fun u w' => ∃ b, u = .bool b ∧ (b = true ↔ x ≠ y ∧ (t.en x < t.en y ∧ t.ex y < t.ex x)) ∧ St w0 M0 [] w') := by
  have hA := funcAt hF
  have hle := hg.le
  have hS := St.refl w0
  refine V_enter (N := 44) Try.func66 rfl Try.ntmps66 rfl ?_
  refine VC.sub (τ := [(0, _), (1, _), (2, _)]) ⟨rfl, rfl, rfl, trivial⟩ ?_
  refine VC_seq ?_
  refine VC_region ?_
  refine VL_val rfl rfl rfl (yd_assign rfl) ?_
  refine VL_nil ?_
  refine VE_then ?_
  refine VC_seq ?_
  refine VC_seq ?_
  refine VC_region ?_
  refine VL_val rfl rfl rfl (yd_move rfl) ?_
  refine VL_val rfl rfl rfl (yd_move rfl) ?_
  refine VL_val rfl rfl rfl (yd_eqlp rfl rfl Try.underlying82 T.sz93 (by decide) (hA.isC hx) (hA.isC hy)) ?_
  refine VL_nil ?_
  refine VE_then ?_
  refine VC_cond rfl (fun h11 => ?_) (fun h11 => ?_)
  · replace h11 := of_decide_eq_true h11
    have hxy : x = y := by apply hA.inj x y hx hy; simpa [ptr] using h11
    refine VC_seq ?_
    refine VC_region ?_
    refine VL_val rfl rfl rfl (yd_assign rfl) ?_
    refine VL_nil ?_
    refine VE_then ?_
    refine VC_ret ?_
    refine VE_then_ret (?_)
    refine VE_ret1 (rfl) rfl ?_
    exact ⟨_, rfl, ⟨fun h => (by cases h), fun h => absurd hxy h.1⟩, hS⟩
  · replace h11 := of_decide_eq_false h11
    have hxy : x ≠ y := fun e => by subst e; exact h11 rfl
    refine VC_skip ?_
    refine VE_then ?_
    refine VC_seq ?_
    refine VC_region ?_
    refine VL_val rfl rfl rfl (yd_move rfl) ?_
    refine VL_val rfl rfl rfl (yd_move rfl) ?_
    refine VL_val rfl rfl rfl (yd_nilc rfl) ?_
    refine VL_val rfl rfl rfl (yd_field rfl T.fld93_0) ?_
    refine VL_val rfl rfl rfl (yd_load rfl T.one90 (hS.cell0 (hA.id x hx))) ?_
    refine VL_val rfl rfl rfl (yd_index rfl rfl Try.underlying69 T.sz98 (by omega) ((x + 1) * 5) (Nat.zero_add _)) ?_
    refine VL_val rfl rfl rfl (yd_assign rfl) ?_
    refine VL_nil ?_
    refine VE_then ?_
    refine VC_seq ?_
    refine VC_region ?_
    refine VL_val rfl rfl rfl (yd_move rfl) ?_
    refine VL_val rfl rfl rfl (yd_move rfl) ?_
    refine VL_val rfl rfl rfl (yd_nilc rfl) ?_
    refine VL_val rfl rfl rfl (yd_field rfl T.fld93_0) ?_
    refine VL_val rfl rfl rfl (yd_load rfl T.one90 (hS.cell0 (hA.id y hy))) ?_
    refine VL_val rfl rfl rfl (yd_index rfl rfl Try.underlying69 T.sz98 (by omega) ((y + 1) * 5) (Nat.zero_add _)) ?_
    refine VL_val rfl rfl rfl (yd_assign rfl) ?_
    refine VL_nil ?_
    refine VE_then ?_
    refine VC_seq ?_
    refine VC_draw T.mixed hS ?_
    clear hS; intro w hS
    refine VA_take (i := 0) rfl rfl rfl rfl (by kernel_rfl) (by kernel_rfl) (by kernel_rfl) #[true, false, false, false, false, false, false, false, false, false, false, false, false, false, false, false, false, false, false, false, false] (by kernel_rfl) (fun _ _ _ _ h => h) (fun w hS => yd_move rfl) ?_
    refine VA_take (i := 1) rfl rfl rfl rfl (by kernel_rfl) (by kernel_rfl) (by kernel_rfl) #[true, true, false, false, false, false, false, false, false, false, false, false, false, false, false, false, false, false, false, false, false] (by kernel_rfl) (fun _ _ _ _ h => h) (fun w hS => yd_nilc rfl) ?_
    refine VA_take (i := 2) rfl rfl rfl rfl (by kernel_rfl) (by kernel_rfl) (by kernel_rfl) #[true, true, true, false, false, false, false, false, false, false, false, false, false, false, false, false, false, false, false, false, false] (by kernel_rfl) (fun _ _ _ _ h => h) (fun w hS => yd_field rfl T.fld98_3) ?_
    refine VA_take (i := 3) rfl rfl rfl rfl (by kernel_rfl) (by kernel_rfl) (by kernel_rfl) #[true, true, true, true, false, false, false, false, false, false, false, false, false, false, false, false, false, false, false, false, false] (by kernel_rfl) (fun _ _ _ _ h => h) (fun w hS => yd_load rfl T.one21 (tc_en (hS.keep0 hb) hx)) ?_
    refine VA_take (i := 4) rfl rfl rfl rfl (by kernel_rfl) (by kernel_rfl) (by kernel_rfl) #[true, true, true, true, true, false, false, false, false, false, false, false, false, false, false, false, false, false, false, false, false] (by kernel_rfl) (fun _ _ _ _ h => h) (fun w hS => yd_move rfl) ?_
    refine VA_take (i := 5) rfl rfl rfl rfl (by kernel_rfl) (by kernel_rfl) (by kernel_rfl) #[true, true, true, true, true, true, false, false, false, false, false, false, false, false, false, false, false, false, false, false, false] (by kernel_rfl) (fun _ _ _ _ h => h) (fun w hS => yd_nilc rfl) ?_
    refine VA_take (i := 6) rfl rfl rfl rfl (by kernel_rfl) (by kernel_rfl) (by kernel_rfl) #[true, true, true, true, true, true, true, false, false, false, false, false, false, false, false, false, false, false, false, false, false] (by kernel_rfl) (fun _ _ _ _ h => h) (fun w hS => yd_field rfl T.fld98_3) ?_
    refine VA_take (i := 7) rfl rfl rfl rfl (by kernel_rfl) (by kernel_rfl) (by kernel_rfl) #[true, true, true, true, true, true, true, true, false, false, false, false, false, false, false, false, false, false, false, false, false] (by kernel_rfl) (fun _ _ _ _ h => h) (fun w hS => yd_load rfl T.one21 (tc_en (hS.keep0 hb) hy)) ?_
    refine VA_take (i := 8) rfl rfl rfl rfl (by kernel_rfl) (by kernel_rfl) (by kernel_rfl) #[true, true, true, true, true, true, true, true, true, false, false, false, false, false, false, false, false, false, false, false, false] (by kernel_rfl) (fun _ _ _ _ h => h) (fun w hS => yd_lss rfl rfl) ?_
    refine VA_take (i := 9) rfl rfl rfl rfl (by kernel_rfl) (by kernel_rfl) (by kernel_rfl) #[true, true, true, true, true, true, true, true, true, true, false, false, false, false, false, false, false, false, false, false, false] (by kernel_rfl) (fun _ _ _ _ h => h) (fun w hS => yd_move rfl) ?_
    refine VA_split 33 rfl (fun h33 => ?_) (fun h33 => ?_)
    · replace h33 := of_decide_eq_true h33
      refine VA_takeG (i := 10) rfl rfl rfl rfl rfl rfl rfl (by kernel_rfl) (by kernel_rfl) (by kernel_rfl) #[true, true, true, true, true, true, true, true, true, true, true, false, false, false, false, false, false, false, false, false, false] (by kernel_rfl) (fun _ _ _ _ h => h) (fun w hS => yd_move rfl) ?_
      refine VA_takeG (i := 11) rfl rfl rfl rfl rfl rfl rfl (by kernel_rfl) (by kernel_rfl) (by kernel_rfl) #[true, true, true, true, true, true, true, true, true, true, true, true, false, false, false, false, false, false, false, false, false] (by kernel_rfl) (fun _ _ _ _ h => h) (fun w hS => yd_nilc rfl) ?_
      refine VA_takeG (i := 12) rfl rfl rfl rfl rfl rfl rfl (by kernel_rfl) (by kernel_rfl) (by kernel_rfl) #[true, true, true, true, true, true, true, true, true, true, true, true, true, false, false, false, false, false, false, false, false] (by kernel_rfl) (fun _ _ _ _ h => h) (fun w hS => yd_field rfl T.fld98_4) ?_
      refine VA_takeG (i := 13) rfl rfl rfl rfl rfl rfl rfl (by kernel_rfl) (by kernel_rfl) (by kernel_rfl) #[true, true, true, true, true, true, true, true, true, true, true, true, true, true, false, false, false, false, false, false, false] (by kernel_rfl) (fun _ _ _ _ h => h) (fun w hS => yd_load rfl T.one21 (tc_ex (hS.keep0 hb) hy)) ?_
      refine VA_takeG (i := 14) rfl rfl rfl rfl rfl rfl rfl (by kernel_rfl) (by kernel_rfl) (by kernel_rfl) #[true, true, true, true, true, true, true, true, true, true, true, true, true, true, true, false, false, false, false, false, false] (by kernel_rfl) (fun _ _ _ _ h => h) (fun w hS => yd_move rfl) ?_
      refine VA_takeG (i := 15) rfl rfl rfl rfl rfl rfl rfl (by kernel_rfl) (by kernel_rfl) (by kernel_rfl) #[true, true, true, true, true, true, true, true, true, true, true, true, true, true, true, true, false, false, false, false, false] (by kernel_rfl) (fun _ _ _ _ h => h) (fun w hS => yd_nilc rfl) ?_
      refine VA_takeG (i := 16) rfl rfl rfl rfl rfl rfl rfl (by kernel_rfl) (by kernel_rfl) (by kernel_rfl) #[true, true, true, true, true, true, true, true, true, true, true, true, true, true, true, true, true, false, false, false, false] (by kernel_rfl) (fun _ _ _ _ h => h) (fun w hS => yd_field rfl T.fld98_4) ?_
      refine VA_takeG (i := 17) rfl rfl rfl rfl rfl rfl rfl (by kernel_rfl) (by kernel_rfl) (by kernel_rfl) #[true, true, true, true, true, true, true, true, true, true, true, true, true, true, true, true, true, true, false, false, false] (by kernel_rfl) (fun _ _ _ _ h => h) (fun w hS => yd_load rfl T.one21 (tc_ex (hS.keep0 hb) hx)) ?_
      refine VA_takeG (i := 18) rfl rfl rfl rfl rfl rfl rfl (by kernel_rfl) (by kernel_rfl) (by kernel_rfl) #[true, true, true, true, true, true, true, true, true, true, true, true, true, true, true, true, true, true, true, false, false] (by kernel_rfl) (fun _ _ _ _ h => h) (fun w hS => yd_lss rfl rfl) ?_
      refine VA_take (i := 19) rfl rfl rfl rfl (by kernel_rfl) (by kernel_rfl) (by kernel_rfl) #[true, true, true, true, true, true, true, true, true, true, true, true, true, true, true, true, true, true, true, true, false] (by kernel_rfl) (fun _ _ _ _ h => h) (fun w hS => yd_pick_t rfl rfl) ?_
      refine VA_take (i := 20) rfl rfl rfl rfl (by kernel_rfl) (by kernel_rfl) (by kernel_rfl) #[true, true, true, true, true, true, true, true, true, true, true, true, true, true, true, true, true, true, true, true, true] (by kernel_rfl) (fun _ _ _ _ h => h) (fun w hS => yd_assign rfl) ?_
      refine VA_done (by kernel_rfl) hS ?_
      refine VE_then ?_
      refine VC_ret ?_
      refine VE_ret1 (rfl) rfl ?_
      first
      | (refine ⟨_, rfl, ?_, hS⟩; rw [decide_eq_true_eq]; exact ⟨fun h => ⟨hxy, by omega, by omega⟩, fun h => by omega⟩)
      | exact ⟨_, rfl, ⟨fun h => (by cases h), fun h => by omega⟩, hS⟩
    · replace h33 := Int.not_lt.1 (of_decide_eq_false h33)
      refine VA_no (i := 10) rfl rfl rfl rfl rfl rfl rfl rfl (by kernel_rfl) (by kernel_rfl) (by kernel_rfl) #[true, true, true, true, true, true, true, true, true, true, true, false, false, false, false, false, false, false, false, false, false] (by kernel_rfl) (fun _ _ _ _ h => h) ?_
      refine VA_no (i := 11) rfl rfl rfl rfl rfl rfl rfl rfl (by kernel_rfl) (by kernel_rfl) (by kernel_rfl) #[true, true, true, true, true, true, true, true, true, true, true, true, false, false, false, false, false, false, false, false, false] (by kernel_rfl) (fun _ _ _ _ h => h) ?_
      refine VA_no (i := 12) rfl rfl rfl rfl rfl rfl rfl rfl (by kernel_rfl) (by kernel_rfl) (by kernel_rfl) #[true, true, true, true, true, true, true, true, true, true, true, true, true, false, false, false, false, false, false, false, false] (by kernel_rfl) (fun _ _ _ _ h => h) ?_
      refine VA_no (i := 13) rfl rfl rfl rfl rfl rfl rfl rfl (by kernel_rfl) (by kernel_rfl) (by kernel_rfl) #[true, true, true, true, true, true, true, true, true, true, true, true, true, true, false, false, false, false, false, false, false] (by kernel_rfl) (fun _ _ _ _ h => h) ?_
      refine VA_no (i := 14) rfl rfl rfl rfl rfl rfl rfl rfl (by kernel_rfl) (by kernel_rfl) (by kernel_rfl) #[true, true, true, true, true, true, true, true, true, true, true, true, true, true, true, false, false, false, false, false, false] (by kernel_rfl) (fun _ _ _ _ h => h) ?_
      refine VA_no (i := 15) rfl rfl rfl rfl rfl rfl rfl rfl (by kernel_rfl) (by kernel_rfl) (by kernel_rfl) #[true, true, true, true, true, true, true, true, true, true, true, true, true, true, true, true, false, false, false, false, false] (by kernel_rfl) (fun _ _ _ _ h => h) ?_
      refine VA_no (i := 16) rfl rfl rfl rfl rfl rfl rfl rfl (by kernel_rfl) (by kernel_rfl) (by kernel_rfl) #[true, true, true, true, true, true, true, true, true, true, true, true, true, true, true, true, true, false, false, false, false] (by kernel_rfl) (fun _ _ _ _ h => h) ?_
      refine VA_no (i := 17) rfl rfl rfl rfl rfl rfl rfl rfl (by kernel_rfl) (by kernel_rfl) (by kernel_rfl) #[true, true, true, true, true, true, true, true, true, true, true, true, true, true, true, true, true, true, false, false, false] (by kernel_rfl) (fun _ _ _ _ h => h) ?_
      refine VA_no (i := 18) rfl rfl rfl rfl rfl rfl rfl rfl (by kernel_rfl) (by kernel_rfl) (by kernel_rfl) #[true, true, true, true, true, true, true, true, true, true, true, true, true, true, true, true, true, true, true, false, false] (by kernel_rfl) (fun _ _ _ _ h => h) ?_
      refine VA_take (i := 19) rfl rfl rfl rfl (by kernel_rfl) (by kernel_rfl) (by kernel_rfl) #[true, true, true, true, true, true, true, true, true, true, true, true, true, true, true, true, true, true, true, true, false] (by kernel_rfl) (fun _ _ _ _ h => h) (fun w hS => yd_pick_f rfl rfl) ?_
      refine VA_take (i := 20) rfl rfl rfl rfl (by kernel_rfl) (by kernel_rfl) (by kernel_rfl) #[true, true, true, true, true, true, true, true, true, true, true, true, true, true, true, true, true, true, true, true, true] (by kernel_rfl) (fun _ _ _ _ h => h) (fun w hS => yd_assign rfl) ?_
      refine VA_done (by kernel_rfl) hS ?_
      refine VE_then ?_
      refine VC_ret ?_
      refine VE_ret1 (rfl) rfl ?_
      first
      | (refine ⟨_, rfl, ?_, hS⟩; rw [decide_eq_true_eq]; exact ⟨fun h => ⟨hxy, by omega, by omega⟩, fun h => by omega⟩)
      | exact ⟨_, rfl, ⟨fun h => (by cases h), fun h => by omega⟩, hS⟩

end Go.Proofs.Ytmoooaaiohplhac
