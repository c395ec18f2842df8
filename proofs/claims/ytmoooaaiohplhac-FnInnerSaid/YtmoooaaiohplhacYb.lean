/- The nest handed out: Loops. -/
import Derived.Test.YtmoooaaiohplhacYa
import Derived.Test.YtmoooaaiohplhacVm
namespace Go.Proofs.Ytmoooaaiohplhac
open Go Go.V
set_option linter.unusedVariables false
set_option maxRecDepth 100000

theorem T.agg61 : AggT Try.prog 61 5 := ⟨⟨_, Try.underlying61, rfl⟩, by kernel_rfl⟩
theorem T.e45 : ElemT Try.prog 45 5 40 (.agg #[(.int .i64 0), (.int .i64 0), (.int .i64 0), (.int .i64 0), (.bool false)]) := ElemT.of (by kernel_rfl)
theorem T.e61 : ElemT Try.prog 61 5 40 (.agg #[(.int .i64 0), (.int .i64 0), (.int .i64 0), (.int .i64 0), (.bool false)]) := ElemT.of (by kernel_rfl)
theorem T.e74 : ElemT Try.prog 74 1 8 (.pointer none) := ElemT.of (by kernel_rfl)
theorem T.fld61_0 : FieldT Try.prog 61 0 0 := FieldT.of (by kernel_rfl)
theorem T.fld61_1 : FieldT Try.prog 61 1 1 := FieldT.of (by kernel_rfl)
theorem T.fld61_2 : FieldT Try.prog 61 2 2 := FieldT.of (by kernel_rfl)
theorem T.fld61_3 : FieldT Try.prog 61 3 3 := FieldT.of (by kernel_rfl)
theorem T.fld61_4 : FieldT Try.prog 61 4 4 := FieldT.of (by kernel_rfl)
theorem T.fld79_1 : FieldT Try.prog 79 1 1 := FieldT.of (by kernel_rfl)
theorem T.fld79_4 : FieldT Try.prog 79 4 4 := FieldT.of (by kernel_rfl)
theorem T.fld79_5 : FieldT Try.prog 79 5 5 := FieldT.of (by kernel_rfl)
theorem T.one74 : OneT Try.prog 74 := ⟨⟨_, Try.underlying74, rfl⟩, by kernel_rfl⟩
theorem T.one77 : OneT Try.prog 77 := ⟨⟨_, Try.underlying77, rfl⟩, by kernel_rfl⟩
theorem T.st45 : StructT Try.prog 45 [(0, 1), (1, 1), (2, 1), (3, 1), (4, 1)] [(.int .i64 0), (.int .i64 0), (.int .i64 0), (.int .i64 0), (.bool false)] := ⟨⟨_, Try.underlying45, by kernel_rfl⟩, ⟨_, rfl, by kernel_rfl⟩⟩
theorem T.st61 : StructT Try.prog 61 [(0, 1), (1, 1), (2, 1), (3, 1), (4, 1)] [(.int .i64 0), (.int .i64 0), (.int .i64 0), (.int .i64 0), (.bool false)] := ⟨⟨_, Try.underlying61, by kernel_rfl⟩, ⟨_, rfl, by kernel_rfl⟩⟩
theorem T.sz61 : (Try.prog.info? 61).map (·.size) = some 5 := by kernel_rfl
theorem T.call39 : CallT Try.prog 39 := CallT.of Try.func39 (by kernel_rfl) (by kernel_rfl)
theorem T.call50 : CallT Try.prog 50 := CallT.of Try.func50 (by kernel_rfl) (by kernel_rfl)
theorem T.call51 : CallT Try.prog 51 := CallT.of Try.func51 (by kernel_rfl) (by kernel_rfl)
theorem T.call53 : CallT Try.prog 53 := CallT.of Try.func53 (by kernel_rfl) (by kernel_rfl)

open Go.PL
/-- The number of a loop in the list. -/
def ixO (hs : List Nat) : Option Nat → Int
  | none => -1
  | some h => ((hs.idxOf h : Nat) : Int)
def dpO (s : LRep) : Option Nat → Nat
  | none => 0
  | some h => s.dp h
theorem idxOf_get {hs : List Nat} (hn : hs.Nodup) {k : Nat} (hk : k < hs.length) : hs.idxOf hs[k]! = k := by
  have hm : hs[k]! ∈ hs := by rw [getElem!_pos hs k hk]; exact List.getElem_mem _
  have hl := List.idxOf_lt_length_of_mem hm
  have e : hs[hs.idxOf hs[k]!] = hs[k]! := List.getElem_idxOf hl
  by_cases h : hs.idxOf hs[k]! = k
  · exact h
  · rcases Nat.lt_or_gt_of_ne h with h1 | h1
    · exact absurd (e.trans (getElem!_pos hs k hk)) ((List.pairwise_iff_getElem.1 hn) _ k hl hk h1)
    · exact absurd ((getElem!_pos hs k hk).symm.trans e.symm) ((List.pairwise_iff_getElem.1 hn) k _ hk hl h1)
/-- The cells of one loop of the list. -/
def l5 (hs : List Nat) (s : LRep) (h : Nat) : List Value := [.int .i64 ((h : Nat) : Int), .int .i64 (ixO hs (s.O h)), .int .i64 ((s.nb h : Nat) : Int), .int .i64 ((s.dp h : Nat) : Int), .bool (s.inn h)]
def loopC (hs : List Nat) (s : LRep) (l : List Nat) : List Value := l.flatMap (l5 hs s)
theorem loopC_snoc {hs : List Nat} {s : LRep} {l : List Nat} {k : Nat} (hk : k < l.length) : loopC hs s (l.take (k + 1)) = loopC hs s (l.take k) ++ l5 hs s l[k]! := by
  unfold loopC; rw [take_snoc' hk, List.flatMap_append]; simp
theorem l5_one {hs : List Nat} {s : LRep} {h : Nat} : ∀ u ∈ l5 hs s h, u.oneCell' = true := by
  intro u hu; simp only [l5, List.mem_cons, List.not_mem_nil, or_false] at hu; rcases hu with rfl | rfl | rfl | rfl | rfl <;> rfl
theorem flat5 {g : Nat → List Value} (hg : ∀ x, (g x).length = 5) : ∀ {l : List Nat} {q j : Nat}, q < l.length → j < 5 → (l.flatMap g)[q * 5 + j]? = (g l[q]!)[j]?
  | [], q, j, hq, _ => by simp at hq
  | x :: l, 0, j, _, hj => by
    rw [List.flatMap_cons, Nat.zero_mul, Nat.zero_add, List.getElem?_append_left (by rw [hg]; exact hj)]; rfl
  | x :: l, q + 1, j, hq, hj => by
    rw [List.flatMap_cons, List.getElem?_append_right (by rw [hg]; omega), hg, show (q + 1) * 5 + j - 5 = q * 5 + j by omega, flat5 hg (by simpa using hq) hj]; rfl
theorem l5_cell {w : World} {b c q : Nat} {T : TypeId} {hs : List Nat} {s : LRep} (h : (row (.slice (some ⟨b, 0, none⟩) hs.length c) T 5 hs.length (loopC hs s hs)).holds w) (hq : q < hs.length) : ∀ j v, (l5 hs s hs[q]!)[j]? = some v → w.cell? ⟨b, q * 5 + j, none⟩ = some v := by
  intro j v hv
  have hj : j < 5 := (List.getElem?_eq_some_iff.1 hv).1
  exact row_cell h (by unfold loopC; rw [flat5 (fun _ => rfl) hq hj]; exact hv)
theorem ixO_lt {hs : List Nat} {o : Option Nat} (ho : ∀ h, o = some h → h ∈ hs) : -1 ≤ ixO hs o ∧ ixO hs o < hs.length := by
  cases o with
  | none => exact ⟨by show (-1 : Int) ≤ -1; omega, by show (-1 : Int) < _; omega⟩
  | some h => have := List.idxOf_lt_length_of_mem (ho h rfl); exact ⟨by show (-1 : Int) ≤ ((hs.idxOf h : Nat) : Int); omega, by show ((hs.idxOf h : Nat) : Int) < _; omega⟩

theorem idx_ok {w0 : World} {f : FRep} {hs : List Nat} {lb : Nat → Nat} {s : LRep} {lvb lvc bn b7 : Nat} {x1 x2 x3 x4 x5 : Value} {o : Option Nat} (hnd : hs.Nodup) (hL : (loopsR f hs lb s).holds w0) (hl : (row (.slice (some ⟨lvb, 0, none⟩) hs.length lvc) 76 1 hs.length (hs.map fun h => ptr (lb h))).holds w0) (hn : (blk bn 79 [x1, x2, x3, x4, .slice (some ⟨lvb, 0, none⟩) hs.length lvc, x5]).holds w0) (h7 : (blk b7 74 [ptr bn]).holds w0) (hhl : hs.length ≤ 13) (ho : ∀ h, o = some h → h ∈ hs) : Calls Try.prog 51 #[.pointer (lA lb o), .pointer (some ⟨b7, 0, none⟩)] w0 (Ret fun u w' => u = .int .i64 (ixO hs o) ∧ w0 = w') := by
  refine V_enter (N := 21) Try.func51 rfl Try.ntmps51 rfl ?_
  refine VC.sub (τ := [(0, _), (1, _)]) ⟨rfl, rfl, trivial⟩ ?_
  refine VC_seq ?_
  refine VC_region ?_
  refine VL_val rfl rfl rfl (yd_assign rfl) ?_
  refine VL_nil ?_
  refine VE_then ?_
  refine VC_seq ?_
  refine VC_seq ?_
  refine VC_region ?_
  refine VL_val rfl rfl rfl (yd_load rfl T.one74 (blk_cell h7 rfl)) ?_
  refine VL_val rfl rfl rfl (yd_nilc rfl) ?_
  refine VL_val rfl rfl rfl (yd_field rfl T.fld79_4) ?_
  refine VL_val rfl rfl rfl (yd_load rfl T.one77 (blk_cell hn rfl)) ?_
  refine VL_val rfl rfl rfl (yd_len rfl Try.underlying77) ?_
  refine VL_val rfl rfl rfl (yd_move rfl) ?_
  refine VL_nil ?_
  refine VE_then ?_
  refine VC_block ?_
  refine VC_loop1 [0, 9, 10] [_, _, _] rfl (fun (k : Nat) => [(11, .int .i64 ((k : Nat) : Int))]) (fun (k : Nat) w => k ≤ hs.length ∧ (∀ q, q < k → o ≠ some hs[q]!) ∧ w0 = w) (fun (k : Nat) => hs.length - k) 0 ⟨rfl, trivial⟩ (⟨Nat.zero_le _, fun q h => absurd h (Nat.not_lt_zero _), rfl⟩) ?_
  rintro k w ⟨hk, hno, rfl⟩
  refine VC_seq ?_
  refine VC_region ?_
  refine VL_val rfl rfl rfl (yd_lss rfl rfl) ?_
  refine VL_nil ?_
  refine VE_then ?_
  refine VC_seq ?_
  refine VC_cond rfl (fun h12 => ?_) (fun h12 => ?_)
  · replace h12 := of_decide_eq_true h12
    refine VC_skip ?_
    refine VE_then ?_
    refine VC_seq ?_
    refine VC_block ?_
    refine VC_seq ?_
    refine VC_region ?_
    have hkl : k < hs.length := by omega
    have hkm : hs[k]! ∈ hs := by rw [getElem!_pos hs k hkl]; exact List.getElem_mem _
    refine VL_val rfl rfl rfl (yd_move rfl) ?_
    refine VL_val rfl rfl rfl (yd_index0 rfl rfl Try.underlying77 T.sz76 (by omega)) ?_
    refine VL_val rfl rfl rfl (yd_load rfl T.one76 (lrow_cell hl hkl)) ?_
    refine VL_val rfl rfl rfl (yd_assign rfl) ?_
    refine VL_val rfl rfl rfl (yd_assign rfl) ?_
    refine VL_nil ?_
    refine VE_then ?_
    refine VC_seq ?_
    refine VC_region ?_
    refine VL_val rfl rfl rfl (yd_move rfl) ?_
    refine VL_val rfl rfl rfl (yd_move rfl) ?_
    refine VL_val rfl rfl rfl (yd_eqlp rfl rfl Try.underlying76 T.sz85 (by decide) (blk_isC (loop_get hL hkm) 0) (isC_lA hL ho)) ?_
    refine VL_nil ?_
    refine VE_then ?_
    refine VC_cond rfl (fun h18 => ?_) (fun h18 => ?_)
    · replace h18 := of_decide_eq_true h18
      have hok : some hs[k]! = o := lA_inj hL (fun h e => by cases e; exact hkm) ho h18
      refine VC_seq ?_
      refine VC_region ?_
      refine VL_val rfl rfl rfl (yd_move rfl) ?_
      refine VL_val rfl rfl rfl (yd_assign rfl) ?_
      refine VL_nil ?_
      refine VE_then ?_
      refine VC_ret ?_
      refine VE_block_ret (VE_then_ret (VE_then_ret (VE_block_ret (VE_then_ret (?_)))))
      refine VE_ret1 (rfl) rfl ?_
      refine ⟨?_, rfl⟩
      rw [← hok]
      show _ = Value.int .i64 ((hs.idxOf hs[k]! : Nat) : Int)
      rw [idxOf_get hnd hkl]
    · replace h18 := of_decide_eq_false h18
      have hok : o ≠ some hs[k]! := fun e => h18 (by rw [e]; rfl)
      refine VC_skip ?_
      refine VE_block_normal ?_
      refine VE_then ?_
      refine VC_region ?_
      refine VL_val rfl rfl rfl (yd_add rfl rfl ((k + 1 : Nat) : Int) (by rw [wi64 (by omega) (by omega)]; omega)) ?_
      refine VL_val rfl rfl rfl (yd_move rfl) ?_
      refine VL_nil ?_
      exact VE_round1 (k + 1) ⟨rfl, rfl, rfl, rfl, trivial⟩ ⟨by omega, all_succ hno hok, rfl⟩ (by omega)
  · replace h12 := Int.not_lt.1 (of_decide_eq_false h12)
    refine VC_exit ?_
    refine VE_then_exit (VE_then_exit (VE_block_exit ?_))
    refine VE_then ?_
    refine VC_seq ?_
    refine VC_region ?_
    refine VL_val rfl rfl rfl (yd_assign rfl) ?_
    refine VL_nil ?_
    refine VE_then ?_
    refine VC_ret ?_
    refine VE_ret1 (rfl) rfl ?_
    refine ⟨?_, rfl⟩
    cases e : o with
    | none => rfl
    | some h =>
      obtain ⟨q, hq, e2⟩ := List.mem_iff_getElem.1 (ho h e)
      exact absurd (by rw [e, getElem!_pos hs q hq, e2]) (hno q (by omega))

theorem depth_ok {w0 : World} {f : FRep} {G : Graph} {hs : List Nat} {lb : Nat → Nat} {s : LRep} {B : Nat → Option Nat} {b31 bn x : Nat} {x1 x2 x3 x4 x5 : Value} (hL : (loopsR f hs lb s).holds w0) (hb : (blk b31 76 (b2c G.length lb B)).holds w0) (hn : (blk bn 79 [x1, .slice (some ⟨b31, 0, none⟩) (G.length + 1) (G.length + 1), x2, x3, x4, x5]).holds w0) (hB : ∀ y h, B y = some h → h ∈ hs) (hx : x < G.length) : Calls Try.prog 53 #[ptr bn, .int .i32 ((x + 1 : Nat) : Int)] w0 (Ret fun u w' => u = .int .i16 ((dpO s (B x) : Nat) : Int) ∧ w0 = w') := by
  refine V_enter (N := 19) Try.func53 rfl Try.ntmps53 rfl ?_
  refine VC.sub (τ := [(0, _), (1, _)]) ⟨rfl, rfl, trivial⟩ ?_
  refine VC_seq ?_
  refine VC_region ?_
  refine VL_val rfl rfl rfl (yd_assign rfl) ?_
  refine VL_nil ?_
  refine VE_then ?_
  refine VC_seq ?_
  refine VC_seq ?_
  refine VC_region ?_
  refine VL_val rfl rfl rfl (yd_move rfl) ?_
  refine VL_val rfl rfl rfl (yd_nilc rfl) ?_
  refine VL_val rfl rfl rfl (yd_field rfl T.fld79_1) ?_
  refine VL_val rfl rfl rfl (yd_load rfl T.one77 (blk_cell hn rfl)) ?_
  refine VL_val rfl rfl rfl (yd_move rfl) ?_
  refine VL_val rfl rfl rfl (yd_index0 rfl rfl Try.underlying77 T.sz76 (by omega)) ?_
  refine VL_val rfl rfl rfl (yd_load rfl T.one76 (b2_cell hb hx)) ?_
  refine VL_val rfl rfl rfl (yd_assign rfl) ?_
  refine VL_nil ?_
  refine VE_then ?_
  refine VC_seq ?_
  refine VC_region ?_
  refine VL_val rfl rfl rfl (yd_move rfl) ?_
  refine VL_val rfl rfl rfl (yd_neqp rfl rfl Try.underlying76 T.sz85 (by decide) (isC_lA hL (hB x)) isC_none) ?_
  refine VL_nil ?_
  refine VE_then ?_
  refine VC_cond rfl (fun h14 => ?_) (fun h14 => ?_)
  · replace h14 := of_decide_eq_true h14
    obtain ⟨q, hq⟩ : ∃ q, B x = some q := Option.ne_none_iff_exists'.1 (fun e => h14 (by rw [e]; rfl))
    refine VC_seq ?_
    refine VC_region ?_
    refine VL_val rfl rfl rfl (yd_move rfl) ?_
    refine VL_val rfl rfl rfl (yd_nilcO rfl (lA_some hq)) ?_
    refine VL_val rfl rfl rfl (yd_field rfl T.fld85_3) ?_
    refine VL_val rfl rfl rfl (yd_load rfl T.one83 (blk_cell (loop_get hL (hB x q hq)) rfl)) ?_
    refine VL_val rfl rfl rfl (yd_assign rfl) ?_
    refine VL_nil ?_
    refine VE_then ?_
    refine VC_ret ?_
    refine VE_then_ret (?_)
    refine VE_ret1 (rfl) rfl ?_
    exact ⟨by rw [hq]; rfl, rfl⟩
  · replace h14 := Decidable.not_not.1 (of_decide_eq_false h14)
    have hq := lA_none h14
    refine VC_skip ?_
    refine VE_then ?_
    refine VC_seq ?_
    refine VC_region ?_
    refine VL_val rfl rfl rfl (yd_assign rfl) ?_
    refine VL_nil ?_
    refine VE_then ?_
    refine VC_ret ?_
    refine VE_ret1 (rfl) rfl ?_
    exact ⟨by rw [hq]; rfl, rfl⟩

set_option maxHeartbeats 1000000 in
theorem Loops_ok {w0 : World} {v : Value} {G : Graph} (hG : GraphAt w0 v G) (hg : Gd G) (hw : ∀ x, x < G.length → Rc G 0 x) : Calls Try.prog 39 #[v] w0 (Ret fun u w' => ∃ (hs : List Nat) (s : LRep) (B : Nat → Option Nat) (irr : Bool) (v1 v2 v3 : Value), u = .tuple #[v1, v2, v3, .bool irr] ∧ NestOK G hs s B irr ∧ St w0 M0 [row v1 61 5 hs.length (loopC hs s hs), row v2 3 1 G.length (((List.range G.length).map fun x => ixO hs (B x)).map (Value.int .i64)), row v3 3 1 G.length (((List.range G.length).map fun x => ((dpO s (B x) : Nat) : Int)).map (Value.int .i64))] w') := by
  have hS := St.refl w0
  have hle := hg.le
  refine V_enter (N := 99) Try.func39 rfl Try.ntmps39 rfl ?_
  refine VC.sub (τ := [(0, _)]) ⟨rfl, trivial⟩ ?_
  refine VC_seq ?_
  refine VC_region ?_
  refine VL_val rfl rfl rfl (yd_assign rfl) ?_
  refine VL_val rfl rfl rfl (yd_assign rfl) ?_
  refine VL_val rfl rfl rfl (yd_assign rfl) ?_
  refine VL_val rfl rfl rfl (yd_assign rfl) ?_
  refine VL_nil ?_
  refine VE_then ?_
  refine VC_seq ?_
  refine VC_region ?_
  refine VL_val rfl rfl rfl (yd_move rfl) ?_
  refine VL_call rfl rfl rfl rfl T.call43 rfl (newFunc_ok hG hg) ?_
  rintro _ w ⟨f, rfl, hP, hR⟩
  have hS := hS.call0 hR
  refine VL_val rfl rfl rfl (yd_assign rfl) ?_
  refine VL_nil ?_
  refine VE_then ?_
  refine VC_seq ?_
  refine VC_region ?_
  refine VL_val rfl rfl rfl (yd_move rfl) ?_
  refine VL_call rfl rfl rfl rfl T.call50 rfl (loopnestfor_ok (hS.get 0 rfl) hP hg hw) ?_
  rintro _ w ⟨bn, b31, lvb, lvc, vp, vt, hs, lb, s, B, irr, rfl, hN, hR⟩
  have hS := hS.call0 hR
  have hhl : hs.length ≤ 13 := Nat.le_trans (nodup_len _ hN.nd hN.lt) hg.le
  have hOm : ∀ a p, s.O a = some p → p ∈ hs := fun a p e => (hN.oi.ok a p e).2.1
  refine VL_alloc rfl rfl rfl rfl T.e74 hS ?_
  clear hS; intro b7 w hS
  refine VL_store rfl rfl rfl rfl rfl T.one74 rfl hS 5 rfl (by simp [Value.cells]) ?_
  clear hS; intro w hS
  refine VL_nil ?_
  refine VE_then ?_
  refine VC_seq ?_
  refine VC_region ?_
  refine VL_val rfl rfl rfl (yd_mkfunc rfl) ?_
  refine VL_val rfl rfl rfl (yd_assign rfl) ?_
  refine VL_nil ?_
  refine VE_then ?_
  refine VC_seq ?_
  refine VC_seq ?_
  refine VC_region ?_
  refine VL_val rfl rfl rfl (yd_load rfl T.one74 (blk_cell (hS.get 5 rfl) rfl)) ?_
  refine VL_val rfl rfl rfl (yd_nilc rfl) ?_
  refine VL_val rfl rfl rfl (yd_field rfl T.fld79_4) ?_
  refine VL_val rfl rfl rfl (yd_load rfl T.one77 (blk_cell (hS.get 4 rfl) rfl)) ?_
  refine VL_val rfl rfl rfl (yd_len rfl Try.underlying77) ?_
  refine VL_val rfl rfl rfl (yd_move rfl) ?_
  refine VL_nil ?_
  refine VE_then ?_
  refine VC_block ?_
  have hS := St_nils hS (L := [row (.slice none 0 0) 61 5 0 []]) (by intro r hr; simp at hr; subst hr; exact ⟨⟨rfl, .inl ⟨rfl, rfl⟩⟩, fun b hb => by simp [row, Value.ownBlock] at hb⟩)
  refine VC_loop2 [3, 4, 5, 6, 7, 8, 21, 22] [_, _, _, _, _, _, _, _] rfl (fun (k : Nat) (r : Value) => [(23, .int .i64 ((k : Nat) : Int)), (2, r)]) (fun (k : Nat) (r : Value) w => k ≤ hs.length ∧ St w0 M0 [funcR f G, loopsR f hs lb s, blk b31 76 (b2c G.length lb B), row (.slice (some ⟨lvb, 0, none⟩) hs.length lvc) 76 1 hs.length (hs.map fun h => ptr (lb h)), blk bn 79 [ptr f.bf, .slice (some ⟨b31, 0, none⟩) (G.length + 1) (G.length + 1), vp, vt, .slice (some ⟨lvb, 0, none⟩) hs.length lvc, .bool irr], blk b7 74 [ptr bn], row r 61 5 k (loopC hs s (hs.take k))] w) (fun (k : Nat) (r : Value) => hs.length - k) 0 (.slice none 0 0) ⟨rfl, rfl, trivial⟩ (⟨Nat.zero_le _, hS⟩) ?_
  clear hS; rintro k r w ⟨hk, hS⟩
  refine VC_seq ?_
  refine VC_region ?_
  refine VL_val rfl rfl rfl (yd_lss rfl rfl) ?_
  refine VL_nil ?_
  refine VE_then ?_
  refine VC_seq ?_
  refine VC_cond rfl (fun h24 => ?_) (fun h24 => ?_)
  · replace h24 := of_decide_eq_true h24
    refine VC_skip ?_
    refine VE_then ?_
    refine VC_seq ?_
    refine VC_block ?_
    refine VC_seq ?_
    refine VC_region ?_
    have hkl : k < hs.length := by omega
    obtain ⟨h, hh⟩ : ∃ h, h = hs[k]! := ⟨_, rfl⟩
    have hhm : h ∈ hs := by rw [hh, getElem!_pos hs k hkl]; exact List.getElem_mem _
    have hnb := hN.nbl h
    have hdp := hN.dp h hhm
    have hcl : clv s.O G.length h ≤ G.length := clv_le
    refine VL_val rfl rfl rfl (yd_index0 rfl rfl Try.underlying77 T.sz76 (by omega)) ?_
    refine VL_val rfl rfl rfl (yd_load rfl T.one76 (show _ = some (ptr (lb h)) by rw [hh]; exact lrow_cell (hS.get 3 rfl) hkl)) ?_
    refine VL_val rfl rfl rfl (yd_assign rfl) ?_
    refine VL_nil ?_
    refine VE_then ?_
    refine VC_drawS (fun w => (loopsR f hs lb s).holds w) T.mixed hS ?_
    clear hS; intro w hS
    refine VA_take (i := 0) rfl rfl rfl rfl (by kernel_rfl) (by kernel_rfl) (by kernel_rfl) #[true, false, false, false, false, false, false, false, false, false, false, false, false, false, false, false, false, false, false, false, false, false, false, false, false, false, false, false, false, false] (by kernel_rfl) (fun _ _ _ _ h => h) (fun w hC => yd_move rfl) ?_
    refine VA_take (i := 1) rfl rfl rfl rfl (by kernel_rfl) (by kernel_rfl) (by kernel_rfl) #[true, true, false, false, false, false, false, false, false, false, false, false, false, false, false, false, false, false, false, false, false, false, false, false, false, false, false, false, false, false] (by kernel_rfl) (fun _ _ _ _ h => h) (fun w hC => yd_move rfl) ?_
    refine VA_take (i := 2) rfl rfl rfl rfl (by kernel_rfl) (by kernel_rfl) (by kernel_rfl) #[true, true, true, false, false, false, false, false, false, false, false, false, false, false, false, false, false, false, false, false, false, false, false, false, false, false, false, false, false, false] (by kernel_rfl) (fun _ _ _ _ h => h) (fun w hC => yd_nilc rfl) ?_
    refine VA_take (i := 3) rfl rfl rfl rfl (by kernel_rfl) (by kernel_rfl) (by kernel_rfl) #[true, true, true, true, false, false, false, false, false, false, false, false, false, false, false, false, false, false, false, false, false, false, false, false, false, false, false, false, false, false] (by kernel_rfl) (fun _ _ _ _ h => h) (fun w hC => yd_field rfl T.fld85_0) ?_
    refine VA_take (i := 4) rfl rfl rfl rfl (by kernel_rfl) (by kernel_rfl) (by kernel_rfl) #[true, true, true, true, true, false, false, false, false, false, false, false, false, false, false, false, false, false, false, false, false, false, false, false, false, false, false, false, false, false] (by kernel_rfl) (fun _ _ _ _ h => h) (fun w hC => yd_load rfl T.one82 (blk_cell (loop_get hC hhm) rfl)) ?_
    refine VA_take (i := 6) rfl rfl rfl rfl (by kernel_rfl) (by kernel_rfl) (by kernel_rfl) #[true, true, true, true, true, false, true, false, false, false, false, false, false, false, false, false, false, false, false, false, false, false, false, false, false, false, false, false, false, false] (by kernel_rfl) (fun _ _ _ _ h => h) (fun w hC => yd_move rfl) ?_
    refine VA_take (i := 7) rfl rfl rfl rfl (by kernel_rfl) (by kernel_rfl) (by kernel_rfl) #[true, true, true, true, true, false, true, true, false, false, false, false, false, false, false, false, false, false, false, false, false, false, false, false, false, false, false, false, false, false] (by kernel_rfl) (fun _ _ _ _ h => h) (fun w hC => yd_move rfl) ?_
    refine VA_take (i := 8) rfl rfl rfl rfl (by kernel_rfl) (by kernel_rfl) (by kernel_rfl) #[true, true, true, true, true, false, true, true, true, false, false, false, false, false, false, false, false, false, false, false, false, false, false, false, false, false, false, false, false, false] (by kernel_rfl) (fun _ _ _ _ h => h) (fun w hC => yd_nilc rfl) ?_
    refine VA_take (i := 9) rfl rfl rfl rfl (by kernel_rfl) (by kernel_rfl) (by kernel_rfl) #[true, true, true, true, true, false, true, true, true, true, false, false, false, false, false, false, false, false, false, false, false, false, false, false, false, false, false, false, false, false] (by kernel_rfl) (fun _ _ _ _ h => h) (fun w hC => yd_field rfl T.fld85_1) ?_
    refine VA_take (i := 10) rfl rfl rfl rfl (by kernel_rfl) (by kernel_rfl) (by kernel_rfl) #[true, true, true, true, true, false, true, true, true, true, true, false, false, false, false, false, false, false, false, false, false, false, false, false, false, false, false, false, false, false] (by kernel_rfl) (fun _ _ _ _ h => h) (fun w hC => yd_load rfl T.one76 (blk_cell (loop_get hC hhm) rfl)) ?_
    refine VA_take (i := 12) rfl rfl rfl rfl (by kernel_rfl) (by kernel_rfl) (by kernel_rfl) #[true, true, true, true, true, false, true, true, true, true, true, false, true, false, false, false, false, false, false, false, false, false, false, false, false, false, false, false, false, false] (by kernel_rfl) (fun _ _ _ _ h => h) (fun w hC => yd_move rfl) ?_
    refine VA_take (i := 13) rfl rfl rfl rfl (by kernel_rfl) (by kernel_rfl) (by kernel_rfl) #[true, true, true, true, true, false, true, true, true, true, true, false, true, true, false, false, false, false, false, false, false, false, false, false, false, false, false, false, false, false] (by kernel_rfl) (fun _ _ _ _ h => h) (fun w hC => yd_nilc rfl) ?_
    refine VA_take (i := 14) rfl rfl rfl rfl (by kernel_rfl) (by kernel_rfl) (by kernel_rfl) #[true, true, true, true, true, false, true, true, true, true, true, false, true, true, true, false, false, false, false, false, false, false, false, false, false, false, false, false, false, false] (by kernel_rfl) (fun _ _ _ _ h => h) (fun w hC => yd_field rfl T.fld85_2) ?_
    refine VA_take (i := 15) rfl rfl rfl rfl (by kernel_rfl) (by kernel_rfl) (by kernel_rfl) #[true, true, true, true, true, false, true, true, true, true, true, false, true, true, true, true, false, false, false, false, false, false, false, false, false, false, false, false, false, false] (by kernel_rfl) (fun _ _ _ _ h => h) (fun w hC => yd_load rfl T.one21 (blk_cell (loop_get hC hhm) rfl)) ?_
    refine VA_take (i := 16) rfl rfl rfl rfl (by kernel_rfl) (by kernel_rfl) (by kernel_rfl) #[true, true, true, true, true, false, true, true, true, true, true, false, true, true, true, true, true, false, false, false, false, false, false, false, false, false, false, false, false, false] (by kernel_rfl) (fun _ _ _ _ h => h) (fun w hC => yd_conv rfl ⟨_, Try.underlying21⟩ Try.underlying3 ((s.nb h : Nat) : Int) (by rw [wi64 (by omega) (by omega)])) ?_
    refine VA_take (i := 17) rfl rfl rfl rfl (by kernel_rfl) (by kernel_rfl) (by kernel_rfl) #[true, true, true, true, true, false, true, true, true, true, true, false, true, true, true, true, true, true, false, false, false, false, false, false, false, false, false, false, false, false] (by kernel_rfl) (fun _ _ _ _ h => h) (fun w hC => yd_move rfl) ?_
    refine VA_take (i := 18) rfl rfl rfl rfl (by kernel_rfl) (by kernel_rfl) (by kernel_rfl) #[true, true, true, true, true, false, true, true, true, true, true, false, true, true, true, true, true, true, true, false, false, false, false, false, false, false, false, false, false, false] (by kernel_rfl) (fun _ _ _ _ h => h) (fun w hC => yd_nilc rfl) ?_
    refine VA_take (i := 19) rfl rfl rfl rfl (by kernel_rfl) (by kernel_rfl) (by kernel_rfl) #[true, true, true, true, true, false, true, true, true, true, true, false, true, true, true, true, true, true, true, true, false, false, false, false, false, false, false, false, false, false] (by kernel_rfl) (fun _ _ _ _ h => h) (fun w hC => yd_field rfl T.fld85_3) ?_
    refine VA_take (i := 20) rfl rfl rfl rfl (by kernel_rfl) (by kernel_rfl) (by kernel_rfl) #[true, true, true, true, true, false, true, true, true, true, true, false, true, true, true, true, true, true, true, true, true, false, false, false, false, false, false, false, false, false] (by kernel_rfl) (fun _ _ _ _ h => h) (fun w hC => yd_load rfl T.one83 (blk_cell (loop_get hC hhm) rfl)) ?_
    refine VA_take (i := 21) rfl rfl rfl rfl (by kernel_rfl) (by kernel_rfl) (by kernel_rfl) #[true, true, true, true, true, false, true, true, true, true, true, false, true, true, true, true, true, true, true, true, true, true, false, false, false, false, false, false, false, false] (by kernel_rfl) (fun _ _ _ _ h => h) (fun w hC => yd_conv rfl ⟨_, Try.underlying83⟩ Try.underlying3 ((s.dp h : Nat) : Int) (by rw [wi64 (by omega) (by omega)])) ?_
    refine VA_take (i := 22) rfl rfl rfl rfl (by kernel_rfl) (by kernel_rfl) (by kernel_rfl) #[true, true, true, true, true, false, true, true, true, true, true, false, true, true, true, true, true, true, true, true, true, true, true, false, false, false, false, false, false, false] (by kernel_rfl) (fun _ _ _ _ h => h) (fun w hC => yd_move rfl) ?_
    refine VA_take (i := 23) rfl rfl rfl rfl (by kernel_rfl) (by kernel_rfl) (by kernel_rfl) #[true, true, true, true, true, false, true, true, true, true, true, false, true, true, true, true, true, true, true, true, true, true, true, true, false, false, false, false, false, false] (by kernel_rfl) (fun _ _ _ _ h => h) (fun w hC => yd_nilc rfl) ?_
    refine VA_take (i := 24) rfl rfl rfl rfl (by kernel_rfl) (by kernel_rfl) (by kernel_rfl) #[true, true, true, true, true, false, true, true, true, true, true, false, true, true, true, true, true, true, true, true, true, true, true, true, true, false, false, false, false, false] (by kernel_rfl) (fun _ _ _ _ h => h) (fun w hC => yd_field rfl T.fld85_4) ?_
    refine VA_take (i := 25) rfl rfl rfl rfl (by kernel_rfl) (by kernel_rfl) (by kernel_rfl) #[true, true, true, true, true, false, true, true, true, true, true, false, true, true, true, true, true, true, true, true, true, true, true, true, true, true, false, false, false, false] (by kernel_rfl) (fun _ _ _ _ h => h) (fun w hC => yd_load rfl T.one4 (blk_cell (loop_get hC hhm) rfl)) ?_
    refine VA_only (i := 5) (by kernel_rfl) (hS.get 1 rfl) ?_
    refine VS_call rfl (wanted_none rfl) #[true, true, true, true, true, true, true, true, true, true, true, false, true, true, true, true, true, true, true, true, true, true, true, true, true, true, false, false, false, false] (by kernel_rfl) rfl rfl rfl T.call52 rfl (number_some (hS.get 0 rfl) hg (hN.lt h hhm)) ?_
    rintro _ _ ⟨rfl, rfl⟩
    refine VA_only (i := 11) (by kernel_rfl) (hS.get 1 rfl) ?_
    refine VS_callC rfl (wanted_none rfl) #[true, true, true, true, true, true, true, true, true, true, true, true, true, true, true, true, true, true, true, true, true, true, true, true, true, true, false, false, false, false] (by kernel_rfl) rfl rfl rfl rfl T.call51 rfl (idx_ok (o := s.O h) hN.nd (hS.get 1 rfl) (hS.get 3 rfl) (hS.get 4 rfl) (hS.get 5 rfl) hhl (hOm h)) ?_
    rintro _ _ ⟨rfl, rfl⟩
    refine VA_take (i := 26) rfl rfl rfl rfl (by kernel_rfl) (by kernel_rfl) (by kernel_rfl) #[true, true, true, true, true, true, true, true, true, true, true, true, true, true, true, true, true, true, true, true, true, true, true, true, true, true, true, false, false, false] (by kernel_rfl) (fun _ _ _ _ h => h) (fun w hC => yd_build (cells := (l5 hs s h).toArray) T.st61 (vs := [(0, _), (1, _), (2, _), (3, _), (4, _)]) rfl rfl) ?_
    refine VA_only (i := 27) (by kernel_rfl) (hS.get 1 rfl) ?_
    refine VS_rel rfl (wanted_none rfl) #[true, true, true, true, true, true, true, true, true, true, true, true, true, true, true, true, true, true, true, true, true, true, true, true, true, true, true, true, false, false] (by kernel_rfl) rfl rfl (yr_bslice rfl Try.underlying58 T.e61 rfl (by decide) (by decide) hS) ?_
    clear hS; rintro _ w ⟨b54, rfl, hS⟩
    refine VA_only (i := 28) (by kernel_rfl) (hS.get 1 rfl) ?_
    refine VS_rel rfl (wanted_none rfl) #[true, true, true, true, true, true, true, true, true, true, true, true, true, true, true, true, true, true, true, true, true, true, true, true, true, true, true, true, true, false] (by kernel_rfl) rfl rfl (yr_append rfl rfl Try.underlying58 T.e61 rfl (by decide) hS 6 rfl (hS.get 7 rfl) rfl (fun u hu => l5_one u (show u ∈ l5 hs s h from hu)) (by omega) (by omega)) ?_
    clear hS; rintro v55 w ⟨hS, -⟩
    have hS := hS.sub (η' := _) (List.take_sublist 7 _)
    refine VA_take (i := 29) rfl rfl rfl rfl (by kernel_rfl) (by kernel_rfl) (by kernel_rfl) #[true, true, true, true, true, true, true, true, true, true, true, true, true, true, true, true, true, true, true, true, true, true, true, true, true, true, true, true, true, true] (by kernel_rfl) (fun _ _ _ _ h => h) (fun w hC => yd_assign rfl) ?_
    refine VA_done (by kernel_rfl) (hS.get 1 rfl) ?_
    refine VE_block_normal ?_
    refine VE_then ?_
    refine VC_region ?_
    refine VL_val rfl rfl rfl (yd_add rfl rfl ((k + 1 : Nat) : Int) (by rw [wi64 (by omega) (by omega)]; omega)) ?_
    refine VL_val rfl rfl rfl (yd_move rfl) ?_
    refine VL_nil ?_
    refine VE_round2 (k + 1) _ ⟨rfl, rfl, rfl, rfl, rfl, rfl, rfl, rfl, rfl, rfl, trivial⟩ ⟨by omega, ?_⟩ (by omega)
    rw [loopC_snoc hkl, ← hh]; exact hS
  · replace h24 := Int.not_lt.1 (of_decide_eq_false h24)
    refine VC_exit ?_
    refine VE_then_exit (VE_then_exit (VE_block_exit ?_))
    refine VE_then ?_
    refine VC_seq ?_
    refine VC_seq ?_
    refine VC_region ?_
    obtain rfl : k = hs.length := by omega
    rw [List.take_length] at hS
    refine VL_val rfl rfl rfl (yd_move rfl) ?_
    refine VL_val rfl rfl rfl (yd_nilc rfl) ?_
    refine VL_val rfl rfl rfl (yd_field rfl T.fld89_1) ?_
    refine VL_val rfl rfl rfl (yd_load rfl T.one72 ((funcAt (hS.get 0 rfl)).blocks)) ?_
    refine VL_val rfl rfl rfl (yd_len rfl Try.underlying72) ?_
    refine VL_val rfl rfl rfl (yd_move rfl) ?_
    refine VL_nil ?_
    refine VE_then ?_
    refine VC_block ?_
    have hS := St_nils hS (L := [row (.slice none 0 0) 3 1 0 []]) (by intro r hr; simp at hr; subst hr; exact ⟨⟨rfl, .inl ⟨rfl, rfl⟩⟩, fun b hb => by simp [row, Value.ownBlock] at hb⟩)
    have hS := St_nils hS (L := [row (.slice none 0 0) 3 1 0 []]) (by intro r hr; simp at hr; subst hr; exact ⟨⟨rfl, .inl ⟨rfl, rfl⟩⟩, fun b hb => by simp [row, Value.ownBlock] at hb⟩)
    refine VC_loop3 [2, 5, 7, 8, 60, 61] [_, _, _, _, _, _] rfl (fun (k : Nat) (r3 : Value) (r4 : Value) => [(62, .int .i64 ((k : Nat) : Int)), (3, r3), (4, r4)]) (fun (k : Nat) (r3 : Value) (r4 : Value) w => k ≤ G.length ∧ St w0 M0 [funcR f G, loopsR f hs lb s, blk b31 76 (b2c G.length lb B), row (.slice (some ⟨lvb, 0, none⟩) hs.length lvc) 76 1 hs.length (hs.map fun h => ptr (lb h)), blk bn 79 [ptr f.bf, .slice (some ⟨b31, 0, none⟩) (G.length + 1) (G.length + 1), vp, vt, .slice (some ⟨lvb, 0, none⟩) hs.length lvc, .bool irr], blk b7 74 [ptr bn], row r 61 5 hs.length (loopC hs s hs), row r3 3 1 k (((List.range k).map fun x => ixO hs (B x)).map (Value.int .i64)), row r4 3 1 k (((List.range k).map fun x => ((dpO s (B x) : Nat) : Int)).map (Value.int .i64))] w) (fun (k : Nat) (r3 : Value) (r4 : Value) => G.length - k) 0 (.slice none 0 0) (.slice none 0 0) ⟨rfl, rfl, rfl, trivial⟩ (⟨Nat.zero_le _, hS⟩) ?_
    clear hS; rintro k r3 r4 w ⟨hk, hS⟩
    refine VC_seq ?_
    refine VC_region ?_
    refine VL_val rfl rfl rfl (yd_lss rfl rfl) ?_
    refine VL_nil ?_
    refine VE_then ?_
    refine VC_seq ?_
    refine VC_cond rfl (fun h63 => ?_) (fun h63 => ?_)
    · replace h63 := of_decide_eq_true h63
      refine VC_skip ?_
      refine VE_then ?_
      refine VC_seq ?_
      refine VC_block ?_
      refine VC_seq ?_
      refine VC_region ?_
      have hkl : k < G.length := by omega
      have hdb : dpO s (B k) ≤ 13 := by
        cases e : B k with
        | none => exact Nat.zero_le _
        | some h => show s.dp h ≤ 13; rw [hN.dp h (hN.bm k h e)]; exact Nat.le_trans clv_le hg.le
      refine VL_val rfl rfl rfl (yd_index0 rfl rfl Try.underlying72 T.sz82 (by omega)) ?_
      refine VL_val rfl rfl rfl (yd_load rfl T.one82 ((funcAt (hS.get 0 rfl)).blk k hkl)) ?_
      refine VL_val rfl rfl rfl (yd_assign rfl) ?_
      refine VL_nil ?_
      refine VE_then ?_
      refine VC_seq ?_
      refine VC_drawS (fun w => (blk b7 74 [ptr bn]).holds w ∧ (blk bn 79 [ptr f.bf, .slice (some ⟨b31, 0, none⟩) (G.length + 1) (G.length + 1), vp, vt, .slice (some ⟨lvb, 0, none⟩) hs.length lvc, .bool irr]).holds w ∧ (blk b31 76 (b2c G.length lb B)).holds w ∧ FuncAt w f G) T.mixed hS ?_
      clear hS; intro w hS
      refine VA_take (i := 0) rfl rfl rfl rfl (by kernel_rfl) (by kernel_rfl) (by kernel_rfl) #[true, false, false, false, false, false, false, false, false, false, false, false, false, false, false, false] (by kernel_rfl) (fun _ _ _ _ h => h) (fun w hC => yd_move rfl) ?_
      refine VA_take (i := 1) rfl rfl rfl rfl (by kernel_rfl) (by kernel_rfl) (by kernel_rfl) #[true, true, false, false, false, false, false, false, false, false, false, false, false, false, false, false] (by kernel_rfl) (fun _ _ _ _ h => h) (fun w hC => yd_move rfl) ?_
      refine VA_take (i := 2) rfl rfl rfl rfl (by kernel_rfl) (by kernel_rfl) (by kernel_rfl) #[true, true, true, false, false, false, false, false, false, false, false, false, false, false, false, false] (by kernel_rfl) (fun _ _ _ _ h => h) (fun w hC => yd_load rfl T.one74 (blk_cell hC.1 rfl)) ?_
      refine VA_take (i := 3) rfl rfl rfl rfl (by kernel_rfl) (by kernel_rfl) (by kernel_rfl) #[true, true, true, true, false, false, false, false, false, false, false, false, false, false, false, false] (by kernel_rfl) (fun _ _ _ _ h => h) (fun w hC => yd_nilc rfl) ?_
      refine VA_take (i := 4) rfl rfl rfl rfl (by kernel_rfl) (by kernel_rfl) (by kernel_rfl) #[true, true, true, true, true, false, false, false, false, false, false, false, false, false, false, false] (by kernel_rfl) (fun _ _ _ _ h => h) (fun w hC => yd_field rfl T.fld79_1) ?_
      refine VA_take (i := 5) rfl rfl rfl rfl (by kernel_rfl) (by kernel_rfl) (by kernel_rfl) #[true, true, true, true, true, true, false, false, false, false, false, false, false, false, false, false] (by kernel_rfl) (fun _ _ _ _ h => h) (fun w hC => yd_load rfl T.one77 (blk_cell hC.2.1 rfl)) ?_
      refine VA_take (i := 6) rfl rfl rfl rfl (by kernel_rfl) (by kernel_rfl) (by kernel_rfl) #[true, true, true, true, true, true, true, false, false, false, false, false, false, false, false, false] (by kernel_rfl) (fun _ _ _ _ h => h) (fun w hC => yd_move rfl) ?_
      refine VA_take (i := 7) rfl rfl rfl rfl (by kernel_rfl) (by kernel_rfl) (by kernel_rfl) #[true, true, true, true, true, true, true, true, false, false, false, false, false, false, false, false] (by kernel_rfl) (fun _ _ _ _ h => h) (fun w hC => yd_nilc rfl) ?_
      refine VA_take (i := 8) rfl rfl rfl rfl (by kernel_rfl) (by kernel_rfl) (by kernel_rfl) #[true, true, true, true, true, true, true, true, true, false, false, false, false, false, false, false] (by kernel_rfl) (fun _ _ _ _ h => h) (fun w hC => yd_field rfl T.fld93_0) ?_
      refine VA_take (i := 9) rfl rfl rfl rfl (by kernel_rfl) (by kernel_rfl) (by kernel_rfl) #[true, true, true, true, true, true, true, true, true, true, false, false, false, false, false, false] (by kernel_rfl) (fun _ _ _ _ h => h) (fun w hC => yd_load rfl T.one90 (hC.2.2.2.id k hkl)) ?_
      refine VA_take (i := 10) rfl rfl rfl rfl (by kernel_rfl) (by kernel_rfl) (by kernel_rfl) #[true, true, true, true, true, true, true, true, true, true, true, false, false, false, false, false] (by kernel_rfl) (fun _ _ _ _ h => h) (fun w hC => yd_index0 rfl rfl Try.underlying77 T.sz76 (by omega)) ?_
      refine VA_take (i := 11) rfl rfl rfl rfl (by kernel_rfl) (by kernel_rfl) (by kernel_rfl) #[true, true, true, true, true, true, true, true, true, true, true, true, false, false, false, false] (by kernel_rfl) (fun _ _ _ _ h => h) (fun w hC => yd_load rfl T.one76 (b2_cell hC.2.2.1 hkl)) ?_
      refine VA_only (i := 12) (by kernel_rfl) ⟨hS.get 5 rfl, hS.get 4 rfl, hS.get 2 rfl, funcAt (hS.get 0 rfl)⟩ ?_
      refine VS_callC rfl (wanted_none rfl) #[true, true, true, true, true, true, true, true, true, true, true, true, true, false, false, false] (by kernel_rfl) rfl rfl rfl rfl T.call51 rfl (idx_ok (o := B k) hN.nd (hS.get 1 rfl) (hS.get 3 rfl) (hS.get 4 rfl) (hS.get 5 rfl) hhl (hN.bm k)) ?_
      rintro _ _ ⟨rfl, rfl⟩
      refine VA_only (i := 13) (by kernel_rfl) ⟨hS.get 5 rfl, hS.get 4 rfl, hS.get 2 rfl, funcAt (hS.get 0 rfl)⟩ ?_
      refine VS_rel rfl (wanted_none rfl) #[true, true, true, true, true, true, true, true, true, true, true, true, true, true, false, false] (by kernel_rfl) rfl rfl (yr_bslice rfl Try.underlying29 T.e3 rfl (by decide) (by decide) hS) ?_
      clear hS; rintro _ w ⟨b79, rfl, hS⟩
      refine VA_only (i := 14) (by kernel_rfl) ⟨hS.get 5 rfl, hS.get 4 rfl, hS.get 2 rfl, funcAt (hS.get 0 rfl)⟩ ?_
      refine VS_rel rfl (wanted_none rfl) #[true, true, true, true, true, true, true, true, true, true, true, true, true, true, true, false] (by kernel_rfl) rfl rfl (yr_append rfl rfl Try.underlying29 T.e3 rfl (by decide) hS 7 rfl (hS.get 9 rfl) rfl (by intro u hu; simp [Value.cells] at hu; subst hu; rfl) (by omega) (by omega)) ?_
      clear hS; rintro v80 w ⟨hS, -⟩
      have hS := hS.sub (η' := _) (List.take_sublist 9 _)
      refine VA_take (i := 15) rfl rfl rfl rfl (by kernel_rfl) (by kernel_rfl) (by kernel_rfl) #[true, true, true, true, true, true, true, true, true, true, true, true, true, true, true, true] (by kernel_rfl) (fun _ _ _ _ h => h) (fun w hC => yd_assign rfl) ?_
      refine VA_done (by kernel_rfl) ⟨hS.get 5 rfl, hS.get 4 rfl, hS.get 2 rfl, funcAt (hS.get 0 rfl)⟩ ?_
      refine VE_then ?_
      refine VC_drawS (fun w => (blk b7 74 [ptr bn]).holds w ∧ FuncAt w f G) T.mixed hS ?_
      clear hS; intro w hS
      refine VA_take (i := 0) rfl rfl rfl rfl (by kernel_rfl) (by kernel_rfl) (by kernel_rfl) #[true, false, false, false, false, false, false, false, false, false, false] (by kernel_rfl) (fun _ _ _ _ h => h) (fun w hC => yd_move rfl) ?_
      refine VA_take (i := 1) rfl rfl rfl rfl (by kernel_rfl) (by kernel_rfl) (by kernel_rfl) #[true, true, false, false, false, false, false, false, false, false, false] (by kernel_rfl) (fun _ _ _ _ h => h) (fun w hC => yd_load rfl T.one74 (blk_cell hC.1 rfl)) ?_
      refine VA_take (i := 2) rfl rfl rfl rfl (by kernel_rfl) (by kernel_rfl) (by kernel_rfl) #[true, true, true, false, false, false, false, false, false, false, false] (by kernel_rfl) (fun _ _ _ _ h => h) (fun w hC => yd_move rfl) ?_
      refine VA_take (i := 3) rfl rfl rfl rfl (by kernel_rfl) (by kernel_rfl) (by kernel_rfl) #[true, true, true, true, false, false, false, false, false, false, false] (by kernel_rfl) (fun _ _ _ _ h => h) (fun w hC => yd_nilc rfl) ?_
      refine VA_take (i := 4) rfl rfl rfl rfl (by kernel_rfl) (by kernel_rfl) (by kernel_rfl) #[true, true, true, true, true, false, false, false, false, false, false] (by kernel_rfl) (fun _ _ _ _ h => h) (fun w hC => yd_field rfl T.fld93_0) ?_
      refine VA_take (i := 5) rfl rfl rfl rfl (by kernel_rfl) (by kernel_rfl) (by kernel_rfl) #[true, true, true, true, true, true, false, false, false, false, false] (by kernel_rfl) (fun _ _ _ _ h => h) (fun w hC => yd_load rfl T.one90 (hC.2.id k hkl)) ?_
      refine VA_only (i := 6) (by kernel_rfl) ⟨hS.get 5 rfl, funcAt (hS.get 0 rfl)⟩ ?_
      refine VS_call rfl (wanted_none rfl) #[true, true, true, true, true, true, true, false, false, false, false] (by kernel_rfl) rfl rfl rfl T.call53 rfl (depth_ok (hS.get 1 rfl) (hS.get 2 rfl) (hS.get 4 rfl) hN.bm hkl) ?_
      rintro _ _ ⟨rfl, rfl⟩
      refine VA_take (i := 7) rfl rfl rfl rfl (by kernel_rfl) (by kernel_rfl) (by kernel_rfl) #[true, true, true, true, true, true, true, true, false, false, false] (by kernel_rfl) (fun _ _ _ _ h => h) (fun w hC => yd_conv rfl ⟨_, Try.underlying83⟩ Try.underlying3 ((dpO s (B k) : Nat) : Int) (by rw [wi64 (by omega) (by omega)])) ?_
      refine VA_only (i := 8) (by kernel_rfl) ⟨hS.get 5 rfl, funcAt (hS.get 0 rfl)⟩ ?_
      refine VS_rel rfl (wanted_none rfl) #[true, true, true, true, true, true, true, true, true, false, false] (by kernel_rfl) rfl rfl (yr_bslice rfl Try.underlying29 T.e3 rfl (by decide) (by decide) hS) ?_
      clear hS; rintro _ w ⟨b89, rfl, hS⟩
      refine VA_only (i := 9) (by kernel_rfl) ⟨hS.get 5 rfl, funcAt (hS.get 0 rfl)⟩ ?_
      refine VS_rel rfl (wanted_none rfl) #[true, true, true, true, true, true, true, true, true, true, false] (by kernel_rfl) rfl rfl (yr_append rfl rfl Try.underlying29 T.e3 rfl (by decide) hS 8 rfl (hS.get 9 rfl) rfl (by intro u hu; simp [Value.cells] at hu; subst hu; rfl) (by omega) (by omega)) ?_
      clear hS; rintro v90 w ⟨hS, -⟩
      have hS := hS.sub (η' := _) (List.take_sublist 9 _)
      refine VA_take (i := 10) rfl rfl rfl rfl (by kernel_rfl) (by kernel_rfl) (by kernel_rfl) #[true, true, true, true, true, true, true, true, true, true, true] (by kernel_rfl) (fun _ _ _ _ h => h) (fun w hC => yd_assign rfl) ?_
      refine VA_done (by kernel_rfl) ⟨hS.get 5 rfl, funcAt (hS.get 0 rfl)⟩ ?_
      refine VE_block_normal ?_
      refine VE_then ?_
      refine VC_region ?_
      refine VL_val rfl rfl rfl (yd_add rfl rfl ((k + 1 : Nat) : Int) (by rw [wi64 (by omega) (by omega)]; omega)) ?_
      refine VL_val rfl rfl rfl (yd_move rfl) ?_
      refine VL_nil ?_
      refine VE_round3 (k + 1) _ _ ⟨rfl, rfl, rfl, rfl, rfl, rfl, rfl, rfl, rfl, trivial⟩ ⟨by omega, ?_⟩ (by omega)
      have e1 : (((List.range (k + 1)).map fun x => ixO hs (B x)).map (Value.int .i64)) = (((List.range k).map fun x => ixO hs (B x)).map (Value.int .i64)) ++ (Value.int .i64 (ixO hs (B k))).cells.toList := by simp [List.range_succ, Value.cells]
      have e2 : (((List.range (k + 1)).map fun x => ((dpO s (B x) : Nat) : Int)).map (Value.int .i64)) = (((List.range k).map fun x => ((dpO s (B x) : Nat) : Int)).map (Value.int .i64)) ++ (Value.int .i64 ((dpO s (B k) : Nat) : Int)).cells.toList := by simp [List.range_succ, Value.cells]
      rw [e1, e2]; exact hS
    · replace h63 := Int.not_lt.1 (of_decide_eq_false h63)
      refine VC_exit ?_
      refine VE_then_exit (VE_then_exit (VE_block_exit ?_))
      refine VE_then ?_
      refine VC_seq ?_
      obtain rfl : k = G.length := by omega
      refine VC_draw T.mixed hS ?_
      clear hS; intro w hS
      refine VA_take (i := 0) rfl rfl rfl rfl (by kernel_rfl) (by kernel_rfl) (by kernel_rfl) #[true, false, false, false, false, false, false, false, false, false, false] (by kernel_rfl) (fun _ _ _ _ h => h) (fun w hS => yd_move rfl) ?_
      refine VA_take (i := 1) rfl rfl rfl rfl (by kernel_rfl) (by kernel_rfl) (by kernel_rfl) #[true, true, false, false, false, false, false, false, false, false, false] (by kernel_rfl) (fun _ _ _ _ h => h) (fun w hS => yd_move rfl) ?_
      refine VA_take (i := 2) rfl rfl rfl rfl (by kernel_rfl) (by kernel_rfl) (by kernel_rfl) #[true, true, true, false, false, false, false, false, false, false, false] (by kernel_rfl) (fun _ _ _ _ h => h) (fun w hS => yd_move rfl) ?_
      refine VA_take (i := 3) rfl rfl rfl rfl (by kernel_rfl) (by kernel_rfl) (by kernel_rfl) #[true, true, true, true, false, false, false, false, false, false, false] (by kernel_rfl) (fun _ _ _ _ h => h) (fun w hS => yd_load rfl T.one74 (blk_cell (hS.get 5 rfl) rfl)) ?_
      refine VA_take (i := 4) rfl rfl rfl rfl (by kernel_rfl) (by kernel_rfl) (by kernel_rfl) #[true, true, true, true, true, false, false, false, false, false, false] (by kernel_rfl) (fun _ _ _ _ h => h) (fun w hS => yd_nilc rfl) ?_
      refine VA_take (i := 5) rfl rfl rfl rfl (by kernel_rfl) (by kernel_rfl) (by kernel_rfl) #[true, true, true, true, true, true, false, false, false, false, false] (by kernel_rfl) (fun _ _ _ _ h => h) (fun w hS => yd_field rfl T.fld79_5) ?_
      refine VA_take (i := 6) rfl rfl rfl rfl (by kernel_rfl) (by kernel_rfl) (by kernel_rfl) #[true, true, true, true, true, true, true, false, false, false, false] (by kernel_rfl) (fun _ _ _ _ h => h) (fun w hS => yd_load rfl T.one4 (blk_cell (hS.get 4 rfl) rfl)) ?_
      refine VA_take (i := 7) rfl rfl rfl rfl (by kernel_rfl) (by kernel_rfl) (by kernel_rfl) #[true, true, true, true, true, true, true, true, false, false, false] (by kernel_rfl) (fun _ _ _ _ h => h) (fun w hS => yd_assign rfl) ?_
      refine VA_take (i := 8) rfl rfl rfl rfl (by kernel_rfl) (by kernel_rfl) (by kernel_rfl) #[true, true, true, true, true, true, true, true, true, false, false] (by kernel_rfl) (fun _ _ _ _ h => h) (fun w hS => yd_assign rfl) ?_
      refine VA_take (i := 9) rfl rfl rfl rfl (by kernel_rfl) (by kernel_rfl) (by kernel_rfl) #[true, true, true, true, true, true, true, true, true, true, false] (by kernel_rfl) (fun _ _ _ _ h => h) (fun w hS => yd_assign rfl) ?_
      refine VA_take (i := 10) rfl rfl rfl rfl (by kernel_rfl) (by kernel_rfl) (by kernel_rfl) #[true, true, true, true, true, true, true, true, true, true, true] (by kernel_rfl) (fun _ _ _ _ h => h) (fun w hS => yd_assign rfl) ?_
      refine VA_done (by kernel_rfl) hS ?_
      refine VE_then ?_
      refine VC_ret ?_
      refine VE_ret4 (rfl) rfl rfl rfl rfl ?_
      exact ⟨hs, s, B, irr, _, _, _, rfl, hN, hS.sub (List.Sublist.cons _ (List.Sublist.cons _ (List.Sublist.cons _ (List.Sublist.cons _ (List.Sublist.cons _ (List.Sublist.cons _ (List.Sublist.refl _)))))))⟩

set_option maxHeartbeats 1000000 in
theorem implLoops_ok {w0 : World} {v : Value} {G : Graph} (hG : GraphAt w0 v G) (hg : Gd G) (hw : ∀ x, x < G.length → Rc G 0 x) : Calls Try.prog 24 #[v] w0 (Ret fun u w' => ∃ (hs : List Nat) (s : LRep) (B : Nat → Option Nat) (irr : Bool) (v1 v2 v3 : Value), u = .tuple #[v1, v2, v3, .bool irr] ∧ NestOK G hs s B irr ∧ St w0 M0 [row v1 45 5 hs.length (loopC hs s hs), row v2 3 1 G.length (((List.range G.length).map fun x => ixO hs (B x)).map (Value.int .i64)), row v3 3 1 G.length (((List.range G.length).map fun x => ((dpO s (B x) : Nat) : Int)).map (Value.int .i64))] w') := by
  have hS := St.refl w0
  have hle := hg.le
  refine V_enter (N := 46) Try.func24 rfl Try.ntmps24 rfl ?_
  refine VC.sub (τ := [(0, _)]) ⟨rfl, trivial⟩ ?_
  refine VC_seq ?_
  refine VC_region ?_
  refine VL_val rfl rfl rfl (yd_assign rfl) ?_
  refine VL_val rfl rfl rfl (yd_assign rfl) ?_
  refine VL_val rfl rfl rfl (yd_assign rfl) ?_
  refine VL_val rfl rfl rfl (yd_assign rfl) ?_
  refine VL_nil ?_
  refine VE_then ?_
  refine VC_seq ?_
  refine VC_region ?_
  refine VL_val rfl rfl rfl (yd_move rfl) ?_
  refine VL_call rfl rfl rfl rfl T.call39 rfl (Loops_ok hG hg hw) ?_
  rintro _ w ⟨hs, s, B, irr, v1, v2, v3, rfl, hN, hR⟩
  have hS := hS.call0 hR
  have hhl : hs.length ≤ 13 := Nat.le_trans (nodup_len _ hN.nd hN.lt) hg.le
  obtain ⟨va, vl, vc, hv1, hva⟩ : ∃ va vl vc, v1 = .slice va vl vc ∧ vl = hs.length := by
    rcases (hS.get 0 rfl).2 with ⟨h1, h2⟩ | ⟨g, cap, cur, h1, _⟩
    · exact ⟨_, _, _, h1, h2.symm⟩
    · exact ⟨_, _, _, h1, rfl⟩
  subst hva
  have hvb : 0 < hs.length → ∃ b, va = some ⟨b, 0, none⟩ := fun h => by
    obtain ⟨b, c, e, _⟩ := row_form (hS.get 0 rfl) (.inr h)
    rw [hv1] at e; cases e; exact ⟨b, rfl⟩
  subst hv1
  refine VL_val rfl rfl rfl (yd_move rfl) ?_
  refine VL_val rfl rfl rfl (yd_extract rfl rfl) ?_
  refine VL_val rfl rfl rfl (yd_extract rfl rfl) ?_
  refine VL_val rfl rfl rfl (yd_extract rfl rfl) ?_
  refine VL_val rfl rfl rfl (yd_extract rfl rfl) ?_
  refine VL_val rfl rfl rfl (yd_assign rfl) ?_
  refine VL_val rfl rfl rfl (yd_assign rfl) ?_
  refine VL_val rfl rfl rfl (yd_assign rfl) ?_
  refine VL_val rfl rfl rfl (yd_assign rfl) ?_
  refine VL_nil ?_
  refine VE_then ?_
  refine VC_seq ?_
  refine VC_region ?_
  refine VL_rel rfl rfl rfl (yr_bslice0 Try.underlying40 T.e45 hS) ?_
  clear hS; rintro _ w ⟨b20, rfl, hS⟩
  refine VL_val rfl rfl rfl (yd_assign rfl) ?_
  refine VL_nil ?_
  refine VE_then ?_
  refine VC_seq ?_
  refine VC_seq ?_
  refine VC_region ?_
  refine VL_val rfl rfl rfl (yd_move rfl) ?_
  refine VL_val rfl rfl rfl (yd_len rfl Try.underlying58) ?_
  refine VL_val rfl rfl rfl (yd_move rfl) ?_
  refine VL_nil ?_
  refine VE_then ?_
  refine VC_block ?_
  refine VC_loop2 [2, 3, 4, 5, 7, 8, 9, 21, 22] [_, _, _, _, _, _, _, _, _] rfl (fun (k : Nat) (r : Value) => [(23, .int .i64 ((k : Nat) : Int)), (10, r)]) (fun (k : Nat) (r : Value) w => k ≤ hs.length ∧ St w0 M0 [row (.slice va hs.length vc) 61 5 hs.length (loopC hs s hs), row v2 3 1 G.length (((List.range G.length).map fun x => ixO hs (B x)).map (Value.int .i64)), row v3 3 1 G.length (((List.range G.length).map fun x => ((dpO s (B x) : Nat) : Int)).map (Value.int .i64)), row r 45 5 k (loopC hs s (hs.take k))] w) (fun (k : Nat) (r : Value) => hs.length - k) 0 _ ⟨rfl, rfl, trivial⟩ (⟨Nat.zero_le _, hS⟩) ?_
  clear hS; rintro k r w ⟨hk, hS⟩
  refine VC_seq ?_
  refine VC_region ?_
  refine VL_val rfl rfl rfl (yd_lss rfl rfl) ?_
  refine VL_nil ?_
  refine VE_then ?_
  refine VC_seq ?_
  refine VC_cond rfl (fun h24 => ?_) (fun h24 => ?_)
  · replace h24 := of_decide_eq_true h24
    refine VC_skip ?_
    refine VE_then ?_
    refine VC_seq ?_
    refine VC_block ?_
    refine VC_seq ?_
    refine VC_region ?_
    have hkl : k < hs.length := by omega
    obtain ⟨vb, rfl⟩ := hvb (by omega)
    refine VL_val rfl rfl rfl (yd_index rfl rfl Try.underlying58 T.sz61 (by omega) (k * 5) (Nat.zero_add _)) ?_
    refine VL_val rfl rfl rfl (yd_loadn (l5 hs s hs[k]!) rfl T.agg61 (l5_cell (hS.get 0 rfl) hkl)) ?_
    refine VL_alloc rfl rfl rfl rfl T.e61 hS ?_
    clear hS; intro b12 w hS
    refine VL_storeN (cs := l5 hs s hs[k]!) rfl rfl rfl rfl rfl T.agg61 l5_one hS 4 rfl (by simp [Value.cells, l5]) ?_
    clear hS; intro w hS
    refine VL_nil ?_
    refine VE_then ?_
    refine VC_region ?_
    refine VL_val rfl rfl rfl (yd_move rfl) ?_
    refine VL_val rfl rfl rfl (yd_field rfl T.fld61_0) ?_
    refine VL_val rfl rfl rfl (yd_load rfl T.one3 (blk_cell (hS.get 4 rfl) rfl)) ?_
    refine VL_val rfl rfl rfl (yd_field rfl T.fld61_1) ?_
    refine VL_val rfl rfl rfl (yd_load rfl T.one3 (blk_cell (hS.get 4 rfl) rfl)) ?_
    refine VL_val rfl rfl rfl (yd_field rfl T.fld61_2) ?_
    refine VL_val rfl rfl rfl (yd_load rfl T.one3 (blk_cell (hS.get 4 rfl) rfl)) ?_
    refine VL_val rfl rfl rfl (yd_field rfl T.fld61_3) ?_
    refine VL_val rfl rfl rfl (yd_load rfl T.one3 (blk_cell (hS.get 4 rfl) rfl)) ?_
    refine VL_val rfl rfl rfl (yd_field rfl T.fld61_4) ?_
    refine VL_val rfl rfl rfl (yd_load rfl T.one4 (blk_cell (hS.get 4 rfl) rfl)) ?_
    refine VL_val rfl rfl rfl (yd_build (cells := (l5 hs s hs[k]!).toArray) T.st45 (vs := [(0, _), (1, _), (2, _), (3, _), (4, _)]) rfl rfl) ?_
    refine VL_rel rfl rfl rfl (yr_bslice rfl Try.underlying40 T.e45 rfl (by decide) (by decide) hS) ?_
    clear hS; rintro _ w ⟨b39, rfl, hS⟩
    refine VL_rel rfl rfl rfl (yr_append rfl rfl Try.underlying40 T.e45 rfl (by decide) hS 3 rfl (hS.get 5 rfl) rfl (fun u hu => l5_one u (show u ∈ l5 hs s hs[k]! from hu)) (by omega) (by omega)) ?_
    clear hS; rintro v40 w ⟨hS, -⟩
    have hS := hS.sub (η' := _) (List.take_sublist 4 _)
    refine VL_val rfl rfl rfl (yd_assign rfl) ?_
    refine VL_nil ?_
    refine VE_block_normal ?_
    refine VE_then ?_
    refine VC_region ?_
    refine VL_val rfl rfl rfl (yd_add rfl rfl ((k + 1 : Nat) : Int) (by rw [wi64 (by omega) (by omega)]; omega)) ?_
    refine VL_val rfl rfl rfl (yd_move rfl) ?_
    refine VL_nil ?_
    refine VE_round2 (k + 1) _ ⟨rfl, rfl, rfl, rfl, rfl, rfl, rfl, rfl, rfl, rfl, rfl, trivial⟩ ⟨by omega, ?_⟩ (by omega)
    rw [loopC_snoc hkl]; exact hS
  · replace h24 := Int.not_lt.1 (of_decide_eq_false h24)
    refine VC_exit ?_
    refine VE_then_exit (VE_then_exit (VE_block_exit ?_))
    refine VE_then ?_
    refine VC_seq ?_
    refine VC_region ?_
    refine VL_val rfl rfl rfl (yd_move rfl) ?_
    refine VL_val rfl rfl rfl (yd_move rfl) ?_
    refine VL_val rfl rfl rfl (yd_move rfl) ?_
    refine VL_val rfl rfl rfl (yd_move rfl) ?_
    refine VL_val rfl rfl rfl (yd_assign rfl) ?_
    refine VL_val rfl rfl rfl (yd_assign rfl) ?_
    refine VL_val rfl rfl rfl (yd_assign rfl) ?_
    refine VL_val rfl rfl rfl (yd_assign rfl) ?_
    refine VL_nil ?_
    refine VE_then ?_
    refine VC_ret ?_
    refine VE_ret4 (rfl) rfl rfl rfl rfl ?_
    obtain rfl : k = hs.length := by omega
    rw [List.take_length] at hS
    exact ⟨hs, s, B, irr, _, _, _, rfl, hN, (hS.front 3 rfl).sub (List.Sublist.cons_cons _ (List.Sublist.cons _ (List.Sublist.refl _)))⟩

end Go.Proofs.Ytmoooaaiohplhac
