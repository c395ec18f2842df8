/- Small functions of package ssadom; postorderWithNumbering. -/
import Derived.Test.YtmoooaaiohplhacWc
import Derived.Test.YtmoooaaiohplhacPb
namespace Go.Proofs.Ytmoooaaiohplhac
open Go Go.V
set_option linter.unusedVariables false
set_option maxRecDepth 100000

theorem T.fld93_0 : FieldT Try.prog 93 0 0 := FieldT.of (by kernel_rfl)
theorem T.fld96_0 : FieldT Try.prog 96 0 0 := FieldT.of (by kernel_rfl)
theorem T.one90 : OneT Try.prog 90 := ⟨⟨_, Try.underlying90, rfl⟩, by kernel_rfl⟩
theorem T.sz93 : (Try.prog.info? 93).map (·.size) = some 4 := by kernel_rfl
theorem T.call52 : CallT Try.prog 52 := CallT.of Try.func52 (by kernel_rfl) (by kernel_rfl)

open Go.PL
/-- A pointer to a block, or none. -/
def pO (f : FRep) : Option Nat → Value
  | none => .pointer none
  | some i => ptr (f.bb i)
def nO : Option Nat → Int
  | none => -1
  | some i => (i : Int)
/-- The slice value v reads as pointers to the blocks L. -/
def PtrsAt (w : World) (v : Value) (f : FRep) (L : List (Option Nat)) : Prop :=
  ∃ a c b o, v = .slice a L.length c ∧ (0 < L.length → a = some ⟨b, o, none⟩) ∧ ∀ j, j < L.length → w.cell? ⟨b, o + j, none⟩ = some (pO f L[j]!)
theorem _root_.Go.V.St.func {w0 w : World} {η : List Res} {f : FRep} {G : Graph} (hS : St w0 M0 η w) (h : (funcR f G).holds w0) : (funcR f G).holds w := hS.keep0 h
theorem isC_none {w : World} : IsC w none := fun _ h => by cases h
theorem one_succ (k : Nat) : (([] : List Value).length = 0) := rfl

theorem numBlocks_ok {w0 : World} {f : FRep} {G : Graph} (hF : (funcR f G).holds w0) (hg : Gd G) : Calls Try.prog 57 #[ptr f.bf] w0 (Ret fun u w' => u = .int .i64 ((G.length + 1 : Nat) : Int) ∧ w0 = w') := by
  have hA := funcAt hF
  have hle := hg.le
  refine V_enter (N := 9) Try.func57 rfl Try.ntmps57 rfl ?_
  refine VC.sub (τ := [(0, _)]) ⟨rfl, trivial⟩ ?_
  refine VC_seq ?_
  refine VC_region ?_
  refine VL_val rfl rfl rfl (yd_assign rfl) ?_
  refine VL_nil ?_
  refine VE_then ?_
  refine VC_seq ?_
  refine VC_region ?_
  refine VL_val rfl rfl rfl (yd_move rfl) ?_
  refine VL_val rfl rfl rfl (yd_nilc rfl) ?_
  refine VL_val rfl rfl rfl (yd_field rfl T.fld89_1) ?_
  refine VL_val rfl rfl rfl (yd_load rfl T.one72 hA.blocks) ?_
  refine VL_val rfl rfl rfl (yd_len rfl Try.underlying72) ?_
  refine VL_val rfl rfl rfl (yd_add rfl rfl ((G.length + 1 : Nat) : Int) (by rw [wi64 (by omega) (by omega)]; omega)) ?_
  refine VL_val rfl rfl rfl (yd_assign rfl) ?_
  refine VL_nil ?_
  refine VE_then ?_
  refine VC_ret ?_
  refine VE_ret1 (rfl) rfl ?_
  exact ⟨rfl, rfl⟩

theorem allocBool_ok {w0 : World} {n : Nat} (hn : n ≤ 1000) : Calls Try.prog 62 #[.agg #[], .int .i64 (n : Int)] w0 (Ret fun u w' => ∃ b, u = .slice (some ⟨b, 0, none⟩) n n ∧ St w0 M0 [blk b 4 ((List.replicate n false).map Value.bool)] w') := by
  have hS := St.refl w0
  refine V_enter (N := 7) Try.func62 rfl Try.ntmps62 rfl ?_
  refine VC.sub (τ := [(0, _), (1, _)]) ⟨rfl, rfl, trivial⟩ ?_
  refine VC_seq ?_
  refine VC_region ?_
  refine VL_box rfl rfl rfl rfl rfl hS ?_
  clear hS; intro b2 w hS
  refine VL_val rfl rfl rfl (yd_assign rfl) ?_
  refine VL_nil ?_
  refine VE_then ?_
  refine VC_seq ?_
  refine VC_region ?_
  refine VL_val rfl rfl rfl (yd_move rfl) ?_
  refine VL_makeM Value.bool false rfl rfl rfl rfl rfl rfl Try.underlying25 T.e4 rfl rfl (by omega) (by omega) (by omega) hS ?_
  clear hS; intro b6 w hS
  refine VL_val rfl rfl rfl (yd_assign rfl) ?_
  refine VL_nil ?_
  refine VE_then ?_
  refine VC_ret ?_
  refine VE_ret1 (rfl) rfl ?_
  exact ⟨_, rfl, hS.sub (by simp)⟩

theorem freeBool_ok {w0 : World} {v : Value} {u : FrameMode} : CallsD Try.prog 63 #[.agg #[], v] u w0 (fun e u' w' => u' = u ∧ Ret (fun _ w' => St w0 M0 [] w') e w') := by
  have hS := St.refl w0
  refine V_enterC (N := 4) Try.func63 rfl Try.ntmps63 rfl ?_
  refine VC.sub (τ := [(0, _), (1, _)]) ⟨rfl, rfl, trivial⟩ ?_
  refine VC_region ?_
  refine VL_box rfl rfl rfl rfl rfl hS ?_
  clear hS; intro b2 w hS
  refine VL_nil ?_
  refine VE_end0 (rfl) ?_
  exact hS.sub (by simp)

theorem edgeBlock_ok {w0 : World} {b : Nat} : Calls Try.prog 69 #[.agg #[ptr b]] w0 (Ret fun u w' => u = ptr b ∧ St w0 M0 [] w') := by
  have hS := St.refl w0
  refine V_enter (N := 5) Try.func69 rfl Try.ntmps69 rfl ?_
  refine VC.sub (τ := [(0, _)]) ⟨rfl, trivial⟩ ?_
  refine VC_seq ?_
  refine VC_region ?_
  refine VL_box rfl rfl rfl rfl rfl hS ?_
  clear hS; intro b1 w hS
  refine VL_val rfl rfl rfl (yd_assign rfl) ?_
  refine VL_nil ?_
  refine VE_then ?_
  refine VC_seq ?_
  refine VC_region ?_
  refine VL_val rfl rfl rfl (yd_field rfl T.fld96_0) ?_
  refine VL_val rfl rfl rfl (yd_load rfl T.one82 (blk_cell (hS.get 0 rfl) rfl)) ?_
  refine VL_val rfl rfl rfl (yd_assign rfl) ?_
  refine VL_nil ?_
  refine VE_then ?_
  refine VC_ret ?_
  refine VE_ret1 (rfl) rfl ?_
  exact ⟨rfl, hS.sub (by simp)⟩

theorem number_none {w0 : World} : Calls Try.prog 52 #[.pointer none] w0 (Ret fun u w' => u = .int .i64 (-1) ∧ w0 = w') := by
  refine V_enter (N := 11) Try.func52 rfl Try.ntmps52 rfl ?_
  refine VC.sub (τ := [(0, _)]) ⟨rfl, trivial⟩ ?_
  refine VC_seq ?_
  refine VC_region ?_
  refine VL_val rfl rfl rfl (yd_assign rfl) ?_
  refine VL_nil ?_
  refine VE_then ?_
  refine VC_seq ?_
  refine VC_seq ?_
  refine VC_region ?_
  refine VL_val rfl rfl rfl (yd_move rfl) ?_
  refine VL_val rfl rfl rfl (yd_eqlp rfl rfl Try.underlying82 T.sz93 (by decide) isC_none isC_none) ?_
  refine VL_nil ?_
  refine VE_then ?_
  refine VC_cond_t' rfl (by simp) ?_
  refine VC_seq ?_
  refine VC_region ?_
  refine VL_val rfl rfl rfl (yd_assign rfl) ?_
  refine VL_nil ?_
  refine VE_then ?_
  refine VC_ret ?_
  refine VE_then_ret (?_)
  refine VE_ret1 (rfl) rfl ?_
  exact ⟨rfl, rfl⟩

theorem number_some {w0 : World} {f : FRep} {G : Graph} (hF : (funcR f G).holds w0) (hg : Gd G) {i : Nat} (hi : i < G.length) : Calls Try.prog 52 #[ptr (f.bb i)] w0 (Ret fun u w' => u = .int .i64 (i : Int) ∧ w0 = w') := by
  have hA := funcAt hF
  have hle := hg.le
  refine V_enter (N := 11) Try.func52 rfl Try.ntmps52 rfl ?_
  refine VC.sub (τ := [(0, _)]) ⟨rfl, trivial⟩ ?_
  refine VC_seq ?_
  refine VC_region ?_
  refine VL_val rfl rfl rfl (yd_assign rfl) ?_
  refine VL_nil ?_
  refine VE_then ?_
  refine VC_seq ?_
  refine VC_seq ?_
  refine VC_region ?_
  refine VL_val rfl rfl rfl (yd_move rfl) ?_
  refine VL_val rfl rfl rfl (yd_eqlp rfl rfl Try.underlying82 T.sz93 (by decide) (hA.isC hi) isC_none) ?_
  refine VL_nil ?_
  refine VE_then ?_
  refine VC_cond_f' rfl (by simp) ?_
  refine VC_skip ?_
  refine VE_then ?_
  refine VC_seq ?_
  refine VC_region ?_
  refine VL_val rfl rfl rfl (yd_move rfl) ?_
  refine VL_val rfl rfl rfl (yd_nilc rfl) ?_
  refine VL_val rfl rfl rfl (yd_field rfl T.fld93_0) ?_
  refine VL_val rfl rfl rfl (yd_load rfl T.one90 (hA.id i hi)) ?_
  refine VL_val rfl rfl rfl (yd_conv rfl ⟨_, Try.underlying90⟩ Try.underlying3 ((i + 1 : Nat) : Int) (by rw [wi64 (by omega) (by omega)])) ?_
  refine VL_val rfl rfl rfl (yd_sub rfl rfl ((i : Nat) : Int) (by rw [wi64 (by omega) (by omega)]; omega)) ?_
  refine VL_val rfl rfl rfl (yd_assign rfl) ?_
  refine VL_nil ?_
  refine VE_then ?_
  refine VC_ret ?_
  refine VE_ret1 (rfl) rfl ?_
  exact ⟨rfl, rfl⟩


theorem number_ok {w0 : World} {f : FRep} {G : Graph} (hF : (funcR f G).holds w0) (hg : Gd G) {o : Option Nat} (ho : ∀ i, o = some i → i < G.length) : Calls Try.prog 52 #[pO f o] w0 (Ret fun u w' => u = .int .i64 (nO o) ∧ w0 = w') := by
  cases o with
  | none => exact number_none
  | some i => exact number_some hF hg (ho i rfl)

theorem numbers_ok {w0 : World} {f : FRep} {G : Graph} (hF : (funcR f G).holds w0) (hg : Gd G) {v : Value} {L : List (Option Nat)} (hL : PtrsAt w0 v f L) (hl : L.length ≤ 1000) (ho : ∀ j, j < L.length → ∀ i, L[j]! = some i → i < G.length) : Calls Try.prog 46 #[v] w0 (Ret fun u w' => St w0 M0 [row u 3 1 L.length ((L.map nO).map (Value.int .i64))] w') := by
  have hS := St.refl w0
  obtain ⟨la, lc, lb, lo, rfl, hla, hcl⟩ := hL
  refine V_enter (N := 19) Try.func46 rfl Try.ntmps46 rfl ?_
  refine VC.sub (τ := [(0, _)]) ⟨rfl, trivial⟩ ?_
  refine VC_seq ?_
  refine VC_region ?_
  refine VL_val rfl rfl rfl (yd_assign rfl) ?_
  refine VL_nil ?_
  refine VE_then ?_
  refine VC_seq ?_
  refine VC_region ?_
  refine VL_val rfl rfl rfl (yd_assign rfl) ?_
  refine VL_nil ?_
  refine VE_then ?_
  refine VC_seq ?_
  refine VC_seq ?_
  refine VC_region ?_
  refine VL_val rfl rfl rfl (yd_move rfl) ?_
  refine VL_val rfl rfl rfl (yd_len rfl Try.underlying72) ?_
  refine VL_val rfl rfl rfl (yd_move rfl) ?_
  refine VL_nil ?_
  refine VE_then ?_
  refine VC_block ?_
  have hS := St_nils hS (L := [row (.slice none 0 0) 3 1 0 []]) (by intro r hr; simp at hr; subst hr; exact ⟨⟨rfl, .inl ⟨rfl, rfl⟩⟩, fun b hb => by simp [row, Value.ownBlock] at hb⟩)
  refine VC_loop2 [2, 6, 7] [_, _, _] rfl (fun (k : Nat) (r : Value) => [(8, .int .i64 ((k : Nat) : Int)), (3, r)]) (fun (k : Nat) (r : Value) w => k ≤ L.length ∧ St w0 M0 [row r 3 1 k (((L.take k).map nO).map (Value.int .i64))] w) (fun (k : Nat) (r : Value) => L.length - k) 0 (.slice none 0 0) ⟨rfl, rfl, trivial⟩ (⟨Nat.zero_le _, hS⟩) ?_
  clear hS; rintro k r w ⟨hk, hS⟩
  refine VC_seq ?_
  refine VC_region ?_
  refine VL_val rfl rfl rfl (yd_lss rfl rfl) ?_
  refine VL_nil ?_
  refine VE_then ?_
  refine VC_seq ?_
  refine VC_cond rfl (fun h9 => ?_) (fun h9 => ?_)
  · replace h9 := of_decide_eq_true h9
    refine VC_skip ?_
    refine VE_then ?_
    refine VC_seq ?_
    refine VC_block ?_
    refine VC_seq ?_
    refine VC_region ?_
    obtain rfl := hla (by omega)
    refine VL_val rfl rfl rfl (yd_index1 rfl rfl Try.underlying72 T.sz82 (by omega)) ?_
    refine VL_val rfl rfl rfl (yd_load rfl T.one82 (hS.cell0 (hcl k (by omega)))) ?_
    refine VL_val rfl rfl rfl (yd_assign rfl) ?_
    refine VL_nil ?_
    refine VE_then ?_
    refine VC_region ?_
    refine VL_val rfl rfl rfl (yd_move rfl) ?_
    refine VL_val rfl rfl rfl (yd_move rfl) ?_
    refine VL_call rfl rfl rfl rfl T.call52 rfl (number_ok (hS.func hF) hg (ho k (by omega))) ?_
    rintro _ _ ⟨rfl, rfl⟩
    refine VL_rel rfl rfl rfl (yr_bslice rfl Try.underlying29 T.e3 rfl (by decide) (by decide) hS) ?_
    clear hS; rintro _ w ⟨b15, rfl, hS⟩
    refine VL_rel rfl rfl rfl (yr_append rfl rfl Try.underlying29 T.e3 rfl (by decide) hS 0 rfl (hS.get 1 rfl) rfl (by intro u hu; simp [Value.cells] at hu; subst hu; rfl) (by omega) (by omega)) ?_
    clear hS; rintro v16 w ⟨hS, hnil⟩
    have hS := hS.sub (List.Sublist.cons_cons _ (List.nil_sublist _))
    refine VL_val rfl rfl rfl (yd_assign rfl) ?_
    refine VL_nil ?_
    refine VE_block_normal ?_
    refine VE_then ?_
    refine VC_region ?_
    refine VL_val rfl rfl rfl (yd_add rfl rfl ((k + 1 : Nat) : Int) (by rw [wi64 (by omega) (by omega)]; omega)) ?_
    refine VL_val rfl rfl rfl (yd_move rfl) ?_
    refine VL_nil ?_
    refine VE_round2 (k + 1) _ ⟨rfl, rfl, rfl, rfl, rfl, trivial⟩ ⟨by omega, ?_⟩ (by omega)
    have e : (((L.take (k + 1)).map nO).map (Value.int .i64)) = (((L.take k).map nO).map (Value.int .i64)) ++ (Value.int .i64 (nO L[k]!)).cells.toList := by
      rw [List.take_succ_eq_append_getElem (show k < L.length by omega), List.map_append, List.map_append, ← getElem!_pos L k (by omega)]; rfl
    rw [e]; exact hS
  · replace h9 := Int.not_lt.1 (of_decide_eq_false h9)
    refine VC_exit ?_
    refine VE_then_exit (VE_then_exit (VE_block_exit ?_))
    refine VE_then ?_
    refine VC_seq ?_
    refine VC_region ?_
    refine VL_val rfl rfl rfl (yd_move rfl) ?_
    refine VL_val rfl rfl rfl (yd_assign rfl) ?_
    refine VL_nil ?_
    refine VE_then ?_
    refine VC_ret ?_
    refine VE_ret1 (rfl) rfl ?_
    have hkl : k = L.length := by omega
    subst hkl
    rw [List.take_length] at hS
    exact hS

end Go.Proofs.Ytmoooaaiohplhac
