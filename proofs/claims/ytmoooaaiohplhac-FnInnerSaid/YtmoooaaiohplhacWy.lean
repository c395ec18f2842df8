/- Whole. -/
import Derived.Test.YtmoooaaiohplhacWx
namespace Go.Proofs.Ytmoooaaiohplhac
open Go Go.V
set_option linter.unusedVariables false
set_option maxRecDepth 100000



open Go.PL
theorem at_ps {G : Graph} (hg : Gd G) {A : List Int} (hA : IsPlaces (postL G) G.length A) {c : Nat} (hc : c ∈ postL G) : A[c]! = ((ps G c : Nat) : Int) := by
  rcases hA.2 c ((postL_ok hg).lt c hc) with ⟨_, h⟩ | ⟨i, hi, h1, h2⟩
  · exact absurd hc h
  · rw [h2, ← h1, ps_of hg hi]

theorem shWhole_ok {w0 : World} {u v : Value} {s : SRep} {G : Graph} (hA : ShapeAt w0 u v s G) (hg : Gd G) : Calls Try.prog 32 #[u] w0 (Ret fun r w' => ∃ b, r = .bool b ∧ (b = true ↔ ∀ y, y < G.length → Rc G 0 y) ∧ St w0 M0 [] w') := by
  obtain ⟨rfl, hG, hok, hlive, hdr, hdc⟩ := hA
  have hpos := hg.pos
  have hle := hg.le
  have hS := St.refl w0
  refine V_enter (N := 15) Try.func32 rfl Try.ntmps32 rfl ?_
  refine VC.sub (τ := [(0, _)]) ⟨rfl, trivial⟩ ?_
  refine VC_seq ?_
  refine VC_region ?_
  refine VL_box rfl rfl rfl rfl rfl hS ?_
  clear hS; intro b1 w hS
  refine VL_val rfl rfl rfl (yd_assign rfl) ?_
  refine VL_nil ?_
  refine VE_then ?_
  refine VC_seq ?_
  refine VC_seq ?_
  refine VC_region ?_
  refine VL_val rfl rfl rfl (yd_field rfl T.fld37_1) ?_
  refine VL_val rfl rfl rfl (yd_load rfl T.one25 (blk_cell (hS.get 0 rfl) rfl)) ?_
  refine VL_val rfl rfl rfl (yd_len rfl Try.underlying25) ?_
  refine VL_val rfl rfl rfl (yd_move rfl) ?_
  refine VL_nil ?_
  refine VE_then ?_
  refine VC_block ?_
  refine VC_loop1 [6, 7] [_, _] rfl (fun (k : Nat) => [(8, .int .i64 ((k : Nat) : Int))]) (fun (k : Nat) w => k ≤ G.length ∧ (∀ y, y < k → Rc G 0 y) ∧ St w0 M0 [] w) (fun (k : Nat) => G.length - k) 0 ⟨rfl, trivial⟩ (⟨Nat.zero_le _, fun y h => absurd h (Nat.not_lt_zero _), hS.sub (List.nil_sublist _)⟩) ?_
  clear hS; rintro k w ⟨hk, hall, hS⟩
  refine VC_seq ?_
  refine VC_region ?_
  refine VL_val rfl rfl rfl (yd_lss rfl rfl) ?_
  refine VL_nil ?_
  refine VE_then ?_
  refine VC_seq ?_
  refine VC_cond rfl (fun h9 => ?_) (fun h9 => ?_)
  · replace h9 := of_decide_eq_true h9
    refine VC_skip ?_
    refine VE_then ?_
    refine VC_seq ?_
    refine VC_block ?_
    refine VC_seq ?_
    refine VC_region ?_
    have hkl : k < G.length := by omega
    refine VL_val rfl rfl rfl (yd_index0 rfl rfl Try.underlying25 T.sz4 (by omega)) ?_
    refine VL_val rfl rfl rfl (yd_load rfl T.one4 (hS.cell0 (hlive k hkl))) ?_
    refine VL_val rfl rfl rfl (yd_assign rfl) ?_
    refine VL_nil ?_
    refine VE_then ?_
    refine VC_seq ?_
    refine VC_region ?_
    refine VL_val rfl rfl rfl (yd_move rfl) ?_
    refine VL_val rfl rfl rfl (yd_not rfl) ?_
    refine VL_nil ?_
    refine VE_then ?_
    refine VC_cond rfl (fun h13 => ?_) (fun h13 => ?_)
    · replace h13 := V.nt h13
      have hno : ¬ Rc G 0 k := fun h => by have := (hok.lv k).2 h; rw [h13] at this; cases this
      refine VC_seq ?_
      refine VC_region ?_
      refine VL_val rfl rfl rfl (yd_assign rfl) ?_
      refine VL_nil ?_
      refine VE_then ?_
      refine VC_ret ?_
      refine VE_block_ret (VE_then_ret (VE_then_ret (VE_block_ret (VE_then_ret (?_)))))
      refine VE_ret1 (rfl) rfl ?_
      exact ⟨_, rfl, ⟨fun h => (by cases h), fun h => absurd (h k hkl) hno⟩, hS⟩
    · replace h13 := V.nf h13
      have hyes := (hok.lv k).1 h13
      refine VC_skip ?_
      refine VE_block_normal ?_
      refine VE_then ?_
      refine VC_region ?_
      refine VL_val rfl rfl rfl (yd_add rfl rfl ((k + 1 : Nat) : Int) (by rw [wi64 (by omega) (by omega)]; omega)) ?_
      refine VL_val rfl rfl rfl (yd_move rfl) ?_
      refine VL_nil ?_
      exact VE_round1 (k + 1) ⟨rfl, rfl, rfl, trivial⟩ ⟨by omega, all_succ hall hyes, hS⟩ (by omega)
  · replace h9 := Int.not_lt.1 (of_decide_eq_false h9)
    refine VC_exit ?_
    refine VE_then_exit (VE_then_exit (VE_block_exit ?_))
    refine VE_then ?_
    refine VC_seq ?_
    refine VC_region ?_
    refine VL_val rfl rfl rfl (yd_assign rfl) ?_
    refine VL_nil ?_
    refine VE_then ?_
    refine VC_ret ?_
    refine VE_ret1 (rfl) rfl ?_
    obtain rfl : k = G.length := by omega
    exact ⟨_, rfl, ⟨fun _ => hall, fun _ => rfl⟩, hS⟩

end Go.Proofs.Ytmoooaaiohplhac
