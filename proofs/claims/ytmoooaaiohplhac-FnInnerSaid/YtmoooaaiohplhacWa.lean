/- How a graph that came in reads; the size test; spec.Good. -/
import Derived.Test.YtmoooaaiohplhacVg
import Derived.Test.YtmoooaaiohplhacProg
namespace Go.Proofs.Ytmoooaaiohplhac
open Go Go.V
set_option linter.unusedVariables false
set_option maxRecDepth 100000

theorem T.one29 : OneT Try.prog 29 := ⟨⟨_, Try.underlying29, rfl⟩, by kernel_rfl⟩
theorem T.one3 : OneT Try.prog 3 := ⟨⟨_, Try.underlying3, rfl⟩, by kernel_rfl⟩
theorem T.sz29 : (Try.prog.info? 29).map (·.size) = some 1 := by kernel_rfl
theorem T.sz3 : (Try.prog.info? 3).map (·.size) = some 1 := by kernel_rfl

/-- The slice value v reads as the numbers l. -/
def IntsAt (w : World) (v : Value) (l : List Int) : Prop :=
  ∃ a c b o, v = .slice a l.length c ∧ (0 < l.length → a = some ⟨b, o, none⟩) ∧ ∀ j, j < l.length → w.cell? ⟨b, o + j, none⟩ = some (.int .i64 l[j]!)
/-- The slice value v reads as the rows G. -/
def RowsAt (w : World) (v : Value) (G : List (List Int)) : Prop :=
  ∃ a c b o, v = .slice a G.length c ∧ (0 < G.length → a = some ⟨b, o, none⟩) ∧ ∀ i, i < G.length → ∃ rv, w.cell? ⟨b, o + i, none⟩ = some rv ∧ IntsAt w rv G[i]!
theorem IntsAt.keep {w w' : World} {v : Value} {l : List Int} (h : IntsAt w v l) (hk : ∀ b, b < w.heap.size → w'.heap[b]? = w.heap[b]?) : IntsAt w' v l := by
  obtain ⟨a, c, b, o, h1, h2, h3⟩ := h
  exact ⟨a, c, b, o, h1, h2, fun j hj => (World.cell?_of_block (hk _ (World.block_lt_of_cell? w _ (h3 j hj)))).trans (h3 j hj)⟩
theorem RowsAt.keep {w w' : World} {v : Value} {G : List (List Int)} (h : RowsAt w v G) (hk : ∀ b, b < w.heap.size → w'.heap[b]? = w.heap[b]?) : RowsAt w' v G := by
  obtain ⟨a, c, b, o, h1, h2, h3⟩ := h
  refine ⟨a, c, b, o, h1, h2, fun i hi => ?_⟩
  obtain ⟨rv, h4, h5⟩ := h3 i hi
  exact ⟨rv, (World.cell?_of_block (hk _ (World.block_lt_of_cell? w _ h4))).trans h4, h5.keep hk⟩
/-- Which graphs are good. -/
def GoodG (G : List (List Int)) : Prop := 1 ≤ G.length ∧ G.length ≤ 12 ∧ ∀ i, i < G.length → G[i]!.length ≤ 4 ∧ ∀ j, j < G[i]!.length → 0 ≤ G[i]![j]! ∧ G[i]![j]! < G.length

theorem zzFits1_ok {w : World} {v : Value} {G : List (List Int)} (hG : RowsAt w v G) : Calls Try.prog 12 #[v] w (Ret fun u w' => w = w' ∧ ∃ b, u = .bool b ∧ (b = true → G.length ≤ 2147483647)) := by
  obtain ⟨ga, gc, gb, go, rfl, hga, hrow⟩ := hG
  refine V_enter (N := 18) Try.func12 rfl Try.ntmps12 rfl ?_
  refine VC.sub (τ := [(0, _)]) ⟨rfl, trivial⟩ ?_
  refine VC_seq ?_
  refine VC_region ?_
  refine VL_val rfl rfl rfl (yd_assign rfl) ?_
  refine VL_nil ?_
  refine VE_then ?_
  refine VC_seq ?_
  refine VC_seq ?_
  refine VC_region ?_
  refine VL_val rfl rfl rfl (yd_move rfl) ?_
  refine VL_val rfl rfl rfl (yd_len rfl Try.underlying22) ?_
  refine VL_val rfl rfl rfl (yd_gtr rfl rfl) ?_
  refine VL_nil ?_
  refine VE_then ?_
  refine VC_cond rfl (fun h7 => ?_) (fun h7 => ?_)
  · replace h7 := of_decide_eq_true h7
    refine VC_seq ?_
    refine VC_region ?_
    refine VL_val rfl rfl rfl (yd_assign rfl) ?_
    refine VL_nil ?_
    refine VE_then ?_
    refine VC_ret ?_
    refine VE_then_ret (?_)
    refine VE_ret1 (rfl) rfl ?_
    exact ⟨rfl, _, rfl, fun h => nomatch h⟩
  · replace h7 := Int.not_lt.1 (of_decide_eq_false h7)
    have hlen : G.length ≤ 2147483647 := by omega
    refine VC_skip ?_
    refine VE_then ?_
    refine VC_seq ?_
    refine VC_seq ?_
    refine VC_region ?_
    refine VL_val rfl rfl rfl (yd_move rfl) ?_
    refine VL_val rfl rfl rfl (yd_len rfl Try.underlying22) ?_
    refine VL_val rfl rfl rfl (yd_move rfl) ?_
    refine VL_nil ?_
    refine VE_then ?_
    refine VC_block ?_
    obtain ⟨w0, hw0⟩ : ∃ w0, w0 = w := ⟨_, rfl⟩
    subst hw0
    refine VC_loop1 [8, 9] [_, _] rfl (fun k => [(10, .int .i64 ((k : Nat) : Int))]) (fun k w => k ≤ G.length ∧ w0 = w) (fun k => G.length - k) 0 ⟨rfl, trivial⟩ (⟨Nat.zero_le _, rfl⟩) ?_
    rintro k w ⟨hk, rfl⟩
    refine VC_seq ?_
    refine VC_region ?_
    refine VL_val rfl rfl rfl (yd_lss rfl rfl) ?_
    refine VL_nil ?_
    refine VE_then ?_
    refine VC_seq ?_
    refine VC_cond rfl (fun h11 => ?_) (fun h11 => ?_)
    · replace h11 := of_decide_eq_true h11
      refine VC_skip ?_
      refine VE_then ?_
      refine VC_seq ?_
      refine VC_block ?_
      refine VC_seq ?_
      refine VC_region ?_
      obtain rfl := hga (by omega)
      obtain ⟨rv, hc, ra, rc, rb, ro, rfl, hra, hcs⟩ := hrow k (by omega)
      refine VL_val rfl rfl rfl (yd_index1 rfl rfl Try.underlying22 T.sz29 (by omega)) ?_
      refine VL_val rfl rfl rfl (yd_load rfl T.one29 (by assumption)) ?_
      refine VL_val rfl rfl rfl (yd_assign rfl) ?_
      refine VL_nil ?_
      refine VE_then ?_
      refine VC_seq ?_
      refine VC_region ?_
      refine VL_val rfl rfl rfl (yd_move rfl) ?_
      refine VL_val rfl rfl rfl (yd_len rfl Try.underlying29) ?_
      refine VL_val rfl rfl rfl (yd_gtr rfl rfl) ?_
      refine VL_nil ?_
      refine VE_then ?_
      refine VC_cond rfl (fun h16 => ?_) (fun h16 => ?_)
      · replace h16 := of_decide_eq_true h16
        refine VC_seq ?_
        refine VC_region ?_
        refine VL_val rfl rfl rfl (yd_assign rfl) ?_
        refine VL_nil ?_
        refine VE_then ?_
        refine VC_ret ?_
        refine VE_block_ret (VE_then_ret (VE_then_ret (VE_block_ret (VE_then_ret (?_)))))
        refine VE_ret1 (rfl) rfl ?_
        exact ⟨rfl, _, rfl, fun _ => hlen⟩
      · replace h16 := Int.not_lt.1 (of_decide_eq_false h16)
        refine VC_skip ?_
        refine VE_block_normal ?_
        refine VE_then ?_
        refine VC_region ?_
        refine VL_val rfl rfl rfl (yd_add rfl rfl ((k + 1 : Nat) : Int) (by rw [wi64 (by omega) (by omega)]; omega)) ?_
        refine VL_val rfl rfl rfl (yd_move rfl) ?_
        refine VL_nil ?_
        exact VE_round1 (k + 1) ⟨rfl, rfl, rfl, trivial⟩ ⟨by omega, rfl⟩ (by omega)
    · replace h11 := Int.not_lt.1 (of_decide_eq_false h11)
      refine VC_exit ?_
      refine VE_then_exit (VE_then_exit (VE_block_exit ?_))
      refine VE_then ?_
      refine VC_seq ?_
      refine VC_region ?_
      refine VL_val rfl rfl rfl (yd_assign rfl) ?_
      refine VL_nil ?_
      refine VE_then ?_
      refine VC_ret ?_
      refine VE_ret1 (rfl) rfl ?_
      exact ⟨rfl, _, rfl, fun _ => hlen⟩

theorem good_ok {w : World} {v : Value} {G : List (List Int)} (hG : RowsAt w v G) (hlen : G.length ≤ 2147483647) : Calls Try.prog 13 #[v] w (Ret fun u w' => w = w' ∧ ∃ b, u = .bool b ∧ (b = true ↔ GoodG G)) := by
  obtain ⟨ga, gc, gb, go, rfl, hga, hrow⟩ := hG
  refine V_enter (N := 40) Try.func13 rfl Try.ntmps13 rfl ?_
  refine VC.sub (τ := [(0, _)]) ⟨rfl, trivial⟩ ?_
  refine VC_seq ?_
  refine VC_region ?_
  refine VL_val rfl rfl rfl (yd_assign rfl) ?_
  refine VL_nil ?_
  refine VE_then ?_
  refine VC_seq ?_
  refine VC_seq ?_
  refine VC_region ?_
  refine VL_val rfl rfl rfl (yd_move rfl) ?_
  refine VL_val rfl rfl rfl (yd_len rfl Try.underlying22) ?_
  refine VL_val rfl rfl rfl (yd_lss rfl rfl) ?_
  refine VL_val rfl rfl rfl (yd_move rfl) ?_
  refine VL_split 10 rfl (fun h10 => ?_) (fun h10 => ?_)
  · replace h10 := of_decide_eq_true h10
    refine VL_no rfl rfl rfl rfl rfl rfl rfl ?_
    refine VL_no rfl rfl rfl rfl rfl rfl rfl ?_
    refine VL_no rfl rfl rfl rfl rfl rfl rfl ?_
    refine VL_val rfl rfl rfl (yd_pick_t rfl rfl) ?_
    refine VL_nil ?_
    refine VE_then ?_
    refine VC_cond_t rfl ?_
    refine VC_seq ?_
    refine VC_region ?_
    refine VL_val rfl rfl rfl (yd_assign rfl) ?_
    refine VL_nil ?_
    refine VE_then ?_
    refine VC_ret ?_
    refine VE_then_ret (?_)
    refine VE_ret1 (rfl) rfl ?_
    exact ⟨rfl, _, rfl, fun h => (nomatch h), fun h => by have := h.1; have := h.2.1; omega⟩
  · replace h10 := Int.not_lt.1 (of_decide_eq_false h10)
    refine VL_yes rfl rfl rfl rfl ?_
    refine VL_val rfl rfl rfl (yd_move rfl) ?_
    refine VL_yes rfl rfl rfl rfl ?_
    refine VL_val rfl rfl rfl (yd_len rfl Try.underlying22) ?_
    refine VL_yes rfl rfl rfl rfl ?_
    refine VL_val rfl rfl rfl (yd_gtr rfl rfl) ?_
    refine VL_val rfl rfl rfl (yd_pick_f rfl rfl) ?_
    refine VL_nil ?_
    refine VE_then ?_
    refine VC_cond rfl (fun h14 => ?_) (fun h14 => ?_)
    · replace h14 := of_decide_eq_true h14
      refine VC_seq ?_
      refine VC_region ?_
      refine VL_val rfl rfl rfl (yd_assign rfl) ?_
      refine VL_nil ?_
      refine VE_then ?_
      refine VC_ret ?_
      refine VE_then_ret (?_)
      refine VE_ret1 (rfl) rfl ?_
      exact ⟨rfl, _, rfl, fun h => (nomatch h), fun h => by have := h.1; have := h.2.1; omega⟩
    · replace h14 := Int.not_lt.1 (of_decide_eq_false h14)
      refine VC_skip ?_
      refine VE_then ?_
      refine VC_seq ?_
      refine VC_seq ?_
      refine VC_region ?_
      refine VL_val rfl rfl rfl (yd_move rfl) ?_
      refine VL_val rfl rfl rfl (yd_len rfl Try.underlying22) ?_
      refine VL_val rfl rfl rfl (yd_move rfl) ?_
      refine VL_nil ?_
      refine VE_then ?_
      refine VC_block ?_
      obtain ⟨w0, hw0⟩ : ∃ w0, w0 = w := ⟨_, rfl⟩
      subst hw0
      refine VC_loop1 [0, 15, 16] [_, _, _] rfl (fun k => [(17, .int .i64 ((k : Nat) : Int))]) (fun k w => k ≤ G.length ∧ w0 = w ∧ ∀ i, i < k → G[i]!.length ≤ 4 ∧ ∀ j, j < G[i]!.length → 0 ≤ G[i]![j]! ∧ G[i]![j]! < G.length) (fun k => G.length - k) 0 ⟨rfl, trivial⟩ (⟨Nat.zero_le _, rfl, fun i hi => absurd hi (Nat.not_lt_zero _)⟩) ?_
      rintro k w ⟨hk, rfl, hg⟩
      refine VC_seq ?_
      refine VC_region ?_
      refine VL_val rfl rfl rfl (yd_lss rfl rfl) ?_
      refine VL_nil ?_
      refine VE_then ?_
      refine VC_seq ?_
      refine VC_cond rfl (fun h18 => ?_) (fun h18 => ?_)
      · replace h18 := of_decide_eq_true h18
        refine VC_skip ?_
        refine VE_then ?_
        refine VC_seq ?_
        refine VC_block ?_
        refine VC_seq ?_
        refine VC_region ?_
        obtain rfl := hga (by omega)
        obtain ⟨rv, hc, ra, rc, rb, ro, rfl, hra, hcs⟩ := hrow k (by omega)
        refine VL_val rfl rfl rfl (yd_index1 rfl rfl Try.underlying22 T.sz29 (by omega)) ?_
        refine VL_val rfl rfl rfl (yd_load rfl T.one29 (by assumption)) ?_
        refine VL_val rfl rfl rfl (yd_assign rfl) ?_
        refine VL_nil ?_
        refine VE_then ?_
        refine VC_seq ?_
        refine VC_seq ?_
        refine VC_region ?_
        refine VL_val rfl rfl rfl (yd_move rfl) ?_
        refine VL_val rfl rfl rfl (yd_len rfl Try.underlying29) ?_
        refine VL_val rfl rfl rfl (yd_gtr rfl rfl) ?_
        refine VL_nil ?_
        refine VE_then ?_
        refine VC_cond rfl (fun h23 => ?_) (fun h23 => ?_)
        · replace h23 := of_decide_eq_true h23
          have hbad : ¬ GoodG G := fun h => by have := (h.2.2 k (by omega)).1; omega
          refine VC_seq ?_
          refine VC_region ?_
          refine VL_val rfl rfl rfl (yd_assign rfl) ?_
          refine VL_nil ?_
          refine VE_then ?_
          refine VC_ret ?_
          refine VE_then_ret (VE_block_ret (VE_then_ret (VE_then_ret (VE_block_ret (VE_then_ret (?_))))))
          refine VE_ret1 (rfl) rfl ?_
          exact ⟨rfl, _, rfl, fun h => (nomatch h), fun h => absurd h hbad⟩
        · replace h23 := Int.not_lt.1 (of_decide_eq_false h23)
          refine VC_skip ?_
          refine VE_then ?_
          refine VC_seq ?_
          refine VC_region ?_
          refine VL_val rfl rfl rfl (yd_move rfl) ?_
          refine VL_val rfl rfl rfl (yd_len rfl Try.underlying29) ?_
          refine VL_val rfl rfl rfl (yd_move rfl) ?_
          refine VL_nil ?_
          refine VE_then ?_
          refine VC_block ?_
          refine VC_loop1 [0, 4, 15, 16, 17, 18, 19, 20, 21, 22, 23, 24, 25] [_, _, _, _, _, _, _, _, _, _, _, _, _] rfl (fun j => [(26, .int .i64 ((j : Nat) : Int))]) (fun j w => j ≤ G[k]!.length ∧ w0 = w ∧ ∀ i, i < j → 0 ≤ G[k]![i]! ∧ G[k]![i]! < G.length) (fun j => G[k]!.length - j) 0 ⟨rfl, trivial⟩ (⟨Nat.zero_le _, rfl, fun i hi => absurd hi (Nat.not_lt_zero _)⟩) ?_
          rintro j w ⟨hj, rfl, hgj⟩
          refine VC_seq ?_
          refine VC_region ?_
          refine VL_val rfl rfl rfl (yd_lss rfl rfl) ?_
          refine VL_nil ?_
          refine VE_then ?_
          refine VC_seq ?_
          refine VC_cond rfl (fun h27 => ?_) (fun h27 => ?_)
          · replace h27 := of_decide_eq_true h27
            refine VC_skip ?_
            refine VE_then ?_
            refine VC_seq ?_
            refine VC_block ?_
            refine VC_seq ?_
            refine VC_region ?_
            obtain rfl := hra (by omega)
            have hcj := hcs j (by omega)
            refine VL_val rfl rfl rfl (yd_index1 rfl rfl Try.underlying29 T.sz3 (by omega)) ?_
            refine VL_val rfl rfl rfl (yd_load rfl T.one3 (by assumption)) ?_
            refine VL_val rfl rfl rfl (yd_assign rfl) ?_
            refine VL_nil ?_
            refine VE_then ?_
            refine VC_seq ?_
            refine VC_region ?_
            refine VL_val rfl rfl rfl (yd_move rfl) ?_
            refine VL_val rfl rfl rfl (yd_lss rfl rfl) ?_
            refine VL_val rfl rfl rfl (yd_move rfl) ?_
            refine VL_split 32 rfl (fun h32 => ?_) (fun h32 => ?_)
            · replace h32 := of_decide_eq_true h32
              refine VL_no rfl rfl rfl rfl rfl rfl rfl ?_
              refine VL_no rfl rfl rfl rfl rfl rfl rfl ?_
              refine VL_no rfl rfl rfl rfl rfl rfl rfl ?_
              refine VL_no rfl rfl rfl rfl rfl rfl rfl ?_
              refine VL_val rfl rfl rfl (yd_pick_t rfl rfl) ?_
              refine VL_nil ?_
              refine VE_then ?_
              refine VC_cond_t rfl ?_
              refine VC_seq ?_
              refine VC_region ?_
              refine VL_val rfl rfl rfl (yd_assign rfl) ?_
              refine VL_nil ?_
              refine VE_then ?_
              refine VC_ret ?_
              refine VE_block_ret (VE_then_ret (VE_then_ret (VE_block_ret (VE_block_ret (VE_then_ret (VE_then_ret (VE_block_ret (VE_then_ret (?_)))))))))
              refine VE_ret1 (rfl) rfl ?_
              exact ⟨rfl, _, rfl, fun h => (nomatch h), fun h => by have := ((h.2.2 k (by omega)).2 j (by omega)); omega⟩
            · replace h32 := Int.not_lt.1 (of_decide_eq_false h32)
              refine VL_yes rfl rfl rfl rfl ?_
              refine VL_val rfl rfl rfl (yd_move rfl) ?_
              refine VL_yes rfl rfl rfl rfl ?_
              refine VL_val rfl rfl rfl (yd_move rfl) ?_
              refine VL_yes rfl rfl rfl rfl ?_
              refine VL_val rfl rfl rfl (yd_len rfl Try.underlying22) ?_
              refine VL_yes rfl rfl rfl rfl ?_
              refine VL_val rfl rfl rfl (yd_geq rfl rfl) ?_
              refine VL_val rfl rfl rfl (yd_pick_f rfl rfl) ?_
              refine VL_nil ?_
              refine VE_then ?_
              refine VC_cond rfl (fun h37 => ?_) (fun h37 => ?_)
              · replace h37 := of_decide_eq_true h37
                refine VC_seq ?_
                refine VC_region ?_
                refine VL_val rfl rfl rfl (yd_assign rfl) ?_
                refine VL_nil ?_
                refine VE_then ?_
                refine VC_ret ?_
                refine VE_block_ret (VE_then_ret (VE_then_ret (VE_block_ret (VE_block_ret (VE_then_ret (VE_then_ret (VE_block_ret (VE_then_ret (?_)))))))))
                refine VE_ret1 (rfl) rfl ?_
                exact ⟨rfl, _, rfl, fun h => (nomatch h), fun h => by have := ((h.2.2 k (by omega)).2 j (by omega)); omega⟩
              · replace h37 := Int.not_le.1 (of_decide_eq_false h37)
                refine VC_skip ?_
                refine VE_block_normal ?_
                refine VE_then ?_
                refine VC_region ?_
                refine VL_val rfl rfl rfl (yd_add rfl rfl ((j + 1 : Nat) : Int) (by rw [wi64 (by omega) (by omega)]; omega)) ?_
                refine VL_val rfl rfl rfl (yd_move rfl) ?_
                refine VL_nil ?_
                exact VE_round1 (j + 1) ⟨rfl, rfl, rfl, rfl, rfl, rfl, rfl, rfl, rfl, rfl, rfl, rfl, rfl, rfl, trivial⟩ ⟨by omega, rfl, all_succ hgj (by omega)⟩ (by omega)
          · replace h27 := Int.not_lt.1 (of_decide_eq_false h27)
            refine VC_exit ?_
            refine VE_then_exit (VE_then_exit (VE_block_exit ?_))
            refine VE_block_normal ?_
            refine VE_then ?_
            refine VC_region ?_
            refine VL_val rfl rfl rfl (yd_add rfl rfl ((k + 1 : Nat) : Int) (by rw [wi64 (by omega) (by omega)]; omega)) ?_
            refine VL_val rfl rfl rfl (yd_move rfl) ?_
            refine VL_nil ?_
            exact VE_round1 (k + 1) ⟨rfl, rfl, rfl, rfl, trivial⟩ ⟨by omega, rfl, all_succ hg ⟨by omega, fun i hi => hgj i (by omega)⟩⟩ (by omega)
      · replace h18 := Int.not_lt.1 (of_decide_eq_false h18)
        refine VC_exit ?_
        refine VE_then_exit (VE_then_exit (VE_block_exit ?_))
        refine VE_then ?_
        refine VC_seq ?_
        refine VC_region ?_
        refine VL_val rfl rfl rfl (yd_assign rfl) ?_
        refine VL_nil ?_
        refine VE_then ?_
        refine VC_ret ?_
        refine VE_ret1 (rfl) rfl ?_
        exact ⟨rfl, _, rfl, fun _ => ⟨by omega, by omega, fun i hi => hg i (by omega)⟩, fun _ => rfl⟩

end Go.Proofs.Ytmoooaaiohplhac
