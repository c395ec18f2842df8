/- spec.Reach, spec.Same, spec.Circle, laws.places. -/
import Derived.Test.YtmoooaaiohplhacWa
import Derived.Test.YtmoooaaiohplhacPa
namespace Go.Proofs.Ytmoooaaiohplhac
open Go Go.V
set_option linter.unusedVariables false
set_option maxRecDepth 100000

theorem T.mixed : Try.prog.follows .mixedOrders = true := by kernel_rfl
theorem T.e3 : ElemT Try.prog 3 1 8 (.int .i64 0) := ElemT.of (by kernel_rfl)
theorem T.e4 : ElemT Try.prog 4 1 1 (.bool false) := ElemT.of (by kernel_rfl)
theorem T.one4 : OneT Try.prog 4 := ⟨⟨_, Try.underlying4, rfl⟩, by kernel_rfl⟩
theorem T.sz4 : (Try.prog.info? 4).map (·.size) = some 1 := by kernel_rfl
theorem T.call15 : CallT Try.prog 15 := CallT.of Try.func15 (by kernel_rfl) (by kernel_rfl)

open Go.PL
/-- The slice value v reads as the graph G. -/
def GraphAt (w : World) (v : Value) (G : Graph) : Prop :=
  ∃ a c b o, v = .slice a G.length c ∧ (0 < G.length → a = some ⟨b, o, none⟩) ∧ ∀ i, i < G.length → ∃ ra rc rb ro, w.cell? ⟨b, o + i, none⟩ = some (.slice ra G[i]!.length rc) ∧
    (0 < G[i]!.length → ra = some ⟨rb, ro, none⟩) ∧ ∀ j, j < G[i]!.length → w.cell? ⟨rb, ro + j, none⟩ = some (.int .i64 ((G[i]![j]! : Nat) : Int))
theorem GraphAt.keep {w w' : World} {v : Value} {G : Graph} (h : GraphAt w v G) (hk : ∀ b, b < w.heap.size → w'.heap[b]? = w.heap[b]?) : GraphAt w' v G := by
  obtain ⟨a, c, b, o, h1, h2, h3⟩ := h
  refine ⟨a, c, b, o, h1, h2, fun i hi => ?_⟩
  obtain ⟨ra, rc, rb, ro, h4, h5, h6⟩ := h3 i hi
  exact ⟨ra, rc, rb, ro, (World.cell?_of_block (hk _ (World.block_lt_of_cell? w _ h4))).trans h4, h5, fun j hj => (World.cell?_of_block (hk _ (World.block_lt_of_cell? w _ (h6 j hj)))).trans (h6 j hj)⟩
theorem _root_.Go.V.St.graph {w0 w : World} {η : List Res} {v : Value} {G : Graph} (hS : St w0 M0 η w) (h : GraphAt w0 v G) : GraphAt w v G := h.keep (fun b hb => hS.old b hb (fun x => x))
theorem _root_.Go.V.St.ints {w0 w : World} {η : List Res} {v : Value} {l : List Int} (hS : St w0 M0 η w) (h : IntsAt w0 v l) : IntsAt w v l := h.keep (fun b hb => hS.old b hb (fun x => x))

theorem graph_of_rows {w : World} {v : Value} {G : List (List Int)} (h : RowsAt w v G) (hg : GoodG G) : ∃ H : Graph, GraphAt w v H ∧ Gd H ∧ H.length = G.length := by
  have hrow : ∀ i, i < G.length → (G.map fun r => r.map Int.toNat)[i]! = G[i]!.map Int.toNat := by
    intro i hi; simp [hi]
  have hel : ∀ i, i < G.length → ∀ j, j < G[i]!.length → (((G[i]!.map Int.toNat)[j]! : Nat) : Int) = G[i]![j]! := by
    intro i hi j hj
    have := ((hg.2.2 i hi).2 j hj).1
    rw [getElem!_pos (G[i]!.map Int.toNat) j (by simpa using hj), List.getElem_map, ← getElem!_pos G[i]! j hj]
    omega
  refine ⟨G.map fun r => r.map Int.toNat, ?_, ?_, by simp⟩
  · obtain ⟨a, c, b, o, h1, h2, h3⟩ := h
    refine ⟨a, c, b, o, by simpa using h1, by simpa using h2, fun i hi => ?_⟩
    have hi' : i < G.length := by simpa using hi
    obtain ⟨rv, h4, ra, rc, rb, ro, rfl, h6, h7⟩ := h3 i hi'
    rw [hrow i hi']
    refine ⟨ra, rc, rb, ro, by simpa using h4, by simpa using h6, fun j hj => ?_⟩
    have hj' : j < G[i]!.length := by simpa using hj
    rw [hel i hi' j hj']
    exact h7 j hj'
  · refine ⟨by simpa using hg.1, by have := hg.2.1; simp; omega, ?_, ?_⟩
    · intro i hi
      have hi' : i < G.length := by simpa using hi
      rw [hrow i hi']
      simpa using (hg.2.2 i hi').1
    · intro i hi j hj
      have hi' : i < G.length := by simpa using hi
      rw [hrow i hi'] at hj ⊢
      have hj' : j < G[i]!.length := by simpa using hj
      have h1 := hel i hi' j hj'
      have h2 := (hg.2.2 i hi').2 j hj'
      simp only [List.length_map]
      omega
/-- A row of numbers that is ours reads as those numbers. -/
theorem ints_of_blk {w : World} {b t : Nat} {l : List Int} {c : Nat} (h : (blk b t (l.map (Value.int .i64))).holds w) : IntsAt w (.slice (some ⟨b, 0, none⟩) l.length c) l :=
  ⟨_, _, b, 0, rfl, fun _ => rfl, fun j hj => by rw [Nat.zero_add]; exact blk_cellM h hj⟩
theorem ints_of_row {w : World} {v : Value} {t : Nat} {l : List Int} (h : (row v t 1 l.length (l.map (Value.int .i64))).holds w) : IntsAt w v l := by
  obtain ⟨h1, h2⟩ := h
  rcases h2 with ⟨rfl, h3⟩ | ⟨g, cap, cur, rfl, hb, hg, hn, hm, hs, htake⟩
  · exact ⟨none, 0, 0, 0, by rw [h3], fun h => by omega, fun j hj => by omega⟩
  · refine ⟨_, cap, g, 0, rfl, fun _ => rfl, fun j hj => ?_⟩
    rw [Nat.zero_add]
    have hu : (l.map (Value.int .i64))[j]? = some (Value.int .i64 l[j]!) := by simp [hj]
    rw [← htake, List.getElem?_take] at hu
    split at hu
    · simp [World.cell?, hg]; simpa using hu
    · cases hu
/-- x stands at place i of l. -/
def IsPlaces (l : List Nat) (n : Nat) (A : List Int) : Prop := A.length = n ∧ ∀ x, x < n → (A[x]! = -1 ∧ x ∉ l) ∨ (∃ i, i < l.length ∧ l[i]! = x ∧ A[x]! = (i : Int))

theorem reach_ok {w0 : World} {v : Value} {G : Graph} (hG : GraphAt w0 v G) (hg : Gd G) {s : Nat} (hs : s < G.length) {wo : Int} : Calls Try.prog 15 #[v, .int .i64 (s : Int), .int .i64 wo] w0 (Ret fun u w' => ∃ b R, u = .slice (some ⟨b, 0, none⟩) G.length G.length ∧ St w0 M0 [blk b 4 (R.map Value.bool)] w' ∧ IsReach G s wo R) := by
  obtain ⟨ga, gc, gb, go, rfl, hga, hrow⟩ := hG
  obtain rfl := hga (by omega)
  have hS := St.refl w0
  have hle := hg.le
  refine V_enter (N := 55) Try.func15 rfl Try.ntmps15 rfl ?_
  refine VC.sub (τ := [(0, _), (1, _), (2, _)]) ⟨rfl, rfl, rfl, trivial⟩ ?_
  refine VC_seq ?_
  refine VC_region ?_
  refine VL_val rfl rfl rfl (yd_assign rfl) ?_
  refine VL_nil ?_
  refine VE_then ?_
  refine VC_seq ?_
  refine VC_region ?_
  refine VL_val rfl rfl rfl (yd_move rfl) ?_
  refine VL_val rfl rfl rfl (yd_len rfl Try.underlying22) ?_
  refine VL_makeM Value.bool false rfl rfl rfl rfl rfl rfl Try.underlying25 T.e4 rfl rfl (by omega) (by omega) (by omega) hS ?_
  clear hS; intro b14 w hS
  refine VL_val rfl rfl rfl (yd_assign rfl) ?_
  refine VL_nil ?_
  refine VE_then ?_
  refine VC_seq ?_
  refine VC_seq ?_
  refine VC_region ?_
  refine VL_val rfl rfl rfl (yd_move rfl) ?_
  refine VL_val rfl rfl rfl (yd_move rfl) ?_
  refine VL_val rfl rfl rfl (yd_eql rfl rfl) ?_
  refine VL_nil ?_
  refine VE_then ?_
  refine VC_cond rfl (fun h17 => ?_) (fun h17 => ?_)
  · replace h17 := of_decide_eq_true h17
    subst h17
    refine VC_seq ?_
    refine VC_region ?_
    refine VL_val rfl rfl rfl (yd_move rfl) ?_
    refine VL_val rfl rfl rfl (yd_assign rfl) ?_
    refine VL_nil ?_
    refine VE_then ?_
    refine VC_ret ?_
    refine VE_then_ret (?_)
    refine VE_ret1 (rfl) rfl ?_
    exact ⟨_, _, rfl, hS, isReach_none⟩
  · replace h17 := of_decide_eq_false h17
    refine VC_skip ?_
    refine VE_then ?_
    refine VC_seq ?_
    refine VC_region ?_
    refine VL_val rfl rfl rfl (yd_move rfl) ?_
    refine VL_val rfl rfl rfl (yd_move rfl) ?_
    refine VL_val rfl rfl rfl (yd_index0 rfl rfl Try.underlying25 T.sz4 (by omega)) ?_
    refine VL_storeM rfl rfl rfl rfl rfl T.one4 rfl hS 0 rfl (by simpa using hs) rfl ?_
    clear hS; intro w hS
    refine VL_nil ?_
    refine VE_then ?_
    refine VC_seq ?_
    refine VC_seq ?_
    refine VC_region ?_
    refine VL_val rfl rfl rfl (yd_move rfl) ?_
    refine VL_val rfl rfl rfl (yd_len rfl Try.underlying22) ?_
    refine VL_val rfl rfl rfl (yd_move rfl) ?_
    refine VL_nil ?_
    refine VE_then ?_
    refine VC_block ?_
    refine VC_loop2 [0, 2, 6, 7, 23] [_, _, _, _, _] rfl (fun (r : Nat) (R : List Bool) => [(24, .int .i64 ((r : Nat) : Int))]) (fun (r : Nat) (R : List Bool) w => r ≤ G.length ∧ RSound G wo s R ∧ (RClosed G wo R ∨ r + 1 ≤ cnt R) ∧ St w0 M0 [blk b14 4 (R.map Value.bool)] w) (fun (r : Nat) (R : List Bool) => G.length - r) 0 _ ⟨rfl, trivial⟩ (⟨Nat.zero_le _, RSound.init hs, .inr (cnt_init hs), hS⟩) ?_
    clear hS; rintro r R w ⟨hr, hsd, hcl, hS⟩
    refine VC_seq ?_
    refine VC_region ?_
    refine VL_val rfl rfl rfl (yd_lss rfl rfl) ?_
    refine VL_nil ?_
    refine VE_then ?_
    refine VC_seq ?_
    refine VC_cond rfl (fun h25 => ?_) (fun h25 => ?_)
    · replace h25 := of_decide_eq_true h25
      refine VC_skip ?_
      refine VE_then ?_
      refine VC_seq ?_
      refine VC_block ?_
      refine VC_seq ?_
      refine VC_region ?_
      refine VL_val rfl rfl rfl (yd_move rfl) ?_
      refine VL_val rfl rfl rfl (yd_len rfl Try.underlying22) ?_
      refine VL_val rfl rfl rfl (yd_move rfl) ?_
      refine VL_nil ?_
      refine VE_then ?_
      refine VC_block ?_
      refine VC_loop2 [0, 2, 6, 7, 23, 24, 25, 26, 27] [_, _, _, _, _, _, _, _, _] rfl (fun (x : Nat) (R : List Bool) => [(28, .int .i64 ((x : Nat) : Int))]) (fun (x : Nat) (R : List Bool) w => x ≤ G.length ∧ RSound G wo s R ∧ RJ G wo R r x 0 ∧ St w0 M0 [blk b14 4 (R.map Value.bool)] w) (fun (x : Nat) (R : List Bool) => G.length - x) 0 R ⟨rfl, trivial⟩ (⟨Nat.zero_le _, hsd, RJ.start hcl, hS⟩) ?_
      clear hS hcl hsd R; rintro x R w ⟨hx, hsd, hJ, hS⟩
      refine VC_seq ?_
      refine VC_region ?_
      refine VL_val rfl rfl rfl (yd_lss rfl rfl) ?_
      refine VL_nil ?_
      refine VE_then ?_
      refine VC_seq ?_
      refine VC_cond rfl (fun h29 => ?_) (fun h29 => ?_)
      · replace h29 := of_decide_eq_true h29
        refine VC_skip ?_
        refine VE_then ?_
        refine VC_seq ?_
        refine VC_block ?_
        refine VC_seq ?_
        refine VC_region ?_
        obtain ⟨ra, rc, rb, ro, hc, hra, hcs⟩ := hrow x (by omega)
        refine VL_val rfl rfl rfl (yd_move rfl) ?_
        refine VL_val rfl rfl rfl (yd_index1 rfl rfl Try.underlying22 T.sz29 (by omega)) ?_
        refine VL_val rfl rfl rfl (yd_load rfl T.one29 (hS.cell0 hc)) ?_
        refine VL_val rfl rfl rfl (yd_assign rfl) ?_
        refine VL_val rfl rfl rfl (yd_assign rfl) ?_
        refine VL_nil ?_
        refine VE_then ?_
        refine VC_seq ?_
        refine VC_region ?_
        refine VL_val rfl rfl rfl (yd_move rfl) ?_
        refine VL_val rfl rfl rfl (yd_len rfl Try.underlying29) ?_
        refine VL_val rfl rfl rfl (yd_move rfl) ?_
        refine VL_nil ?_
        refine VE_then ?_
        refine VC_block ?_
        refine VC_loop2 [0, 2, 6, 7, 8, 9, 23, 24, 25, 26, 27, 28, 29, 30, 31, 32, 33, 34] [_, _, _, _, _, _, _, _, _, _, _, _, _, _, _, _, _, _] rfl (fun (j : Nat) (R : List Bool) => [(35, .int .i64 ((j : Nat) : Int))]) (fun (j : Nat) (R : List Bool) w => j ≤ G[x]!.length ∧ RSound G wo s R ∧ RJ G wo R r x j ∧ St w0 M0 [blk b14 4 (R.map Value.bool)] w) (fun (j : Nat) (R : List Bool) => G[x]!.length - j) 0 R ⟨rfl, trivial⟩ (⟨Nat.zero_le _, hsd, hJ, hS⟩) ?_
        clear hS hJ hsd R; rintro j R w ⟨hj, hsd, hJ, hS⟩
        have hrl := hsd.len
        have hr4 := hg.row
        refine VC_seq ?_
        refine VC_region ?_
        refine VL_val rfl rfl rfl (yd_lss rfl rfl) ?_
        refine VL_nil ?_
        refine VE_then ?_
        refine VC_seq ?_
        refine VC_cond rfl (fun h36 => ?_) (fun h36 => ?_)
        · replace h36 := of_decide_eq_true h36
          refine VC_skip ?_
          refine VE_then ?_
          refine VC_seq ?_
          refine VC_block ?_
          refine VC_seq ?_
          refine VC_region ?_
          obtain rfl := hra (by omega)
          refine VL_val rfl rfl rfl (yd_index1 rfl rfl Try.underlying29 T.sz3 (by omega)) ?_
          refine VL_val rfl rfl rfl (yd_load rfl T.one3 (hS.cell0 (hcs j (by omega)))) ?_
          refine VL_val rfl rfl rfl (yd_assign rfl) ?_
          refine VL_nil ?_
          refine VE_then ?_
          refine VC_seq ?_
          refine VC_region ?_
          refine VL_val rfl rfl rfl (yd_move rfl) ?_
          refine VL_val rfl rfl rfl (yd_move rfl) ?_
          refine VL_val rfl rfl rfl (yd_index0 rfl rfl Try.underlying25 T.sz4 (by omega)) ?_
          refine VL_val rfl rfl rfl (yd_load rfl T.one4 (blk_cellM (hS.get 0 rfl) (by omega))) ?_
          refine VL_val rfl rfl rfl (yd_move rfl) ?_
          refine VL_split 43 rfl (fun h43 => ?_) (fun h43 => ?_)
          · skip
            refine VL_yes rfl rfl rfl rfl ?_
            refine VL_val rfl rfl rfl (yd_move rfl) ?_
            refine VL_yes rfl rfl rfl rfl ?_
            refine VL_val rfl rfl rfl (yd_move rfl) ?_
            refine VL_yes rfl rfl rfl rfl ?_
            refine VL_val rfl rfl rfl (yd_neq rfl rfl) ?_
            refine VL_val rfl rfl rfl (yd_pick_t rfl rfl) ?_
            refine VL_nil ?_
            refine VE_then ?_
            refine VC_cond rfl (fun h47 => ?_) (fun h47 => ?_)
            · replace h47 := of_decide_eq_true h47
              have hlt := hg.lt x (by omega) j (by omega)
              refine VC_region ?_
              have hJ := hJ.take hg hsd (by omega) (by omega) h43 h47
              have hsd := hsd.take hg (by omega) (by omega) h43 h47
              refine VL_val rfl rfl rfl (yd_move rfl) ?_
              refine VL_val rfl rfl rfl (yd_move rfl) ?_
              refine VL_val rfl rfl rfl (yd_index0 rfl rfl Try.underlying25 T.sz4 (by omega)) ?_
              refine VL_storeM rfl rfl rfl rfl rfl T.one4 rfl hS 0 rfl (by omega) rfl ?_
              clear hS; intro w hS
              refine VL_nil ?_
              refine VE_block_normal ?_
              refine VE_then ?_
              refine VC_region ?_
              have hr5 := hg.row x (by omega)
              refine VL_val rfl rfl rfl (yd_add rfl rfl ((j + 1 : Nat) : Int) (by rw [wi64 (by omega) (by omega)]; omega)) ?_
              refine VL_val rfl rfl rfl (yd_move rfl) ?_
              refine VL_nil ?_
              exact VE_round2 (j + 1) _ ⟨rfl, rfl, rfl, rfl, rfl, rfl, rfl, rfl, rfl, rfl, rfl, rfl, rfl, rfl, rfl, rfl, rfl, rfl, rfl, trivial⟩ ⟨by omega, hsd, hJ, hS⟩ (by omega)
            · replace h47 := Decidable.not_not.1 (of_decide_eq_false h47)
              have hJ := hJ.skip (fun _ h => h h47)
              refine VC_skip ?_
              refine VE_block_normal ?_
              refine VE_then ?_
              refine VC_region ?_
              have hr5 := hg.row x (by omega)
              refine VL_val rfl rfl rfl (yd_add rfl rfl ((j + 1 : Nat) : Int) (by rw [wi64 (by omega) (by omega)]; omega)) ?_
              refine VL_val rfl rfl rfl (yd_move rfl) ?_
              refine VL_nil ?_
              exact VE_round2 (j + 1) _ ⟨rfl, rfl, rfl, rfl, rfl, rfl, rfl, rfl, rfl, rfl, rfl, rfl, rfl, rfl, rfl, rfl, rfl, rfl, rfl, trivial⟩ ⟨by omega, hsd, hJ, hS⟩ (by omega)
          · skip
            have hJ := hJ.skip (fun h => by rw [h43] at h; cases h)
            refine VL_no rfl rfl rfl rfl rfl rfl rfl ?_
            refine VL_no rfl rfl rfl rfl rfl rfl rfl ?_
            refine VL_no rfl rfl rfl rfl rfl rfl rfl ?_
            refine VL_val rfl rfl rfl (yd_pick_f rfl rfl) ?_
            refine VL_nil ?_
            refine VE_then ?_
            refine VC_cond_f rfl ?_
            refine VC_skip ?_
            refine VE_block_normal ?_
            refine VE_then ?_
            refine VC_region ?_
            have hr5 := hg.row x (by omega)
            refine VL_val rfl rfl rfl (yd_add rfl rfl ((j + 1 : Nat) : Int) (by rw [wi64 (by omega) (by omega)]; omega)) ?_
            refine VL_val rfl rfl rfl (yd_move rfl) ?_
            refine VL_nil ?_
            exact VE_round2 (j + 1) _ ⟨rfl, rfl, rfl, rfl, rfl, rfl, rfl, rfl, rfl, rfl, rfl, rfl, rfl, rfl, rfl, rfl, rfl, rfl, rfl, trivial⟩ ⟨by omega, hsd, hJ, hS⟩ (by omega)
        · replace h36 := Int.not_lt.1 (of_decide_eq_false h36)
          refine VC_exit ?_
          refine VE_then_exit (VE_then_exit (VE_block_exit ?_))
          refine VE_block_normal ?_
          refine VE_then ?_
          refine VC_region ?_
          refine VL_val rfl rfl rfl (yd_add rfl rfl ((x + 1 : Nat) : Int) (by rw [wi64 (by omega) (by omega)]; omega)) ?_
          refine VL_val rfl rfl rfl (yd_move rfl) ?_
          refine VL_nil ?_
          exact VE_round2 (x + 1) _ ⟨rfl, rfl, rfl, rfl, rfl, rfl, rfl, rfl, rfl, rfl, trivial⟩ ⟨by omega, hsd, hJ.row (by omega), hS⟩ (by omega)
      · replace h29 := Int.not_lt.1 (of_decide_eq_false h29)
        refine VC_exit ?_
        refine VE_then_exit (VE_then_exit (VE_block_exit ?_))
        refine VE_block_normal ?_
        refine VE_then ?_
        refine VC_region ?_
        refine VL_val rfl rfl rfl (yd_add rfl rfl ((r + 1 : Nat) : Int) (by rw [wi64 (by omega) (by omega)]; omega)) ?_
        refine VL_val rfl rfl rfl (yd_move rfl) ?_
        refine VL_nil ?_
        obtain rfl : x = G.length := by omega
        exact VE_round2 (r + 1) _ ⟨rfl, rfl, rfl, rfl, rfl, rfl, trivial⟩ ⟨by omega, hsd, hJ.done, hS⟩ (by omega)
    · replace h25 := Int.not_lt.1 (of_decide_eq_false h25)
      refine VC_exit ?_
      refine VE_then_exit (VE_then_exit (VE_block_exit ?_))
      refine VE_then ?_
      refine VC_seq ?_
      refine VC_region ?_
      refine VL_val rfl rfl rfl (yd_move rfl) ?_
      refine VL_val rfl rfl rfl (yd_assign rfl) ?_
      refine VL_nil ?_
      refine VE_then ?_
      refine VC_ret ?_
      refine VE_ret1 (rfl) rfl ?_
      obtain rfl : r = G.length := by omega
      exact ⟨_, _, rfl, hS, hsd.done hg h17 hs hcl⟩

theorem circle_ok {w0 : World} {v : Value} {G : Graph} (hG : GraphAt w0 v G) (hg : Gd G) : Calls Try.prog 41 #[v] w0 (Ret fun u w' => ∃ b, u = .bool b ∧ St w0 M0 [] w' ∧ (b = true ↔ ∃ x y, Ed G x y ∧ Rch G (-1) y x)) := by
  have hG0 := hG
  obtain ⟨ga, gc, gb, go, rfl, hga, hrow⟩ := hG
  obtain rfl := hga (by have := hg.pos; omega)
  have hS := St.refl w0
  have hle := hg.le
  refine V_enter (N := 28) Try.func41 rfl Try.ntmps41 rfl ?_
  refine VC.sub (τ := [(0, _)]) ⟨rfl, trivial⟩ ?_
  refine VC_seq ?_
  refine VC_region ?_
  refine VL_val rfl rfl rfl (yd_assign rfl) ?_
  refine VL_nil ?_
  refine VE_then ?_
  refine VC_seq ?_
  refine VC_seq ?_
  refine VC_region ?_
  refine VL_val rfl rfl rfl (yd_move rfl) ?_
  refine VL_val rfl rfl rfl (yd_len rfl Try.underlying22) ?_
  refine VL_val rfl rfl rfl (yd_move rfl) ?_
  refine VL_nil ?_
  refine VE_then ?_
  refine VC_block ?_
  refine VC_loop1 [0, 7, 8] [_, _, _] rfl (fun x => [(9, .int .i64 ((x : Nat) : Int))]) (fun x w => x ≤ G.length ∧ (∀ a, a < x → ∀ y, Ed G a y → ¬ Rch G (-1) y a) ∧ St w0 M0 [] w) (fun x => G.length - x) 0 ⟨rfl, trivial⟩ (⟨Nat.zero_le _, fun a h => absurd h (Nat.not_lt_zero _), hS⟩) ?_
  clear hS; rintro x w ⟨hx, hno, hS⟩
  refine VC_seq ?_
  refine VC_region ?_
  refine VL_val rfl rfl rfl (yd_lss rfl rfl) ?_
  refine VL_nil ?_
  refine VE_then ?_
  refine VC_seq ?_
  refine VC_cond rfl (fun h10 => ?_) (fun h10 => ?_)
  · replace h10 := of_decide_eq_true h10
    refine VC_skip ?_
    refine VE_then ?_
    refine VC_seq ?_
    refine VC_block ?_
    refine VC_seq ?_
    refine VC_region ?_
    obtain ⟨ra, rc, rb, ro, hc, hra, hcs⟩ := hrow x (by omega)
    have hr4 := hg.row x (by omega)
    refine VL_val rfl rfl rfl (yd_move rfl) ?_
    refine VL_val rfl rfl rfl (yd_index1 rfl rfl Try.underlying22 T.sz29 (by omega)) ?_
    refine VL_val rfl rfl rfl (yd_load rfl T.one29 (hS.cell0 hc)) ?_
    refine VL_val rfl rfl rfl (yd_assign rfl) ?_
    refine VL_val rfl rfl rfl (yd_assign rfl) ?_
    refine VL_nil ?_
    refine VE_then ?_
    refine VC_seq ?_
    refine VC_region ?_
    refine VL_val rfl rfl rfl (yd_move rfl) ?_
    refine VL_val rfl rfl rfl (yd_len rfl Try.underlying29) ?_
    refine VL_val rfl rfl rfl (yd_move rfl) ?_
    refine VL_nil ?_
    refine VE_then ?_
    refine VC_block ?_
    refine VC_loop1 [0, 3, 4, 7, 8, 9, 10, 11, 12, 13, 14, 15] [_, _, _, _, _, _, _, _, _, _, _, _] rfl (fun j => [(16, .int .i64 ((j : Nat) : Int))]) (fun j w => j ≤ G[x]!.length ∧ (∀ i, i < j → ¬ Rch G (-1) G[x]![i]! x) ∧ St w0 M0 [] w) (fun j => G[x]!.length - j) 0 ⟨rfl, trivial⟩ (⟨Nat.zero_le _, fun a h => absurd h (Nat.not_lt_zero _), hS⟩) ?_
    clear hS; rintro j w ⟨hj, hnoj, hS⟩
    refine VC_seq ?_
    refine VC_region ?_
    refine VL_val rfl rfl rfl (yd_lss rfl rfl) ?_
    refine VL_nil ?_
    refine VE_then ?_
    refine VC_seq ?_
    refine VC_cond rfl (fun h17 => ?_) (fun h17 => ?_)
    · replace h17 := of_decide_eq_true h17
      refine VC_skip ?_
      refine VE_then ?_
      refine VC_seq ?_
      refine VC_block ?_
      refine VC_seq ?_
      refine VC_region ?_
      obtain rfl := hra (by omega)
      have hlt := hg.lt x (by omega) j (by omega)
      refine VL_val rfl rfl rfl (yd_index1 rfl rfl Try.underlying29 T.sz3 (by omega)) ?_
      refine VL_val rfl rfl rfl (yd_load rfl T.one3 (hS.cell0 (hcs j (by omega)))) ?_
      refine VL_val rfl rfl rfl (yd_assign rfl) ?_
      refine VL_nil ?_
      refine VE_then ?_
      refine VC_seq ?_
      refine VC_region ?_
      refine VL_val rfl rfl rfl (yd_move rfl) ?_
      refine VL_val rfl rfl rfl (yd_move rfl) ?_
      refine VL_call rfl rfl rfl rfl T.call15 rfl (reach_ok (hS.graph hG0) hg hlt) ?_
      rintro _ w ⟨b22, R, rfl, hR, hIR⟩
      have hS := hS.call0 hR
      refine VL_val rfl rfl rfl (yd_move rfl) ?_
      refine VL_val rfl rfl rfl (yd_index0 rfl rfl Try.underlying25 T.sz4 (by omega)) ?_
      refine VL_val rfl rfl rfl (yd_load rfl T.one4 (blk_cellM (hS.get 0 rfl) (by rw [hIR.1]; omega))) ?_
      refine VL_nil ?_
      refine VE_then ?_
      refine VC_cond rfl (fun h25 => ?_) (fun h25 => ?_)
      · skip
        have hS := hS.sub (List.nil_sublist _)
        have hr := ((hIR.2 x (by omega)).1 h25).2
        refine VC_seq ?_
        refine VC_region ?_
        refine VL_val rfl rfl rfl (yd_assign rfl) ?_
        refine VL_nil ?_
        refine VE_then ?_
        refine VC_ret ?_
        refine VE_block_ret (VE_then_ret (VE_then_ret (VE_block_ret (VE_block_ret (VE_then_ret (VE_then_ret (VE_block_ret (VE_then_ret (?_)))))))))
        refine VE_ret1 (rfl) rfl ?_
        exact ⟨_, rfl, hS, fun _ => ⟨x, _, Ed.get (by omega) (by omega), hr⟩, fun _ => rfl⟩
      · skip
        have hS := hS.sub (List.nil_sublist _)
        have hr : ¬ Rch G (-1) G[x]![j]! x := fun h => by have := (hIR.2 x (by omega)).2 ⟨by omega, h⟩; rw [h25] at this; cases this
        refine VC_skip ?_
        refine VE_block_normal ?_
        refine VE_then ?_
        refine VC_region ?_
        refine VL_val rfl rfl rfl (yd_add rfl rfl ((j + 1 : Nat) : Int) (by rw [wi64 (by omega) (by omega)]; omega)) ?_
        refine VL_val rfl rfl rfl (yd_move rfl) ?_
        refine VL_nil ?_
        exact VE_round1 (j + 1) ⟨rfl, rfl, rfl, rfl, rfl, rfl, rfl, rfl, rfl, rfl, rfl, rfl, rfl, trivial⟩ ⟨by omega, all_succ hnoj hr, hS⟩ (by omega)
    · replace h17 := Int.not_lt.1 (of_decide_eq_false h17)
      refine VC_exit ?_
      refine VE_then_exit (VE_then_exit (VE_block_exit ?_))
      refine VE_block_normal ?_
      refine VE_then ?_
      refine VC_region ?_
      refine VL_val rfl rfl rfl (yd_add rfl rfl ((x + 1 : Nat) : Int) (by rw [wi64 (by omega) (by omega)]; omega)) ?_
      refine VL_val rfl rfl rfl (yd_move rfl) ?_
      refine VL_nil ?_
      exact VE_round1 (x + 1) ⟨rfl, rfl, rfl, rfl, trivial⟩ ⟨by omega, all_succ hno (fun y he => by obtain ⟨i, hi, rfl⟩ := he.idx; exact hnoj i (by omega)), hS⟩ (by omega)
  · replace h10 := Int.not_lt.1 (of_decide_eq_false h10)
    refine VC_exit ?_
    refine VE_then_exit (VE_then_exit (VE_block_exit ?_))
    refine VE_then ?_
    refine VC_seq ?_
    refine VC_region ?_
    refine VL_val rfl rfl rfl (yd_assign rfl) ?_
    refine VL_nil ?_
    refine VE_then ?_
    refine VC_ret ?_
    refine VE_ret1 (rfl) rfl ?_
    exact ⟨_, rfl, hS, fun h => (nomatch h), fun ⟨a, y, he, hr⟩ => (hno a (by have := he.1; omega) y he hr).elim⟩

theorem same_ok {w0 : World} {va vb : Value} {la lb : List Int} (hA : IntsAt w0 va la) (hB : IntsAt w0 vb lb) (hl : la.length ≤ 1000) : Calls Try.prog 21 #[va, vb] w0 (Ret fun u w' => u = .bool (decide (la = lb)) ∧ St w0 M0 [] w') := by
  obtain ⟨aa, ac, ab, ao, rfl, haa, hca⟩ := hA
  obtain ⟨ba, bc, bb, bo, rfl, hba, hcb⟩ := hB
  have hS := St.refl w0
  refine V_enter (N := 26) Try.func21 rfl Try.ntmps21 rfl ?_
  refine VC.sub (τ := [(0, _), (1, _)]) ⟨rfl, rfl, trivial⟩ ?_
  refine VC_seq ?_
  refine VC_region ?_
  refine VL_val rfl rfl rfl (yd_assign rfl) ?_
  refine VL_nil ?_
  refine VE_then ?_
  refine VC_seq ?_
  refine VC_seq ?_
  refine VC_region ?_
  refine VL_val rfl rfl rfl (yd_move rfl) ?_
  refine VL_val rfl rfl rfl (yd_len rfl Try.underlying29) ?_
  refine VL_val rfl rfl rfl (yd_move rfl) ?_
  refine VL_val rfl rfl rfl (yd_len rfl Try.underlying29) ?_
  refine VL_val rfl rfl rfl (yd_neq rfl rfl) ?_
  refine VL_nil ?_
  refine VE_then ?_
  refine VC_cond rfl (fun h10 => ?_) (fun h10 => ?_)
  · replace h10 := of_decide_eq_true h10
    refine VC_seq ?_
    refine VC_region ?_
    refine VL_val rfl rfl rfl (yd_assign rfl) ?_
    refine VL_nil ?_
    refine VE_then ?_
    refine VC_ret ?_
    refine VE_then_ret (?_)
    refine VE_ret1 (rfl) rfl ?_
    refine ⟨?_, hS⟩
    rw [decide_eq_false]
    rintro rfl
    exact h10 rfl
  · replace h10 := Decidable.not_not.1 (of_decide_eq_false h10)
    refine VC_skip ?_
    refine VE_then ?_
    refine VC_seq ?_
    refine VC_seq ?_
    refine VC_region ?_
    refine VL_val rfl rfl rfl (yd_move rfl) ?_
    refine VL_val rfl rfl rfl (yd_len rfl Try.underlying29) ?_
    refine VL_val rfl rfl rfl (yd_move rfl) ?_
    refine VL_nil ?_
    refine VE_then ?_
    refine VC_block ?_
    refine VC_loop1 [0, 1, 12] [_, _, _] rfl (fun k => [(13, .int .i64 ((k : Nat) : Int))]) (fun k w => k ≤ la.length ∧ (∀ i, i < k → la[i]! = lb[i]!) ∧ St w0 M0 [] w) (fun k => la.length - k) 0 ⟨rfl, trivial⟩ (⟨Nat.zero_le _, fun a h => absurd h (Nat.not_lt_zero _), hS⟩) ?_
    clear hS; rintro k w ⟨hk, hsame, hS⟩
    refine VC_seq ?_
    refine VC_region ?_
    refine VL_val rfl rfl rfl (yd_lss rfl rfl) ?_
    refine VL_nil ?_
    refine VE_then ?_
    refine VC_seq ?_
    refine VC_cond rfl (fun h14 => ?_) (fun h14 => ?_)
    · replace h14 := of_decide_eq_true h14
      refine VC_skip ?_
      refine VE_then ?_
      refine VC_seq ?_
      refine VC_block ?_
      refine VC_seq ?_
      refine VC_region ?_
      refine VL_val rfl rfl rfl (yd_move rfl) ?_
      refine VL_val rfl rfl rfl (yd_assign rfl) ?_
      refine VL_nil ?_
      refine VE_then ?_
      refine VC_seq ?_
      obtain rfl := haa (by omega)
      obtain rfl := hba (by omega)
      refine VC_draw T.mixed hS ?_
      clear hS; intro w hS
      refine VA_take (i := 0) rfl rfl rfl rfl (by kernel_rfl) (by kernel_rfl) (by kernel_rfl) #[true, false, false, false, false, false, false, false, false] (by kernel_rfl) (fun _ _ _ _ h => h) (fun w hS => yd_move rfl) ?_
      refine VA_take (i := 1) rfl rfl rfl rfl (by kernel_rfl) (by kernel_rfl) (by kernel_rfl) #[true, true, false, false, false, false, false, false, false] (by kernel_rfl) (fun _ _ _ _ h => h) (fun w hS => yd_move rfl) ?_
      refine VA_take (i := 2) rfl rfl rfl rfl (by kernel_rfl) (by kernel_rfl) (by kernel_rfl) #[true, true, true, false, false, false, false, false, false] (by kernel_rfl) (fun _ _ _ _ h => h) (fun w hS => yd_index1 rfl rfl Try.underlying29 T.sz3 (by omega)) ?_
      refine VA_take (i := 3) rfl rfl rfl rfl (by kernel_rfl) (by kernel_rfl) (by kernel_rfl) #[true, true, true, true, false, false, false, false, false] (by kernel_rfl) (fun _ _ _ _ h => h) (fun w hS => yd_load rfl T.one3 (hS.cell0 (hca k (by omega)))) ?_
      refine VA_take (i := 4) rfl rfl rfl rfl (by kernel_rfl) (by kernel_rfl) (by kernel_rfl) #[true, true, true, true, true, false, false, false, false] (by kernel_rfl) (fun _ _ _ _ h => h) (fun w hS => yd_move rfl) ?_
      refine VA_take (i := 5) rfl rfl rfl rfl (by kernel_rfl) (by kernel_rfl) (by kernel_rfl) #[true, true, true, true, true, true, false, false, false] (by kernel_rfl) (fun _ _ _ _ h => h) (fun w hS => yd_move rfl) ?_
      refine VA_take (i := 6) rfl rfl rfl rfl (by kernel_rfl) (by kernel_rfl) (by kernel_rfl) #[true, true, true, true, true, true, true, false, false] (by kernel_rfl) (fun _ _ _ _ h => h) (fun w hS => yd_index1 rfl rfl Try.underlying29 T.sz3 (by omega)) ?_
      refine VA_take (i := 7) rfl rfl rfl rfl (by kernel_rfl) (by kernel_rfl) (by kernel_rfl) #[true, true, true, true, true, true, true, true, false] (by kernel_rfl) (fun _ _ _ _ h => h) (fun w hS => yd_load rfl T.one3 (hS.cell0 (hcb k (by omega)))) ?_
      refine VA_take (i := 8) rfl rfl rfl rfl (by kernel_rfl) (by kernel_rfl) (by kernel_rfl) #[true, true, true, true, true, true, true, true, true] (by kernel_rfl) (fun _ _ _ _ h => h) (fun w hS => yd_neq rfl rfl) ?_
      refine VA_done (by kernel_rfl) hS ?_
      refine VE_then ?_
      refine VC_cond rfl (fun h24 => ?_) (fun h24 => ?_)
      · replace h24 := of_decide_eq_true h24
        refine VC_seq ?_
        refine VC_region ?_
        refine VL_val rfl rfl rfl (yd_assign rfl) ?_
        refine VL_nil ?_
        refine VE_then ?_
        refine VC_ret ?_
        refine VE_block_ret (VE_then_ret (VE_then_ret (VE_block_ret (VE_then_ret (?_)))))
        refine VE_ret1 (rfl) rfl ?_
        refine ⟨?_, hS⟩
        rw [decide_eq_false]
        rintro rfl
        exact h24 rfl
      · replace h24 := Decidable.not_not.1 (of_decide_eq_false h24)
        refine VC_skip ?_
        refine VE_block_normal ?_
        refine VE_then ?_
        refine VC_region ?_
        refine VL_val rfl rfl rfl (yd_add rfl rfl ((k + 1 : Nat) : Int) (by rw [wi64 (by omega) (by omega)]; omega)) ?_
        refine VL_val rfl rfl rfl (yd_move rfl) ?_
        refine VL_nil ?_
        exact VE_round1 (k + 1) ⟨rfl, rfl, rfl, rfl, trivial⟩ ⟨by omega, all_succ hsame h24, hS⟩ (by omega)
    · replace h14 := Int.not_lt.1 (of_decide_eq_false h14)
      refine VC_exit ?_
      refine VE_then_exit (VE_then_exit (VE_block_exit ?_))
      refine VE_then ?_
      refine VC_seq ?_
      refine VC_region ?_
      refine VL_val rfl rfl rfl (yd_assign rfl) ?_
      refine VL_nil ?_
      refine VE_then ?_
      refine VC_ret ?_
      refine VE_ret1 (rfl) rfl ?_
      refine ⟨?_, hS⟩
      rw [decide_eq_true]
      have hll : la.length = lb.length := by omega
      refine List.ext_getElem hll fun i h1 h2 => ?_
      have := hsame i (by omega)
      rwa [getElem!_pos la i h1, getElem!_pos lb i h2] at this

theorem places_ok {w0 : World} {v : Value} {l : List Nat} {n : Nat} (hl : IntsAt w0 v (l.map (fun k : Nat => (k : Int)))) (hn : n ≤ 1000) (hll : l.length ≤ 1000) (hlt : ∀ i, i < l.length → l[i]! < n) (hnd : ∀ i j, i < j → j < l.length → l[i]! ≠ l[j]!) : Calls Try.prog 17 #[v, .int .i64 (n : Int)] w0 (Ret fun u w' => ∃ b A, u = .tuple #[.slice (some ⟨b, 0, none⟩) n n, .bool true] ∧ St w0 M0 [blk b 3 (A.map (Value.int .i64))] w' ∧ IsPlaces l n A) := by
  obtain ⟨la, lc, lb, lo, rfl, hla, hcl⟩ := hl
  simp only [List.length_map] at hla hcl
  have hcl : ∀ j, j < l.length → w0.cell? ⟨lb, lo + j, none⟩ = some (.int .i64 ((l[j]! : Nat) : Int)) := fun j hj => by rw [hcl j hj]; simp [hj]
  have hS := St.refl w0
  refine V_enter (N := 49) Try.func17 rfl Try.ntmps17 rfl ?_
  refine VC.sub (τ := [(0, _), (1, _)]) ⟨rfl, rfl, trivial⟩ ?_
  refine VC_seq ?_
  refine VC_region ?_
  refine VL_val rfl rfl rfl (yd_assign rfl) ?_
  refine VL_val rfl rfl rfl (yd_assign rfl) ?_
  refine VL_nil ?_
  refine VE_then ?_
  refine VC_seq ?_
  refine VC_region ?_
  refine VL_val rfl rfl rfl (yd_move rfl) ?_
  refine VL_makeM (Value.int .i64) 0 rfl rfl rfl rfl rfl rfl Try.underlying29 T.e3 rfl rfl (by omega) (by omega) (by omega) hS ?_
  clear hS; intro b11 w hS
  refine VL_val rfl rfl rfl (yd_assign rfl) ?_
  refine VL_nil ?_
  refine VE_then ?_
  refine VC_seq ?_
  refine VC_seq ?_
  refine VC_region ?_
  refine VL_val rfl rfl rfl (yd_move rfl) ?_
  refine VL_val rfl rfl rfl (yd_len rfl Try.underlying29) ?_
  refine VL_val rfl rfl rfl (yd_move rfl) ?_
  refine VL_nil ?_
  refine VE_then ?_
  refine VC_block ?_
  refine VC_loop2 [0, 1, 4, 5, 6, 13] [_, _, _, _, _, _] rfl (fun (k : Nat) (A : List Int) => [(14, .int .i64 ((k : Nat) : Int))]) (fun (k : Nat) (A : List Int) w => k ≤ n ∧ A.length = n ∧ (∀ i, i < k → A[i]! = (-1 : Int)) ∧ St w0 M0 [blk b11 3 (A.map (Value.int .i64))] w) (fun (k : Nat) (A : List Int) => n - k) 0 _ ⟨rfl, trivial⟩ (⟨Nat.zero_le _, by simp, fun a h => absurd h (Nat.not_lt_zero _), hS⟩) ?_
  clear hS; rintro k A w ⟨hk, hAl, hA, hS⟩
  refine VC_seq ?_
  refine VC_region ?_
  refine VL_val rfl rfl rfl (yd_lss rfl rfl) ?_
  refine VL_nil ?_
  refine VE_then ?_
  refine VC_seq ?_
  refine VC_cond rfl (fun h15 => ?_) (fun h15 => ?_)
  · replace h15 := of_decide_eq_true h15
    refine VC_skip ?_
    refine VE_then ?_
    refine VC_seq ?_
    refine VC_block ?_
    refine VC_seq ?_
    refine VC_region ?_
    refine VL_val rfl rfl rfl (yd_move rfl) ?_
    refine VL_val rfl rfl rfl (yd_assign rfl) ?_
    refine VL_nil ?_
    refine VE_then ?_
    refine VC_region ?_
    refine VL_val rfl rfl rfl (yd_move rfl) ?_
    refine VL_val rfl rfl rfl (yd_move rfl) ?_
    refine VL_val rfl rfl rfl (yd_index0 rfl rfl Try.underlying29 T.sz3 (by omega)) ?_
    refine VL_storeM rfl rfl rfl rfl rfl T.one3 rfl hS 0 rfl (by omega) rfl ?_
    clear hS; intro w hS
    refine VL_nil ?_
    refine VE_block_normal ?_
    refine VE_then ?_
    refine VC_region ?_
    refine VL_val rfl rfl rfl (yd_add rfl rfl ((k + 1 : Nat) : Int) (by rw [wi64 (by omega) (by omega)]; omega)) ?_
    refine VL_val rfl rfl rfl (yd_move rfl) ?_
    refine VL_nil ?_
    exact VE_round2 (k + 1) _ ⟨rfl, rfl, rfl, rfl, rfl, rfl, rfl, trivial⟩ ⟨by omega, by simp [hAl], fun i hi => by rw [get!_set _ _ _ _ (by omega)]; split; rfl; exact hA i (by omega), hS⟩ (by omega)
  · replace h15 := Int.not_lt.1 (of_decide_eq_false h15)
    refine VC_exit ?_
    refine VE_then_exit (VE_then_exit (VE_block_exit ?_))
    refine VE_then ?_
    refine VC_seq ?_
    refine VC_seq ?_
    refine VC_region ?_
    simp only [List.length_map]
    refine VL_val rfl rfl rfl (yd_move rfl) ?_
    refine VL_val rfl rfl rfl (yd_len rfl Try.underlying29) ?_
    refine VL_val rfl rfl rfl (yd_move rfl) ?_
    refine VL_nil ?_
    refine VE_then ?_
    refine VC_block ?_
    refine VC_loop2 [1, 6, 21, 22] [_, _, _, _] rfl (fun (k : Nat) (A : List Int) => [(23, .int .i64 ((k : Nat) : Int))]) (fun (k : Nat) (A : List Int) w => k ≤ l.length ∧ A.length = n ∧ (∀ x, x < n → (A[x]! = -1 ∧ ∀ i, i < k → l[i]! ≠ x) ∨ ∃ i, i < k ∧ l[i]! = x ∧ A[x]! = (i : Int)) ∧ St w0 M0 [blk b11 3 (A.map (Value.int .i64))] w) (fun (k : Nat) (A : List Int) => l.length - k) 0 A ⟨rfl, trivial⟩ (⟨Nat.zero_le _, hAl, fun x hx => .inl ⟨hA x (by omega), fun i h => absurd h (Nat.not_lt_zero _)⟩, hS⟩) ?_
    clear hS hA hAl; rintro k A w ⟨hk, hAl, hA, hS⟩
    refine VC_seq ?_
    refine VC_region ?_
    refine VL_val rfl rfl rfl (yd_lss rfl rfl) ?_
    refine VL_nil ?_
    refine VE_then ?_
    refine VC_seq ?_
    refine VC_cond rfl (fun h24 => ?_) (fun h24 => ?_)
    · replace h24 := of_decide_eq_true h24
      refine VC_skip ?_
      refine VE_then ?_
      refine VC_seq ?_
      refine VC_block ?_
      refine VC_seq ?_
      refine VC_region ?_
      obtain rfl := hla (by omega)
      have hltk := hlt k (by omega)
      refine VL_val rfl rfl rfl (yd_move rfl) ?_
      refine VL_val rfl rfl rfl (yd_index1 rfl rfl Try.underlying29 T.sz3 (by omega)) ?_
      refine VL_val rfl rfl rfl (yd_load rfl T.one3 (hS.cell0 (hcl k (by omega)))) ?_
      refine VL_val rfl rfl rfl (yd_assign rfl) ?_
      refine VL_val rfl rfl rfl (yd_assign rfl) ?_
      refine VL_nil ?_
      refine VE_then ?_
      refine VC_seq ?_
      refine VC_seq ?_
      refine VC_region ?_
      refine VL_val rfl rfl rfl (yd_move rfl) ?_
      refine VL_val rfl rfl rfl (yd_lss rfl rfl) ?_
      refine VL_val rfl rfl rfl (yd_move rfl) ?_
      refine VL_split 30 rfl (fun h30 => ?_) (fun h30 => ?_)
      · replace h30 := of_decide_eq_true h30
        exact absurd h30 (by omega)
      · replace h30 := Int.not_lt.1 (of_decide_eq_false h30)
        refine VL_yes rfl rfl rfl rfl ?_
        refine VL_val rfl rfl rfl (yd_move rfl) ?_
        refine VL_yes rfl rfl rfl rfl ?_
        refine VL_val rfl rfl rfl (yd_move rfl) ?_
        refine VL_yes rfl rfl rfl rfl ?_
        refine VL_val rfl rfl rfl (yd_geq rfl rfl) ?_
        refine VL_val rfl rfl rfl (yd_pick_f rfl rfl) ?_
        refine VL_val rfl rfl rfl (yd_move rfl) ?_
        refine VL_split 35 rfl (fun h35 => ?_) (fun h35 => ?_)
        · replace h35 := of_decide_eq_true h35
          exact absurd h35 (by omega)
        · replace h35 := Int.not_le.1 (of_decide_eq_false h35)
          refine VL_yes rfl rfl rfl rfl ?_
          refine VL_val rfl rfl rfl (yd_move rfl) ?_
          refine VL_yes rfl rfl rfl rfl ?_
          refine VL_val rfl rfl rfl (yd_move rfl) ?_
          refine VL_yes rfl rfl rfl rfl ?_
          refine VL_val rfl rfl rfl (yd_index0 rfl rfl Try.underlying29 T.sz3 (by omega)) ?_
          refine VL_yes rfl rfl rfl rfl ?_
          refine VL_val rfl rfl rfl (yd_load rfl T.one3 (blk_cellM (hS.get 0 rfl) (by omega))) ?_
          refine VL_yes rfl rfl rfl rfl ?_
          refine VL_val rfl rfl rfl (yd_geq rfl rfl) ?_
          refine VL_val rfl rfl rfl (yd_pick_f rfl rfl) ?_
          refine VL_nil ?_
          refine VE_then ?_
          refine VC_cond rfl (fun h41 => ?_) (fun h41 => ?_)
          · replace h41 := of_decide_eq_true h41
            exfalso
            rcases hA _ hltk with ⟨h1, _⟩ | ⟨i, h1, h2, _⟩
            · omega
            · exact hnd i k h1 (by omega) h2
          · replace h41 := Int.not_le.1 (of_decide_eq_false h41)
            refine VC_skip ?_
            refine VE_then ?_
            refine VC_region ?_
            refine VL_val rfl rfl rfl (yd_move rfl) ?_
            refine VL_val rfl rfl rfl (yd_move rfl) ?_
            refine VL_val rfl rfl rfl (yd_move rfl) ?_
            refine VL_val rfl rfl rfl (yd_index0 rfl rfl Try.underlying29 T.sz3 (by omega)) ?_
            refine VL_storeM rfl rfl rfl rfl rfl T.one3 rfl hS 0 rfl (by omega) rfl ?_
            clear hS; intro w hS
            refine VL_nil ?_
            refine VE_block_normal ?_
            refine VE_then ?_
            refine VC_region ?_
            refine VL_val rfl rfl rfl (yd_add rfl rfl ((k + 1 : Nat) : Int) (by rw [wi64 (by omega) (by omega)]; omega)) ?_
            refine VL_val rfl rfl rfl (yd_move rfl) ?_
            refine VL_nil ?_
            refine VE_round2 (k + 1) _ ⟨rfl, rfl, rfl, rfl, rfl, trivial⟩ ⟨by omega, by simp [hAl], fun x hx => ?_, hS⟩ (by omega)
            rw [get!_set _ _ _ _ (by omega)]
            split
            · rename_i e; exact .inr ⟨k, by omega, e, rfl⟩
            · rename_i e
              rcases hA x hx with ⟨h1, h2⟩ | ⟨i, h1, h2, h3⟩
              · exact .inl ⟨h1, all_succ h2 e⟩
              · exact .inr ⟨i, by omega, h2, h3⟩
    · replace h24 := Int.not_lt.1 (of_decide_eq_false h24)
      refine VC_exit ?_
      refine VE_then_exit (VE_then_exit (VE_block_exit ?_))
      refine VE_then ?_
      refine VC_seq ?_
      refine VC_region ?_
      refine VL_val rfl rfl rfl (yd_move rfl) ?_
      refine VL_val rfl rfl rfl (yd_assign rfl) ?_
      refine VL_val rfl rfl rfl (yd_assign rfl) ?_
      refine VL_nil ?_
      refine VE_then ?_
      refine VC_ret ?_
      refine VE_ret2 (rfl) rfl rfl ?_
      refine ⟨_, A, rfl, hS, hAl, fun x hx => ?_⟩
      rcases hA x hx with ⟨h1, h2⟩ | ⟨i, h1, h2, h3⟩
      · refine .inl ⟨h1, fun hm => ?_⟩
        obtain ⟨i, hi, rfl⟩ := List.mem_iff_getElem.1 hm
        exact h2 i (by omega) (getElem!_pos l i hi)
      · exact .inr ⟨i, by omega, h2, h3⟩

end Go.Proofs.Ytmoooaaiohplhac
