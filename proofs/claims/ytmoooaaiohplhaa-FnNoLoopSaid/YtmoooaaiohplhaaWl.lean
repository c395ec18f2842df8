/- spec.Block, Copy, WithWay; the law on a way that is there twice. -/
import Derived.Test.YtmoooaaiohplhaaWk
namespace Go.Proofs.Ytmoooaaiohplhaa
open Go Go.V
set_option linter.unusedVariables false
set_option maxRecDepth 100000

theorem T.e24 : ElemT Try.prog 24 1 24 (.slice none 0 0) := ElemT.of (by kernel_rfl)
theorem T.call35 : CallT Try.prog 35 := CallT.of Try.func35 (by kernel_rfl) (by kernel_rfl)
theorem T.call36 : CallT Try.prog 36 := CallT.of Try.func36 (by kernel_rfl) (by kernel_rfl)
theorem T.call48 : CallT Try.prog 48 := CallT.of Try.func48 (by kernel_rfl) (by kernel_rfl)

open Go.PL
/-- The rows of a graph of our own. -/
def gRow (rv : Nat → Value) (S : Nat → List Nat) (i : Nat) : Res := row (rv i) 3 1 (S i).length ((zL (S i)).map (Value.int .i64))
def gRows (n : Nat) (rv : Nat → Value) (S : Nat → List Nat) : List Res := (List.range n).map (gRow rv S)
theorem gRows_len (n : Nat) (rv : Nat → Value) (S : Nat → List Nat) : (gRows n rv S).length = n := by simp [gRows]
theorem gRows_get {n : Nat} {rv : Nat → Value} {S : Nat → List Nat} {x : Nat} (hx : x < n) (T : List Res) : (gRows n rv S ++ T)[x]? = some (gRow rv S x) := by
  rw [List.getElem?_append_left (by rw [gRows_len]; exact hx)]; simp [gRows, hx]
theorem gRows_behind {n : Nat} {rv : Nat → Value} {S : Nat → List Nat} (T : List Res) (j : Nat) : (gRows n rv S ++ T)[n + j]? = T[j]? := by
  rw [List.getElem?_append_right (by rw [gRows_len]; omega), gRows_len]; congr 1; omega
theorem gRows_snoc {k : Nat} {rv : Nat → Value} {S : Nat → List Nat} {v : Value} {r : Res} (hr : r = row v 3 1 (S k).length ((zL (S k)).map (Value.int .i64))) : gRows k rv S ++ [r] = gRows (k + 1) (upd rv k v) S := by
  unfold gRows
  rw [List.range_succ, List.map_append, hr]
  congr 1
  · apply List.map_congr_left; intro i hi; unfold gRow; rw [upd_ne _ _ (by simp at hi; omega)]
  · simp [gRow, upd_same]
theorem rv_snoc {k : Nat} {rv : Nat → Value} {v : Value} : (List.range (k + 1)).map (upd rv k v) = (List.range k).map rv ++ [v] := by
  rw [List.range_succ, List.map_append]
  congr 1
  · apply List.map_congr_left; intro i hi; rw [upd_ne _ _ (by simp at hi; omega)]
  · simp [upd_same]
theorem gRows_set {n : Nat} {rv : Nat → Value} {S : Nat → List Nat} {x : Nat} (hx : x < n) {v : Value} {l : List Nat} (T : List Res) : (gRows n rv S ++ T).set x (row v 3 1 l.length ((zL l).map (Value.int .i64))) = gRows n (upd rv x v) (upd S x l) ++ T := by
  rw [List.set_append_left _ _ (by rw [gRows_len]; exact hx)]
  unfold gRows
  rw [map_range_set]
  congr 2
  funext i
  unfold upd gRow
  by_cases h : i = x
  · subst h; simp
  · simp [h]
theorem zl_news {w : World} {S : List Nat} {b o : Nat} (h : ∀ j, j < S.length → w.cell? ⟨b, o + j, none⟩ = some (.int .i64 ((S[j]! : Nat) : Int))) : ∀ q u, ((zL S).map (Value.int .i64))[q]? = some u → w.cell? ⟨b, o + q, none⟩ = some u := by
  intro q u hq
  obtain ⟨h1, h2⟩ := List.getElem?_eq_some_iff.1 hq
  have hq' : q < S.length := by simpa [zL] using h1
  rw [h q hq', ← h2]; simp [zL, hq']
theorem zl_one {S : List Nat} : ∀ u ∈ (zL S).map (Value.int .i64), u.oneCell' = true := by
  intro u hu; obtain ⟨_, _, rfl⟩ := List.mem_map.1 hu; rfl
theorem unbundle {w0 w : World} {M : Nat → Prop} {L η : List Res} (hS : St w0 M (bundle L :: η) w) : St w0 M (L ++ η) w := by
  have hb := hS.get 0 rfl
  have hp := List.pairwise_cons.1 hS.disj
  refine ⟨hS.os, hS.tape, hS.output, hS.size, hS.old, ?_, ?_, ?_⟩
  · intro r hr
    rcases List.mem_append.1 hr with hr | hr
    · exact hb.1 r hr
    · exact hS.res r (by simp [hr])
  · intro r hr b hrb
    rcases List.mem_append.1 hr with hr | hr
    · exact hS.own (bundle L) (by simp) b ⟨r, hr, hrb⟩
    · exact hS.own r (by simp [hr]) b hrb
  · rw [List.pairwise_append]
    exact ⟨hb.2, hp.2, fun r hr s hs b hrb hsb => hp.1 s hs b ⟨r, hr, hrb⟩ hsb⟩
theorem graph_of_g {w : World} {n b c : Nat} {rv : Nat → Value} {S : Nat → List Nat} {H : Graph} {t : TypeId} (hl : H.length = n) (hH : ∀ i, i < n → H[i]! = S i) (h1 : ∀ i, i < n → (gRow rv S i).holds w) (h2 : (row (.slice (some ⟨b, 0, none⟩) n c) t 1 n ((List.range n).map rv)).holds w) : GraphAt w (.slice (some ⟨b, 0, none⟩) n c) H := by
  subst hl
  refine ⟨_, _, b, 0, rfl, fun _ => rfl, fun i hi => ?_⟩
  have hc := row_cell h2 (j := i) (u := rv i) (by simp [hi])
  rw [Nat.zero_add, hH i hi]
  have hg := h1 i hi
  rcases hg.2 with ⟨e, h3⟩ | ⟨g, cap, cur, e, _⟩
  · exact ⟨none, 0, 0, 0, by rw [hc, e, h3], fun h => by omega, fun j hj => by omega⟩
  · refine ⟨_, cap, g, 0, by rw [hc, e], fun _ => rfl, fun j hj => ?_⟩
    unfold gRow at hg
    rw [e] at hg
    rw [Nat.zero_add]; exact zl_cell hg hj
/-- One way more, that was there. -/
theorem ed_twice {G : Graph} {x y : Nat} (e : Ed G x y) : ∀ a b, Ed G a b ↔ Ed (G.set x (G[x]! ++ [y])) a b := by
  intro a b
  have hx := e.1
  unfold Ed
  rw [List.length_set]
  constructor
  · rintro ⟨h1, h2⟩
    refine ⟨h1, ?_⟩
    rw [get!_set _ _ _ _ hx]
    split
    · rename_i h; subst h; exact List.mem_append_left _ h2
    · exact h2
  · rintro ⟨h1, h2⟩
    refine ⟨h1, ?_⟩
    rw [get!_set _ _ _ _ hx] at h2
    split at h2
    · rename_i h; subst h
      rcases List.mem_append.1 h2 with h2 | h2
      · exact h2
      · rw [List.mem_singleton.1 h2]; exact e.2
    · exact h2
theorem gd_more {G : Graph} (hg : Gd G) {x y : Nat} (hx : x < G.length) (hy : y < G.length) (hr : G[x]!.length < 4) : Gd (G.set x (G[x]! ++ [y])) := by
  refine ⟨by rw [List.length_set]; exact hg.pos, by rw [List.length_set]; exact hg.le, fun i hi => ?_, fun i hi j hj => ?_⟩
  · rw [List.length_set] at hi
    rw [get!_set _ _ _ _ hx]
    split
    · rw [List.length_append, List.length_singleton]; omega
    · exact hg.row i hi
  · rw [List.length_set] at hi ⊢
    rw [get!_set _ _ _ _ hx] at hj ⊢
    split
    · rename_i h; subst h
      rw [if_pos rfl] at hj
      by_cases h1 : j < G[x]!.length
      · rw [get!_append_left h1]; exact hg.lt x hx j h1
      · have : j = G[x]!.length := by rw [List.length_append, List.length_singleton] at hj; omega
        rw [this, get!_append_len]; exact hy
    · rename_i h; rw [if_neg h] at hj; exact hg.lt i hi j hj

theorem block_ok {w0 : World} {v : Value} {G : Graph} (hG : GraphAt w0 v G) {x : Int} : Calls Try.prog 35 #[v, .int .i64 x] w0 (Ret fun u w' => w0 = w' ∧ ∃ b, u = .bool b ∧ (b = true ↔ 0 ≤ x ∧ x < G.length)) := by
  obtain ⟨ga, gc, gb, go, rfl, hga, hrow⟩ := hG
  refine V_enter (N := 13) Try.func35 rfl Try.ntmps35 rfl ?_
  refine VC.sub (τ := [(0, _), (1, _)]) ⟨rfl, rfl, trivial⟩ ?_
  refine VC_seq ?_
  refine VC_region ?_
  refine VL_val rfl rfl rfl (yd_assign rfl) ?_
  refine VL_nil ?_
  refine VE_then ?_
  refine VC_seq ?_
  refine VC_region ?_
  refine VL_val rfl rfl rfl (yd_move rfl) ?_
  refine VL_val rfl rfl rfl (yd_geq rfl rfl) ?_
  refine VL_val rfl rfl rfl (yd_move rfl) ?_
  refine VL_split 7 rfl (fun h7 => ?_) (fun h7 => ?_)
  · replace h7 := of_decide_eq_true h7
    refine VL_yes rfl rfl rfl rfl ?_
    refine VL_val rfl rfl rfl (yd_move rfl) ?_
    refine VL_yes rfl rfl rfl rfl ?_
    refine VL_val rfl rfl rfl (yd_move rfl) ?_
    refine VL_yes rfl rfl rfl rfl ?_
    refine VL_val rfl rfl rfl (yd_len rfl Try.underlying22) ?_
    refine VL_yes rfl rfl rfl rfl ?_
    refine VL_val rfl rfl rfl (yd_lss rfl rfl) ?_
    refine VL_val rfl rfl rfl (yd_pick_t rfl rfl) ?_
    refine VL_val rfl rfl rfl (yd_assign rfl) ?_
    refine VL_nil ?_
    refine VE_then ?_
    refine VC_ret ?_
    refine VE_ret1 (rfl) rfl ?_
    refine ⟨rfl, _, rfl, ?_⟩
    first
    | (rw [decide_eq_true_eq]; exact ⟨fun h => ⟨h7, h⟩, fun h => h.2⟩)
    | exact ⟨fun h => (by cases h), fun h => (by omega)⟩
  · replace h7 := Int.not_le.1 (of_decide_eq_false h7)
    refine VL_no rfl rfl rfl rfl rfl rfl rfl ?_
    refine VL_no rfl rfl rfl rfl rfl rfl rfl ?_
    refine VL_no rfl rfl rfl rfl rfl rfl rfl ?_
    refine VL_no rfl rfl rfl rfl rfl rfl rfl ?_
    refine VL_val rfl rfl rfl (yd_pick_f rfl rfl) ?_
    refine VL_val rfl rfl rfl (yd_assign rfl) ?_
    refine VL_nil ?_
    refine VE_then ?_
    refine VC_ret ?_
    refine VE_ret1 (rfl) rfl ?_
    refine ⟨rfl, _, rfl, ?_⟩
    first
    | (rw [decide_eq_true_eq]; exact ⟨fun h => ⟨h7, h⟩, fun h => h.2⟩)
    | exact ⟨fun h => (by cases h), fun h => (by omega)⟩

theorem copy_ok {w0 : World} {v : Value} {G : Graph} (hG : GraphAt w0 v G) (hg : Gd G) : Calls Try.prog 48 #[v] w0 (Ret fun u w' => ∃ rv, St w0 M0 [bundle (gRows G.length rv (fun i => G[i]!)), row u 24 1 G.length ((List.range G.length).map rv)] w') := by
  obtain ⟨ga, gc, gb, go, rfl, hga, hrow⟩ := hG
  have hpos := hg.pos
  obtain rfl := hga (by omega)
  have hS := St.refl w0
  have hle := hg.le
  refine V_enter (N := 21) Try.func48 rfl Try.ntmps48 rfl ?_
  refine VC.sub (τ := [(0, _)]) ⟨rfl, trivial⟩ ?_
  refine VC_seq ?_
  refine VC_region ?_
  refine VL_val rfl rfl rfl (yd_assign rfl) ?_
  refine VL_nil ?_
  refine VE_then ?_
  refine VC_seq ?_
  refine VC_region ?_
  refine VL_rel rfl rfl rfl (yr_bslice0 Try.underlying22 T.e24 hS) ?_
  clear hS; rintro _ w ⟨b6, rfl, hS⟩
  have hS := bundle0 hS
  refine VL_val rfl rfl rfl (yd_assign rfl) ?_
  refine VL_nil ?_
  refine VE_then ?_
  refine VC_seq ?_
  refine VC_seq ?_
  refine VC_region ?_
  refine VL_val rfl rfl rfl (yd_move rfl) ?_
  refine VL_val rfl rfl rfl (yd_len rfl Try.underlying22) ?_
  refine VL_val rfl rfl rfl (yd_move rfl) ?_
  refine VL_nil ?_
  refine VE_then ?_
  refine VC_block ?_
  refine VC_loop3 [2, 7, 8] [_, _, _] rfl (fun (k : Nat) (r : Value) (rv : Nat → Value) => [(9, .int .i64 ((k : Nat) : Int)), (3, r)]) (fun (k : Nat) (r : Value) (rv : Nat → Value) w => k ≤ G.length ∧ St w0 M0 [bundle (gRows k rv (fun i => G[i]!)), row r 24 1 k ((List.range k).map rv)] w) (fun (k : Nat) (r : Value) (rv : Nat → Value) => G.length - k) 0 _ (fun _ => .slice none 0 0) ⟨rfl, rfl, trivial⟩ (⟨Nat.zero_le _, hS⟩) ?_
  clear hS; rintro k r rv w ⟨hk, hS⟩
  refine VC_seq ?_
  refine VC_region ?_
  refine VL_val rfl rfl rfl (yd_lss rfl rfl) ?_
  refine VL_nil ?_
  refine VE_then ?_
  refine VC_seq ?_
  refine VC_cond rfl (fun h10 => ?_) (fun h10 => ?_)
  · replace h10 := of_decide_eq_true h10
    refine VC_skip ?_
    refine VE_then ?_
    refine VC_seq ?_
    refine VC_block ?_
    refine VC_seq ?_
    refine VC_region ?_
    obtain ⟨ra, rc, rb, ro, hc, hra, hcs⟩ := hrow k (by omega)
    have hr4 := hg.row k (by omega)
    refine VL_val rfl rfl rfl (yd_index1 rfl rfl Try.underlying22 T.sz24 (by omega)) ?_
    refine VL_val rfl rfl rfl (yd_load rfl T.one24 (hS.cell0 hc)) ?_
    refine VL_val rfl rfl rfl (yd_assign rfl) ?_
    refine VL_nil ?_
    refine VE_then ?_
    refine VC_region ?_
    refine VL_val rfl rfl rfl (yd_move rfl) ?_
    refine VL_rel rfl rfl rfl (yr_bslice0 Try.underlying24 T.e3 hS) ?_
    clear hS; rintro _ w ⟨b14, rfl, hS⟩
    refine VL_val rfl rfl rfl (yd_move rfl) ?_
    refine VL_rel rfl rfl rfl (yr_appendS rfl rfl Try.underlying24 T.e3 rfl (by decide) hS 2 rfl hra (zl_news (fun j hj => hS.cell0 (hcs j hj))) (by simp [zL]) zl_one (by omega) (by omega)) ?_
    clear hS; rintro v16 w ⟨hS, hnil⟩
    rw [Nat.zero_add, List.nil_append] at hS
    obtain ⟨cb, cc, rfl, -⟩ := row_form (hS.get 2 rfl) (.inl (fun h => by have := (hnil.1 h).1; cases this))
    refine VL_rel rfl rfl rfl (yr_bslice rfl Try.underlying22 T.e24 rfl (by decide) (by decide) hS) ?_
    clear hS; rintro _ w ⟨b17, rfl, hS⟩
    refine VL_rel rfl rfl rfl (yr_append rfl rfl Try.underlying22 T.e24 rfl (by decide) hS 1 rfl (hS.get 3 rfl) rfl (by intro u hu; simp [Value.cells] at hu; subst hu; rfl) (by omega) (by omega)) ?_
    clear hS; rintro v18 w ⟨hS, -⟩
    have hS := bundle_in (hS.front 2 rfl)
    have hS := hS.sub (η' := _) (List.take_sublist 2 _)
    refine VL_val rfl rfl rfl (yd_assign rfl) ?_
    refine VL_nil ?_
    refine VE_block_normal ?_
    refine VE_then ?_
    refine VC_region ?_
    refine VL_val rfl rfl rfl (yd_add rfl rfl ((k + 1 : Nat) : Int) (by rw [wi64 (by omega) (by omega)]; omega)) ?_
    refine VL_val rfl rfl rfl (yd_move rfl) ?_
    refine VL_nil ?_
    refine VE_round3 (k + 1) _ (upd rv k (.slice (some ⟨cb, 0, none⟩) G[k]!.length cc)) ⟨rfl, rfl, rfl, rfl, rfl, trivial⟩ ⟨by omega, ?_⟩ (by omega)
    rw [rv_snoc, ← gRows_snoc rfl]; exact hS
  · replace h10 := Int.not_lt.1 (of_decide_eq_false h10)
    refine VC_exit ?_
    refine VE_then_exit (VE_then_exit (VE_block_exit ?_))
    refine VE_then ?_
    refine VC_seq ?_
    refine VC_region ?_
    refine VL_val rfl rfl rfl (yd_move rfl) ?_
    refine VL_val rfl rfl rfl (yd_assign rfl) ?_
    refine VL_nil ?_
    refine VE_then ?_
    refine VC_ret ?_
    refine VE_ret1 (rfl) rfl ?_
    obtain rfl : k = G.length := by omega
    exact ⟨rv, hS⟩

theorem withWay_ok {w0 : World} {v : Value} {G : Graph} (hG : GraphAt w0 v G) (hg : Gd G) {x y : Nat} (hx : x < G.length) : Calls Try.prog 36 #[v, .int .i64 (x : Int), .int .i64 (y : Int)] w0 (Ret fun u w' => GraphAt w' u (G.set x (G[x]! ++ [y])) ∧ St w0 M0 [] w') := by
  have hS := St.refl w0
  have hle := hg.le
  have hr4 := hg.row x hx
  refine V_enter (N := 21) Try.func36 rfl Try.ntmps36 rfl ?_
  refine VC.sub (τ := [(0, _), (1, _), (2, _)]) ⟨rfl, rfl, rfl, trivial⟩ ?_
  refine VC_seq ?_
  refine VC_region ?_
  refine VL_val rfl rfl rfl (yd_assign rfl) ?_
  refine VL_nil ?_
  refine VE_then ?_
  refine VC_seq ?_
  refine VC_region ?_
  refine VL_val rfl rfl rfl (yd_move rfl) ?_
  refine VL_call rfl rfl rfl rfl T.call48 rfl (copy_ok hG hg) ?_
  rintro u9 w ⟨rv, hR⟩
  have hS := hS.call0 hR
  obtain ⟨ob, oc, rfl, -⟩ := row_form (hS.get 1 rfl) (.inr (by omega))
  have hS := unbundle hS
  refine VL_val rfl rfl rfl (yd_assign rfl) ?_
  refine VL_nil ?_
  refine VE_then ?_
  refine VC_seq ?_
  refine VC_region ?_
  refine VL_val rfl rfl rfl (yd_move rfl) ?_
  refine VL_val rfl rfl rfl (yd_move rfl) ?_
  refine VL_val rfl rfl rfl (yd_move rfl) ?_
  refine VL_val rfl rfl rfl (yd_move rfl) ?_
  refine VL_val rfl rfl rfl (yd_index0 rfl rfl Try.underlying22 T.sz24 (by omega)) ?_
  refine VL_val rfl rfl rfl (yd_load rfl T.one24 (row_cell (hS.get G.length (gRows_behind _ 0)) (u := rv x) (by simp [hx]))) ?_
  refine VL_val rfl rfl rfl (yd_move rfl) ?_
  refine VL_rel rfl rfl rfl (yr_bslice rfl Try.underlying24 T.e3 rfl (by decide) (by decide) hS) ?_
  clear hS; rintro _ w ⟨b17, rfl, hS⟩
  rw [List.append_assoc] at hS
  refine VL_rel rfl rfl rfl (yr_append rfl rfl Try.underlying24 T.e3 rfl (by decide) hS x (gRows_get hx _) (hS.get (G.length + 1) (gRows_behind _ 1)) rfl (by intro u hu; simp [Value.cells] at hu; subst hu; rfl) (by show G[x]!.length + 1 ≤ _; omega) (by show (G[x]!.length + 1) * 8 ≤ _; omega)) ?_
  clear hS; rintro v18 w ⟨hS, -⟩
  have e18 : row v18 3 1 (G[x]!.length + 1) ((zL G[x]!).map (Value.int .i64) ++ (Value.int .i64 ((y : Nat) : Int)).cells.toList) = row v18 3 1 (G[x]! ++ [y]).length ((zL (G[x]! ++ [y])).map (Value.int .i64)) := by simp [zL, Value.cells]
  rw [e18, gRows_set hx] at hS
  obtain ⟨nb, nc, rfl, -⟩ : ∃ nb nc, v18 = .slice (some ⟨nb, 0, none⟩) (G[x]! ++ [y]).length nc ∧ True := by
    have h := hS.get x (gRows_get hx _)
    unfold gRow at h; rw [upd_same, upd_same] at h
    obtain ⟨nb, nc, h1, -⟩ := row_form h (.inr (by simp))
    exact ⟨nb, nc, h1, trivial⟩
  refine VL_val rfl rfl rfl (yd_index0 rfl rfl Try.underlying22 T.sz24 (by omega)) ?_
  refine VL_storeR rfl rfl rfl rfl rfl T.one24 rfl hS (G.length + 0) (gRows_behind _ 0) (by simp [hx]) ?_
  clear hS; intro w hS
  rw [map_range_set] at hS
  refine VL_nil ?_
  refine VE_then ?_
  refine VC_seq ?_
  refine VC_region ?_
  refine VL_val rfl rfl rfl (yd_move rfl) ?_
  refine VL_val rfl rfl rfl (yd_assign rfl) ?_
  refine VL_nil ?_
  refine VE_then ?_
  refine VC_ret ?_
  refine VE_ret1 (rfl) rfl ?_
  have hH : ∀ i, i < G.length → (G.set x (G[x]! ++ [y]))[i]! = upd (fun i => G[i]!) x (G[x]! ++ [y]) i := by
    intro i hi
    rw [get!_set _ _ _ _ hx]
    by_cases h : i = x
    · subst h; rw [if_pos rfl, upd_same]
    · rw [if_neg (fun e => h e.symm), upd_ne _ _ h]
  have hb := hS.get (G.length + 0) (List.getElem?_set_self (by simp [gRows_len]))
  have hS2 := hS
  rw [List.set_append_right _ _ (by simp [gRows_len]), gRows_len] at hS2
  exact ⟨graph_of_g (List.length_set ..) hH (fun i hi => hS2.get i (gRows_get hi _)) hb, hS.sub (List.nil_sublist _)⟩

theorem fnTwice_calls {w0 : World} {v : Value} {G0 : List (List Int)} {x k : Int} (hR : RowsAt w0 v G0) : Calls Try.prog 11 #[v, .int .i64 x, .int .i64 k] w0 (Ret fun u w' => u = .bool true ∧ RowKit.Below w0.heap.size w0 w') := by
  have hS := St.refl w0
  refine V_enter (N := 63) Try.func11 rfl Try.ntmps11 rfl ?_
  refine VC.sub (τ := [(0, _), (1, _), (2, _)]) ⟨rfl, rfl, rfl, trivial⟩ ?_
  refine VC_seq ?_
  refine VC_region ?_
  refine VL_val rfl rfl rfl (yd_assign rfl) ?_
  refine VL_nil ?_
  refine VE_then ?_
  refine VC_seq ?_
  refine VC_seq ?_
  refine VC_region ?_
  refine VL_val rfl rfl rfl (yd_move rfl) ?_
  refine VL_call rfl rfl rfl rfl T.call15 rfl (zzFits1_ok (hS.rows hR)) ?_
  rintro _ _ ⟨rfl, bz, rfl, hz⟩
  refine VL_val rfl rfl rfl (yd_not rfl) ?_
  refine VL_nil ?_
  refine VE_then ?_
  refine VC_cond rfl (fun h10 => ?_) (fun h10 => ?_)
  · replace h10 := V.nt h10
    refine VC_seq ?_
    refine VC_region ?_
    refine VL_val rfl rfl rfl (yd_assign rfl) ?_
    refine VL_nil ?_
    refine VE_then ?_
    refine VC_ret ?_
    refine VE_then_ret (?_)
    refine VE_ret1 (rfl) rfl ?_
    exact ⟨rfl, hS.below⟩
  · replace h10 := V.nf h10
    have hzt := h10
    refine VC_skip ?_
    refine VE_then ?_
    refine VC_seq ?_
    refine VC_seq ?_
    refine VC_region ?_
    refine VL_val rfl rfl rfl (yd_move rfl) ?_
    refine VL_call rfl rfl rfl rfl T.call16 rfl (good_ok (hS.rows hR) (hz hzt)) ?_
    rintro _ _ ⟨rfl, bg, rfl, hgi⟩
    refine VL_val rfl rfl rfl (yd_not rfl) ?_
    refine VL_val rfl rfl rfl (yd_move rfl) ?_
    refine VL_split 14 rfl (fun h14 => ?_) (fun h14 => ?_)
    · replace h14 := V.nt h14
      refine VL_no rfl rfl rfl rfl rfl rfl rfl ?_
      refine VL_no rfl rfl rfl rfl rfl rfl rfl ?_
      refine VL_no rfl rfl rfl rfl rfl rfl rfl ?_
      refine VL_no rfl rfl rfl rfl rfl rfl rfl ?_
      refine VL_val rfl rfl rfl (yd_pick_t rfl rfl) ?_
      refine VL_val rfl rfl rfl (yd_move rfl) ?_
      refine VL_no rfl rfl rfl rfl rfl rfl rfl ?_
      refine VL_no rfl rfl rfl rfl rfl rfl rfl ?_
      refine VL_val rfl rfl rfl (yd_pick_t rfl rfl) ?_
      refine VL_val rfl rfl rfl (yd_move rfl) ?_
      refine VL_no rfl rfl rfl rfl rfl rfl rfl ?_
      refine VL_no rfl rfl rfl rfl rfl rfl rfl ?_
      refine VL_no rfl rfl rfl rfl rfl rfl rfl ?_
      refine VL_no rfl rfl rfl rfl rfl rfl rfl ?_
      refine VL_no rfl rfl rfl rfl rfl rfl rfl ?_
      refine VL_no rfl rfl rfl rfl rfl rfl rfl ?_
      refine VL_no rfl rfl rfl rfl rfl rfl rfl ?_
      refine VL_val rfl rfl rfl (yd_pick_t rfl rfl) ?_
      refine VL_val rfl rfl rfl (yd_move rfl) ?_
      refine VL_no rfl rfl rfl rfl rfl rfl rfl ?_
      refine VL_no rfl rfl rfl rfl rfl rfl rfl ?_
      refine VL_no rfl rfl rfl rfl rfl rfl rfl ?_
      refine VL_no rfl rfl rfl rfl rfl rfl rfl ?_
      refine VL_no rfl rfl rfl rfl rfl rfl rfl ?_
      refine VL_no rfl rfl rfl rfl rfl rfl rfl ?_
      refine VL_val rfl rfl rfl (yd_pick_t rfl rfl) ?_
      refine VL_nil ?_
      refine VE_then ?_
      refine VC_cond_t rfl ?_
      refine VC_seq ?_
      refine VC_region ?_
      refine VL_val rfl rfl rfl (yd_assign rfl) ?_
      refine VL_nil ?_
      refine VE_then ?_
      refine VC_ret ?_
      refine VE_then_ret (?_)
      refine VE_ret1 (rfl) rfl ?_
      exact ⟨rfl, hS.below⟩
    · replace h14 := V.nf h14
      have hgt := h14
      obtain ⟨G, hG, hg, -⟩ := graph_of_rows hR (hgi.1 hgt)
      have hle := hg.le
      have hpos := hg.pos
      have hG0 := hG
      obtain ⟨ga, gc, gb, go, rfl, hga, hrow⟩ := hG
      obtain rfl := hga (by omega)
      refine VL_yes rfl rfl rfl rfl ?_
      refine VL_val rfl rfl rfl (yd_move rfl) ?_
      refine VL_yes rfl rfl rfl rfl ?_
      refine VL_val rfl rfl rfl (yd_move rfl) ?_
      refine VL_yes rfl rfl rfl rfl ?_
      refine VL_call rfl rfl rfl rfl T.call35 rfl (block_ok (hS.graph hG0)) ?_
      rintro _ _ ⟨rfl, bb, rfl, hbb⟩
      refine VL_yes rfl rfl rfl rfl ?_
      refine VL_val rfl rfl rfl (yd_not rfl) ?_
      refine VL_val rfl rfl rfl (yd_pick_f rfl rfl) ?_
      refine VL_val rfl rfl rfl (yd_move rfl) ?_
      refine VL_split 20 rfl (fun h20 => ?_) (fun h20 => ?_)
      · replace h20 := V.nt h20
        refine VL_no rfl rfl rfl rfl rfl rfl rfl ?_
        refine VL_no rfl rfl rfl rfl rfl rfl rfl ?_
        refine VL_val rfl rfl rfl (yd_pick_t rfl rfl) ?_
        refine VL_val rfl rfl rfl (yd_move rfl) ?_
        refine VL_no rfl rfl rfl rfl rfl rfl rfl ?_
        refine VL_no rfl rfl rfl rfl rfl rfl rfl ?_
        refine VL_no rfl rfl rfl rfl rfl rfl rfl ?_
        refine VL_no rfl rfl rfl rfl rfl rfl rfl ?_
        refine VL_no rfl rfl rfl rfl rfl rfl rfl ?_
        refine VL_no rfl rfl rfl rfl rfl rfl rfl ?_
        refine VL_no rfl rfl rfl rfl rfl rfl rfl ?_
        refine VL_val rfl rfl rfl (yd_pick_t rfl rfl) ?_
        refine VL_val rfl rfl rfl (yd_move rfl) ?_
        refine VL_no rfl rfl rfl rfl rfl rfl rfl ?_
        refine VL_no rfl rfl rfl rfl rfl rfl rfl ?_
        refine VL_no rfl rfl rfl rfl rfl rfl rfl ?_
        refine VL_no rfl rfl rfl rfl rfl rfl rfl ?_
        refine VL_no rfl rfl rfl rfl rfl rfl rfl ?_
        refine VL_no rfl rfl rfl rfl rfl rfl rfl ?_
        refine VL_val rfl rfl rfl (yd_pick_t rfl rfl) ?_
        refine VL_nil ?_
        refine VE_then ?_
        refine VC_cond_t rfl ?_
        refine VC_seq ?_
        refine VC_region ?_
        refine VL_val rfl rfl rfl (yd_assign rfl) ?_
        refine VL_nil ?_
        refine VE_then ?_
        refine VC_ret ?_
        refine VE_then_ret (?_)
        refine VE_ret1 (rfl) rfl ?_
        exact ⟨rfl, hS.below⟩
      · replace h20 := V.nf h20
        have hx := hbb.1 h20
        obtain ⟨xn, rfl⟩ : ∃ xn : Nat, x = xn := ⟨x.toNat, by omega⟩
        have hxn : xn < G.length := by omega
        obtain ⟨ra, rc, rb, ro, hc, hra, hcs⟩ := hrow xn hxn
        refine VL_yes rfl rfl rfl rfl ?_
        refine VL_val rfl rfl rfl (yd_move rfl) ?_
        refine VL_yes rfl rfl rfl rfl ?_
        refine VL_val rfl rfl rfl (yd_lss rfl rfl) ?_
        refine VL_val rfl rfl rfl (yd_pick_f rfl rfl) ?_
        refine VL_val rfl rfl rfl (yd_move rfl) ?_
        refine VL_split 24 rfl (fun h24 => ?_) (fun h24 => ?_)
        · replace h24 := of_decide_eq_true h24
          refine VL_no rfl rfl rfl rfl rfl rfl rfl ?_
          refine VL_no rfl rfl rfl rfl rfl rfl rfl ?_
          refine VL_no rfl rfl rfl rfl rfl rfl rfl ?_
          refine VL_no rfl rfl rfl rfl rfl rfl rfl ?_
          refine VL_no rfl rfl rfl rfl rfl rfl rfl ?_
          refine VL_no rfl rfl rfl rfl rfl rfl rfl ?_
          refine VL_no rfl rfl rfl rfl rfl rfl rfl ?_
          refine VL_val rfl rfl rfl (yd_pick_t rfl rfl) ?_
          refine VL_val rfl rfl rfl (yd_move rfl) ?_
          refine VL_no rfl rfl rfl rfl rfl rfl rfl ?_
          refine VL_no rfl rfl rfl rfl rfl rfl rfl ?_
          refine VL_no rfl rfl rfl rfl rfl rfl rfl ?_
          refine VL_no rfl rfl rfl rfl rfl rfl rfl ?_
          refine VL_no rfl rfl rfl rfl rfl rfl rfl ?_
          refine VL_no rfl rfl rfl rfl rfl rfl rfl ?_
          refine VL_val rfl rfl rfl (yd_pick_t rfl rfl) ?_
          refine VL_nil ?_
          refine VE_then ?_
          refine VC_cond_t rfl ?_
          refine VC_seq ?_
          refine VC_region ?_
          refine VL_val rfl rfl rfl (yd_assign rfl) ?_
          refine VL_nil ?_
          refine VE_then ?_
          refine VC_ret ?_
          refine VE_then_ret (?_)
          refine VE_ret1 (rfl) rfl ?_
          exact ⟨rfl, hS.below⟩
        · replace h24 := Int.not_lt.1 (of_decide_eq_false h24)
          obtain ⟨kn, rfl⟩ : ∃ kn : Nat, k = kn := ⟨k.toNat, by omega⟩
          refine VL_yes rfl rfl rfl rfl ?_
          refine VL_val rfl rfl rfl (yd_move rfl) ?_
          refine VL_yes rfl rfl rfl rfl ?_
          refine VL_val rfl rfl rfl (yd_move rfl) ?_
          refine VL_yes rfl rfl rfl rfl ?_
          refine VL_val rfl rfl rfl (yd_move rfl) ?_
          refine VL_yes rfl rfl rfl rfl ?_
          refine VL_val rfl rfl rfl (yd_index1 rfl rfl Try.underlying22 T.sz24 (by omega)) ?_
          refine VL_yes rfl rfl rfl rfl ?_
          refine VL_val rfl rfl rfl (yd_load rfl T.one24 (hS.cell0 hc)) ?_
          refine VL_yes rfl rfl rfl rfl ?_
          refine VL_val rfl rfl rfl (yd_len rfl Try.underlying24) ?_
          refine VL_yes rfl rfl rfl rfl ?_
          refine VL_val rfl rfl rfl (yd_geq rfl rfl) ?_
          refine VL_val rfl rfl rfl (yd_pick_f rfl rfl) ?_
          refine VL_val rfl rfl rfl (yd_move rfl) ?_
          refine VL_split 33 rfl (fun h33 => ?_) (fun h33 => ?_)
          · replace h33 := of_decide_eq_true h33
            refine VL_no rfl rfl rfl rfl rfl rfl rfl ?_
            refine VL_no rfl rfl rfl rfl rfl rfl rfl ?_
            refine VL_no rfl rfl rfl rfl rfl rfl rfl ?_
            refine VL_no rfl rfl rfl rfl rfl rfl rfl ?_
            refine VL_no rfl rfl rfl rfl rfl rfl rfl ?_
            refine VL_no rfl rfl rfl rfl rfl rfl rfl ?_
            refine VL_val rfl rfl rfl (yd_pick_t rfl rfl) ?_
            refine VL_nil ?_
            refine VE_then ?_
            refine VC_cond_t rfl ?_
            refine VC_seq ?_
            refine VC_region ?_
            refine VL_val rfl rfl rfl (yd_assign rfl) ?_
            refine VL_nil ?_
            refine VE_then ?_
            refine VC_ret ?_
            refine VE_then_ret (?_)
            refine VE_ret1 (rfl) rfl ?_
            exact ⟨rfl, hS.below⟩
          · replace h33 := Int.not_le.1 (of_decide_eq_false h33)
            refine VL_yes rfl rfl rfl rfl ?_
            refine VL_val rfl rfl rfl (yd_move rfl) ?_
            refine VL_yes rfl rfl rfl rfl ?_
            refine VL_val rfl rfl rfl (yd_move rfl) ?_
            refine VL_yes rfl rfl rfl rfl ?_
            refine VL_val rfl rfl rfl (yd_index1 rfl rfl Try.underlying22 T.sz24 (by omega)) ?_
            refine VL_yes rfl rfl rfl rfl ?_
            refine VL_val rfl rfl rfl (yd_load rfl T.one24 (hS.cell0 hc)) ?_
            refine VL_yes rfl rfl rfl rfl ?_
            refine VL_val rfl rfl rfl (yd_len rfl Try.underlying24) ?_
            refine VL_yes rfl rfl rfl rfl ?_
            refine VL_val rfl rfl rfl (yd_geq rfl rfl) ?_
            refine VL_val rfl rfl rfl (yd_pick_f rfl rfl) ?_
            refine VL_nil ?_
            refine VE_then ?_
            refine VC_cond rfl (fun h40 => ?_) (fun h40 => ?_)
            · replace h40 := of_decide_eq_true h40
              refine VC_seq ?_
              refine VC_region ?_
              refine VL_val rfl rfl rfl (yd_assign rfl) ?_
              refine VL_nil ?_
              refine VE_then ?_
              refine VC_ret ?_
              refine VE_then_ret (?_)
              refine VE_ret1 (rfl) rfl ?_
              exact ⟨rfl, hS.below⟩
            · replace h40 := Int.not_le.1 (of_decide_eq_false h40)
              have hkn : kn < G[xn]!.length := by omega
              obtain rfl := hra (by omega)
              have hed : Ed G xn G[xn]![kn]! := Ed.get hxn hkn
              have hyl := hed.lt hg
              have hg2 := gd_more hg hxn hyl (by omega)
              refine VC_skip ?_
              refine VE_then ?_
              refine VC_seq ?_
              refine VC_region ?_
              refine VL_val rfl rfl rfl (yd_move rfl) ?_
              refine VL_call rfl rfl rfl rfl T.call32 rfl (implDominatorsSimple_ok (hS.graph hG0) hg) ?_
              rintro u42 w ⟨L, hid, hR1⟩
              have hS := hS.call0 hR1
              have hil := hid.len
              obtain ⟨ib, ic, rfl, -⟩ := row_form (hS.get 0 rfl) (.inr (by omega))
              refine VL_val rfl rfl rfl (yd_assign rfl) ?_
              refine VL_nil ?_
              refine VE_then ?_
              refine VC_seq ?_
              refine VC_region ?_
              refine VL_val rfl rfl rfl (yd_move rfl) ?_
              refine VL_val rfl rfl rfl (yd_len rfl Try.underlying24) ?_
              refine VL_val rfl rfl rfl (yd_move rfl) ?_
              refine VL_val rfl rfl rfl (yd_len rfl Try.underlying22) ?_
              refine VL_val rfl rfl rfl (yd_eql rfl rfl) ?_
              refine VL_val rfl rfl rfl (yd_move rfl) ?_
              refine VL_split 48 rfl (fun h48 => ?_) (fun h48 => ?_)
              · replace h48 := of_decide_eq_true h48
                refine VL_yes rfl rfl rfl rfl ?_
                refine VL_val rfl rfl rfl (yd_move rfl) ?_
                refine VL_yes rfl rfl rfl rfl ?_
                refine VL_val rfl rfl rfl (yd_move rfl) ?_
                refine VL_yes rfl rfl rfl rfl ?_
                refine VL_val rfl rfl rfl (yd_move rfl) ?_
                refine VL_yes rfl rfl rfl rfl ?_
                refine VL_val rfl rfl rfl (yd_move rfl) ?_
                refine VL_yes rfl rfl rfl rfl ?_
                refine VL_val rfl rfl rfl (yd_move rfl) ?_
                refine VL_yes rfl rfl rfl rfl ?_
                refine VL_val rfl rfl rfl (yd_index1 rfl rfl Try.underlying22 T.sz24 (by omega)) ?_
                refine VL_yes rfl rfl rfl rfl ?_
                refine VL_val rfl rfl rfl (yd_load rfl T.one24 (hS.cell0 hc)) ?_
                refine VL_yes rfl rfl rfl rfl ?_
                refine VL_val rfl rfl rfl (yd_move rfl) ?_
                refine VL_yes rfl rfl rfl rfl ?_
                refine VL_val rfl rfl rfl (yd_index1 rfl rfl Try.underlying24 T.sz3 (by omega)) ?_
                refine VL_yes rfl rfl rfl rfl ?_
                refine VL_val rfl rfl rfl (yd_load rfl T.one3 (hS.cell0 (hcs kn hkn))) ?_
                refine VL_yes rfl rfl rfl rfl ?_
                refine VL_call rfl rfl rfl rfl T.call36 rfl (withWay_ok (hS.graph hG0) hg (y := G[xn]![kn]!) hxn) ?_
                rintro u59 w ⟨hG2, hR2⟩
                have hS := hS.call0 hR2
                refine VL_yes rfl rfl rfl rfl ?_
                refine VL_call rfl rfl rfl rfl T.call32 rfl (implDominatorsSimple_ok hG2 hg2) ?_
                rintro u60 w ⟨L2, hid2, hR3⟩
                have hS := hS.call0 hR3
                have hid2 := idoms_congr (by rw [List.length_set]) (fun a b => (dm_congr (ed_twice hed) (x := a) (y := b)).symm) hid2
                have hil2 := hid2.len
                refine VL_yes rfl rfl rfl rfl ?_
                refine VL_call rfl rfl rfl rfl T.call21 rfl (same_ok (la := L.map nO) (lb := L2.map nO) (by have h := hS.get 0 rfl; exact ints_of_row (by rw [List.length_map]; exact h)) (by have h := hS.get 1 rfl; exact ints_of_row (by rw [List.length_map]; exact h)) (by simp; omega)) ?_
                rintro _ w ⟨rfl, hR4⟩
                have hS := hS.call0 hR4
                refine VL_val rfl rfl rfl (yd_pick_t rfl rfl) ?_
                refine VL_val rfl rfl rfl (yd_assign rfl) ?_
                refine VL_nil ?_
                refine VE_then ?_
                refine VC_ret ?_
                refine VE_ret1 (rfl) rfl ?_
                refine ⟨?_, hS.below⟩
                rw [decide_eq_true (by rw [hid.unique hid2])]
              · replace h48 := of_decide_eq_false h48
                exact absurd (by omega) h48

end Go.Proofs.Ytmoooaaiohplhaa
