/- spec.Block, Copy, WithWay; the law on a way that is there twice. -/
import Derived.Test.YtmoooaaiohplhacWk
namespace Go.Proofs.Ytmoooaaiohplhac
open Go Go.V
set_option linter.unusedVariables false
set_option maxRecDepth 100000



open Go.PL
/-- The rows of a graph of our own. -/
def gRow (rv : Nat → Value) (S : Nat → List Nat) (i : Nat) : Res := row (rv i) 3 1 (S i).length ((zL (S i)).map (Value.int .i64))
def gRows (n : Nat) (rv : Nat → Value) (S : Nat → List Nat) : List Res := (List.range n).map (gRow rv S)
theorem gRows_len (n : Nat) (rv : Nat → Value) (S : Nat → List Nat) : (gRows n rv S).length = n := by simp [gRows]
theorem gRows_get {n : Nat} {rv : Nat → Value} {S : Nat → List Nat} {x : Nat} (hx : x < n) (T : List Res) : (gRows n rv S ++ T)[x]? = some (gRow rv S x) := by
  rw [List.getElem?_append_left (by rw [gRows_len]; exact hx)]; simp [gRows, hx]
theorem gRows_behind {n : Nat} {rv : Nat → Value} {S : Nat → List Nat} (T : List Res) (j : Nat) : (gRows n rv S ++ T)[n + j]? = T[j]? := by
  rw [List.getElem?_append_right (by rw [gRows_len]; omega), gRows_len]; congr 1; omega
theorem gRows_snoc {k : Nat} {rv : Nat → Value} {S : Nat → List Nat} {v : Value} {r : Res} (hr : r = row v 3 1 (S k).length ((zL (S k)).map (Value.int .i64))) : gRows k rv S ++ [r] = gRows (k + 1) (upd rv k v) S := by
  unfold gRows
  rw [List.range_succ, List.map_append, hr]
  congr 1
  · apply List.map_congr_left; intro i hi; unfold gRow; rw [upd_ne _ _ (by simp at hi; omega)]
  · simp [gRow, upd_same]
theorem rv_snoc {k : Nat} {rv : Nat → Value} {v : Value} : (List.range (k + 1)).map (upd rv k v) = (List.range k).map rv ++ [v] := by
  rw [List.range_succ, List.map_append]
  congr 1
  · apply List.map_congr_left; intro i hi; rw [upd_ne _ _ (by simp at hi; omega)]
  · simp [upd_same]
theorem gRows_set {n : Nat} {rv : Nat → Value} {S : Nat → List Nat} {x : Nat} (hx : x < n) {v : Value} {l : List Nat} (T : List Res) : (gRows n rv S ++ T).set x (row v 3 1 l.length ((zL l).map (Value.int .i64))) = gRows n (upd rv x v) (upd S x l) ++ T := by
  rw [List.set_append_left _ _ (by rw [gRows_len]; exact hx)]
  unfold gRows
  rw [map_range_set]
  congr 2
  funext i
  unfold upd gRow
  by_cases h : i = x
  · subst h; simp
  · simp [h]
theorem zl_news {w : World} {S : List Nat} {b o : Nat} (h : ∀ j, j < S.length → w.cell? ⟨b, o + j, none⟩ = some (.int .i64 ((S[j]! : Nat) : Int))) : ∀ q u, ((zL S).map (Value.int .i64))[q]? = some u → w.cell? ⟨b, o + q, none⟩ = some u := by
  intro q u hq
  obtain ⟨h1, h2⟩ := List.getElem?_eq_some_iff.1 hq
  have hq' : q < S.length := by simpa [zL] using h1
  rw [h q hq', ← h2]; simp [zL, hq']
theorem zl_one {S : List Nat} : ∀ u ∈ (zL S).map (Value.int .i64), u.oneCell' = true := by
  intro u hu; obtain ⟨_, _, rfl⟩ := List.mem_map.1 hu; rfl
theorem unbundle {w0 w : World} {M : Nat → Prop} {L η : List Res} (hS : St w0 M (bundle L :: η) w) : St w0 M (L ++ η) w := by
  have hb := hS.get 0 rfl
  have hp := List.pairwise_cons.1 hS.disj
  refine ⟨hS.os, hS.tape, hS.output, hS.size, hS.old, ?_, ?_, ?_⟩
  · intro r hr
    rcases List.mem_append.1 hr with hr | hr
    · exact hb.1 r hr
    · exact hS.res r (by simp [hr])
  · intro r hr b hrb
    rcases List.mem_append.1 hr with hr | hr
    · exact hS.own (bundle L) (by simp) b ⟨r, hr, hrb⟩
    · exact hS.own r (by simp [hr]) b hrb
  · rw [List.pairwise_append]
    exact ⟨hb.2, hp.2, fun r hr s hs b hrb hsb => hp.1 s hs b ⟨r, hr, hrb⟩ hsb⟩
theorem graph_of_g {w : World} {n b c : Nat} {rv : Nat → Value} {S : Nat → List Nat} {H : Graph} {t : TypeId} (hl : H.length = n) (hH : ∀ i, i < n → H[i]! = S i) (h1 : ∀ i, i < n → (gRow rv S i).holds w) (h2 : (row (.slice (some ⟨b, 0, none⟩) n c) t 1 n ((List.range n).map rv)).holds w) : GraphAt w (.slice (some ⟨b, 0, none⟩) n c) H := by
  subst hl
  refine ⟨_, _, b, 0, rfl, fun _ => rfl, fun i hi => ?_⟩
  have hc := row_cell h2 (j := i) (u := rv i) (by simp [hi])
  rw [Nat.zero_add, hH i hi]
  have hg := h1 i hi
  rcases hg.2 with ⟨e, h3⟩ | ⟨g, cap, cur, e, _⟩
  · exact ⟨none, 0, 0, 0, by rw [hc, e, h3], fun h => by omega, fun j hj => by omega⟩
  · refine ⟨_, cap, g, 0, by rw [hc, e], fun _ => rfl, fun j hj => ?_⟩
    unfold gRow at hg
    rw [e] at hg
    rw [Nat.zero_add]; exact zl_cell hg hj
/-- One way more, that was there. -/
theorem ed_twice {G : Graph} {x y : Nat} (e : Ed G x y) : ∀ a b, Ed G a b ↔ Ed (G.set x (G[x]! ++ [y])) a b := by
  intro a b
  have hx := e.1
  unfold Ed
  rw [List.length_set]
  constructor
  · rintro ⟨h1, h2⟩
    refine ⟨h1, ?_⟩
    rw [get!_set _ _ _ _ hx]
    split
    · rename_i h; subst h; exact List.mem_append_left _ h2
    · exact h2
  · rintro ⟨h1, h2⟩
    refine ⟨h1, ?_⟩
    rw [get!_set _ _ _ _ hx] at h2
    split at h2
    · rename_i h; subst h
      rcases List.mem_append.1 h2 with h2 | h2
      · exact h2
      · rw [List.mem_singleton.1 h2]; exact e.2
    · exact h2
theorem gd_more {G : Graph} (hg : Gd G) {x y : Nat} (hx : x < G.length) (hy : y < G.length) (hr : G[x]!.length < 4) : Gd (G.set x (G[x]! ++ [y])) := by
  refine ⟨by rw [List.length_set]; exact hg.pos, by rw [List.length_set]; exact hg.le, fun i hi => ?_, fun i hi j hj => ?_⟩
  · rw [List.length_set] at hi
    rw [get!_set _ _ _ _ hx]
    split
    · rw [List.length_append, List.length_singleton]; omega
    · exact hg.row i hi
  · rw [List.length_set] at hi ⊢
    rw [get!_set _ _ _ _ hx] at hj ⊢
    split
    · rename_i h; subst h
      rw [if_pos rfl] at hj
      by_cases h1 : j < G[x]!.length
      · rw [get!_append_left h1]; exact hg.lt x hx j h1
      · have : j = G[x]!.length := by rw [List.length_append, List.length_singleton] at hj; omega
        rw [this, get!_append_len]; exact hy
    · rename_i h; rw [if_neg h] at hj; exact hg.lt i hi j hj

theorem block_ok {w0 : World} {v : Value} {G : Graph} (hG : GraphAt w0 v G) {x : Int} : Calls Try.prog 14 #[v, .int .i64 x] w0 (Ret fun u w' => w0 = w' ∧ ∃ b, u = .bool b ∧ (b = true ↔ 0 ≤ x ∧ x < G.length)) := by
  obtain ⟨ga, gc, gb, go, rfl, hga, hrow⟩ := hG
  refine V_enter (N := 13) Try.func14 rfl Try.ntmps14 rfl ?_
  refine VC.sub (τ := [(0, _), (1, _)]) ⟨rfl, rfl, trivial⟩ ?_
  refine VC_seq ?_
  refine VC_region ?_
  refine VL_val rfl rfl rfl (yd_assign rfl) ?_
  refine VL_nil ?_
  refine VE_then ?_
  refine VC_seq ?_
  refine VC_region ?_
  refine VL_val rfl rfl rfl (yd_move rfl) ?_
  refine VL_val rfl rfl rfl (yd_geq rfl rfl) ?_
  refine VL_val rfl rfl rfl (yd_move rfl) ?_
  refine VL_split 7 rfl (fun h7 => ?_) (fun h7 => ?_)
  · replace h7 := of_decide_eq_true h7
    refine VL_yes rfl rfl rfl rfl ?_
    refine VL_val rfl rfl rfl (yd_move rfl) ?_
    refine VL_yes rfl rfl rfl rfl ?_
    refine VL_val rfl rfl rfl (yd_move rfl) ?_
    refine VL_yes rfl rfl rfl rfl ?_
    refine VL_val rfl rfl rfl (yd_len rfl Try.underlying22) ?_
    refine VL_yes rfl rfl rfl rfl ?_
    refine VL_val rfl rfl rfl (yd_lss rfl rfl) ?_
    refine VL_val rfl rfl rfl (yd_pick_t rfl rfl) ?_
    refine VL_val rfl rfl rfl (yd_assign rfl) ?_
    refine VL_nil ?_
    refine VE_then ?_
    refine VC_ret ?_
    refine VE_ret1 (rfl) rfl ?_
    refine ⟨rfl, _, rfl, ?_⟩
    first
    | (rw [decide_eq_true_eq]; exact ⟨fun h => ⟨h7, h⟩, fun h => h.2⟩)
    | exact ⟨fun h => (by cases h), fun h => (by omega)⟩
  · replace h7 := Int.not_le.1 (of_decide_eq_false h7)
    refine VL_no rfl rfl rfl rfl rfl rfl rfl ?_
    refine VL_no rfl rfl rfl rfl rfl rfl rfl ?_
    refine VL_no rfl rfl rfl rfl rfl rfl rfl ?_
    refine VL_no rfl rfl rfl rfl rfl rfl rfl ?_
    refine VL_val rfl rfl rfl (yd_pick_f rfl rfl) ?_
    refine VL_val rfl rfl rfl (yd_assign rfl) ?_
    refine VL_nil ?_
    refine VE_then ?_
    refine VC_ret ?_
    refine VE_ret1 (rfl) rfl ?_
    refine ⟨rfl, _, rfl, ?_⟩
    first
    | (rw [decide_eq_true_eq]; exact ⟨fun h => ⟨h7, h⟩, fun h => h.2⟩)
    | exact ⟨fun h => (by cases h), fun h => (by omega)⟩

end Go.Proofs.Ytmoooaaiohplhac
