/- spec.Turned; the law on other numbers. -/
import Derived.Test.YtmoooaaiohplhaaWr
namespace Go.Proofs.Ytmoooaaiohplhaa
open Go Go.V
set_option linter.unusedVariables false
set_option maxRecDepth 100000

theorem T.call38 : CallT Try.prog 38 := CallT.of Try.func38 (by kernel_rfl) (by kernel_rfl)

open Go.PL
def vN (k : Nat) : Value := .int .i64 ((k : Nat) : Int)
/-- The graph with other numbers. -/
def turnG (G : Graph) (nm : Nat → Nat) : Graph := (List.range G.length).map fun i => match (List.range G.length).find? (fun x => nm x == i) with
  | some x => G[x]!.map nm
  | none => []
section
variable {G : Graph} {nm : Nat → Nat}
theorem turnG_len : (turnG G nm).length = G.length := by simp [turnG]
theorem turnG_get {i : Nat} (hi : i < G.length) : (turnG G nm)[i]! = match (List.range G.length).find? (fun x => nm x == i) with
  | some x => G[x]!.map nm
  | none => [] := by simp [turnG, hi]
theorem turnG_row (hlt : ∀ x, x < G.length → nm x < G.length) (inj : ∀ x y, x < G.length → y < G.length → nm x = nm y → x = y) {x : Nat} (hx : x < G.length) : (turnG G nm)[nm x]! = G[x]!.map nm := by
  rw [turnG_get (hlt x hx)]
  cases h : (List.range G.length).find? (fun y => nm y == nm x) with
  | none => have := List.find?_eq_none.1 h x (by simpa using hx); simp at this
  | some y =>
    have h1 := List.find?_some h
    have h2 := List.mem_of_find?_eq_some h
    have e : y = x := inj y x (by simpa using h2) hx (by simpa using h1)
    subst e; rfl
theorem turnG_none {i : Nat} (hi : i < G.length) (h : ∀ x, x < G.length → nm x ≠ i) : (turnG G nm)[i]! = [] := by
  rw [turnG_get hi]
  cases e : (List.range G.length).find? (fun y => nm y == i) with
  | none => rfl
  | some y =>
    have h1 := List.find?_some e
    have h2 := List.mem_of_find?_eq_some e
    exact absurd (by simpa using h1) (h y (by simpa using h2))
theorem turnG_cases {i : Nat} (hi : i < G.length) : (∃ x, x < G.length ∧ nm x = i ∧ (turnG G nm)[i]! = G[x]!.map nm) ∨ (turnG G nm)[i]! = [] := by
  rw [turnG_get hi]
  cases e : (List.range G.length).find? (fun y => nm y == i) with
  | none => exact .inr rfl
  | some y =>
    have h1 := List.find?_some e
    have h2 := List.mem_of_find?_eq_some e
    exact .inl ⟨y, by simpa using h2, by simpa using h1, rfl⟩
theorem turnG_gd (hg : Gd G) (hlt : ∀ x, x < G.length → nm x < G.length) : Gd (turnG G nm) := by
  refine ⟨by rw [turnG_len]; exact hg.pos, by rw [turnG_len]; exact hg.le, fun i hi => ?_, fun i hi j hj => ?_⟩
  · rw [turnG_len] at hi
    rcases turnG_cases (nm := nm) hi with ⟨x, hx, _, e⟩ | e
    · rw [e, List.length_map]; exact hg.row x hx
    · rw [e]; simp
  · rw [turnG_len] at hi ⊢
    rcases turnG_cases (nm := nm) hi with ⟨x, hx, _, e⟩ | e
    · rw [e, List.length_map] at hj
      rw [e, getElem!_pos (G[x]!.map nm) j (by simpa using hj), List.getElem_map, ← getElem!_pos G[x]! j hj]
      exact hlt _ (hg.lt x hx j hj)
    · rw [e] at hj; simp at hj
theorem turnG_iso (hg : Gd G) (hlt : ∀ x, x < G.length → nm x < G.length) (inj : ∀ x y, x < G.length → y < G.length → nm x = nm y → x = y) (h0 : nm 0 = 0) : Iso G (turnG G nm) nm :=
  ⟨turnG_len, hlt, inj, h0, fun x hx => turnG_row hlt inj hx⟩
theorem nmc {w : World} {b n x : Nat} {t : TypeId} {nl : List Nat} (h : (blk b t (nl.map vN)).holds w) (hl : nl.length = n) (hn : ∀ i, i < n → nl[i]! = nm i) (hx : x < n) : w.cell? ⟨b, x, none⟩ = some (vN (nm x)) := by
  rw [← hn x hx]; exact blk_cellM h (by omega)
theorem graph_of_turned {w : World} {b c : Nat} {rv ov : Nat → Value} {t : TypeId} (hlt : ∀ x, x < G.length → nm x < G.length) (inj : ∀ x y, x < G.length → y < G.length → nm x = nm y → x = y)
    (h1 : ∀ x, x < G.length → ov (nm x) = rv x) (h2 : ∀ i, i < G.length → (∀ x, x < G.length → nm x ≠ i) → ov i = .slice none 0 0) (h3 : ∀ x, x < G.length → (gRow rv (fun x => G[x]!.map nm) x).holds w) (h4 : (blk b t ((List.range G.length).map ov)).holds w) : GraphAt w (.slice (some ⟨b, 0, none⟩) G.length c) (turnG G nm) := by
  refine ⟨_, _, b, 0, by rw [turnG_len], fun _ => rfl, fun i hi => ?_⟩
  rw [turnG_len] at hi
  have hc := blk_cell h4 (i := i) (v := ov i) (by simp [hi])
  rw [Nat.zero_add]
  rcases turnG_cases (nm := nm) hi with ⟨x, hx, e1, e2⟩ | e2
  · have hgr := h3 x hx
    have e3 : ov i = rv x := by rw [← e1]; exact h1 x hx
    rw [e2]
    rcases hgr.2 with ⟨e, h5⟩ | ⟨g, cap, cur, e, _⟩
    · refine ⟨none, 0, 0, 0, ?_, fun h => ?_, fun j hj => ?_⟩
      · rw [hc, e3, e]; simp at h5; simp [h5]
      · simp at h5; simp [h5] at h
      · simp at h5; simp [h5] at hj
    · refine ⟨_, cap, g, 0, by rw [hc, e3, e], fun _ => rfl, fun j hj => ?_⟩
      unfold gRow at hgr
      rw [e] at hgr
      rw [Nat.zero_add]; exact zl_cell hgr hj
  · rw [e2]
    by_cases hex : ∃ x, x < G.length ∧ nm x = i
    · obtain ⟨x, hx, rfl⟩ := hex
      have e4 := turnG_row hlt inj hx
      rw [e2] at e4
      have hgr := h3 x hx
      rw [h1 x hx] at hc
      rcases hgr.2 with ⟨e, h5⟩ | ⟨g, cap, cur, e, _⟩
      · exact ⟨none, 0, 0, 0, by rw [hc, e]; rfl, fun h => by simp at h, fun j hj => by simp at hj⟩
      · have e5 : ((fun x => List.map nm G[x]!) x) = [] := e4.symm
        exact ⟨_, cap, g, 0, by rw [hc, e, e5], fun _ => rfl, fun j hj => by simp at hj⟩
    · rw [h2 i hi (fun x hx e => hex ⟨x, hx, e⟩)] at hc
      exact ⟨none, 0, 0, 0, by rw [hc]; rfl, fun h => by simp at h, fun j hj => by simp at hj⟩
end

theorem turned_ok {w0 : World} {v : Value} {G : Graph} (hG : GraphAt w0 v G) (hg : Gd G) {t : Nat} (ht : t ≤ 1000) : Calls Try.prog 38 #[v, .int .i64 (t : Int)] w0 (Ret fun u w' => ∃ ob bn, ∃ nl : List Nat, u = .tuple #[.slice (some ⟨ob, 0, none⟩) G.length G.length, .slice (some ⟨bn, 0, none⟩) G.length G.length] ∧ GraphAt w' (.slice (some ⟨ob, 0, none⟩) G.length G.length) (turnG G (tnm G.length t)) ∧ nl.length = G.length ∧ (∀ i, i < G.length → nl[i]! = tnm G.length t i) ∧ St w0 M0 [blk bn 3 (nl.map vN)] w') := by
  have hS := St.refl w0
  have hle := hg.le
  have hpos := hg.pos
  obtain ⟨ga, gc, gb, go, rfl, hga, hrow⟩ := hG
  obtain rfl := hga (by omega)
  have hlt : ∀ x, x < G.length → tnm G.length t x < G.length := fun x hx => tnm_lt hpos hx
  have inj : ∀ x y, x < G.length → y < G.length → tnm G.length t x = tnm G.length t y → x = y := fun x y hx hy => tnm_inj hx hy
  refine V_enter (N := 69) Try.func38 rfl Try.ntmps38 rfl ?_
  refine VC.sub (τ := [(0, _), (1, _)]) ⟨rfl, rfl, trivial⟩ ?_
  refine VC_seq ?_
  refine VC_region ?_
  refine VL_val rfl rfl rfl (yd_assign rfl) ?_
  refine VL_val rfl rfl rfl (yd_assign rfl) ?_
  refine VL_nil ?_
  refine VE_then ?_
  refine VC_seq ?_
  refine VC_region ?_
  refine VL_val rfl rfl rfl (yd_move rfl) ?_
  refine VL_val rfl rfl rfl (yd_len rfl Try.underlying22) ?_
  refine VL_val rfl rfl rfl (yd_assign rfl) ?_
  refine VL_nil ?_
  refine VE_then ?_
  refine VC_seq ?_
  refine VC_region ?_
  refine VL_val rfl rfl rfl (yd_move rfl) ?_
  refine VL_makeM vN 0 rfl rfl rfl rfl rfl rfl Try.underlying24 T.e3 rfl rfl (by omega) (by omega) (by omega) hS ?_
  clear hS; intro b7 w hS
  refine VL_val rfl rfl rfl (yd_assign rfl) ?_
  refine VL_nil ?_
  refine VE_then ?_
  refine VC_seq ?_
  refine VC_seq ?_
  refine VC_region ?_
  refine VL_val rfl rfl rfl (yd_assign rfl) ?_
  refine VL_nil ?_
  refine VE_then ?_
  refine VC_block ?_
  refine VC_loop2 [0, 1, 4, 5, 6, 7] [_, _, _, _, _, _] rfl (fun (x : Nat) (nl : List Nat) => [(8, .int .i64 ((x : Nat) : Int))]) (fun (x : Nat) (nl : List Nat) w => 1 ≤ x ∧ x ≤ G.length ∧ nl.length = G.length ∧ (∀ i, i < x → nl[i]! = tnm G.length t i) ∧ St w0 M0 [blk b7 3 (nl.map vN)] w) (fun (x : Nat) (nl : List Nat) => G.length - x) 1 _ ⟨rfl, trivial⟩ (⟨by omega, by omega, List.length_replicate, fun i hi => by rw [show i = 0 from by omega, get!_replicate _ _ _ hpos]; rfl, hS⟩) ?_
  clear hS; rintro x nl w ⟨hx1, hx, hnl, hnm, hS⟩
  refine VC_seq ?_
  refine VC_seq ?_
  refine VC_region ?_
  refine VL_val rfl rfl rfl (yd_move rfl) ?_
  refine VL_val rfl rfl rfl (yd_move rfl) ?_
  refine VL_val rfl rfl rfl (yd_lss rfl rfl) ?_
  refine VL_nil ?_
  refine VE_then ?_
  refine VC_cond rfl (fun h21 => ?_) (fun h21 => ?_)
  · replace h21 := of_decide_eq_true h21
    refine VC_skip ?_
    refine VE_then ?_
    refine VC_seq ?_
    refine VC_block ?_
    refine VC_region ?_
    have hm := Nat.mod_lt (x - 1 + t) (show 0 < G.length - 1 by omega)
    have htn : tnm G.length t x = 1 + (x - 1 + t) % (G.length - 1) := by unfold tnm; rw [if_neg (by omega)]
    refine VL_val rfl rfl rfl (yd_move rfl) ?_
    refine VL_val rfl rfl rfl (yd_move rfl) ?_
    refine VL_val rfl rfl rfl (yd_move rfl) ?_
    refine VL_val rfl rfl rfl (yd_sub rfl rfl (((x - 1 : Nat)) : Int) (by rw [wi64 (by omega) (by omega)]; omega)) ?_
    refine VL_val rfl rfl rfl (yd_move rfl) ?_
    refine VL_val rfl rfl rfl (yd_add rfl rfl (((x - 1 + t : Nat)) : Int) (by rw [wi64 (by omega) (by omega)]; omega)) ?_
    refine VL_val rfl rfl rfl (yd_move rfl) ?_
    refine VL_val rfl rfl rfl (yd_sub rfl rfl (((G.length - 1 : Nat)) : Int) (by rw [wi64 (by omega) (by omega)]; omega)) ?_
    refine VL_val rfl rfl rfl (yd_rem rfl rfl (by omega) _ tmod_nat) ?_
    refine VL_val rfl rfl rfl (yd_add rfl rfl (((tnm G.length t x : Nat)) : Int) (by rw [wi64 (by omega) (by omega)]; omega)) ?_
    refine VL_val rfl rfl rfl (yd_index0 rfl rfl Try.underlying24 T.sz3 (by omega)) ?_
    refine VL_storeM (f := vN) (v := tnm G.length t x) rfl rfl rfl rfl rfl T.one3 rfl hS 0 rfl (by omega) rfl ?_
    clear hS; intro w hS
    refine VL_nil ?_
    refine VE_block_normal ?_
    refine VE_then ?_
    refine VC_region ?_
    refine VL_val rfl rfl rfl (yd_move rfl) ?_
    refine VL_val rfl rfl rfl (yd_add rfl rfl ((x + 1 : Nat) : Int) (by rw [wi64 (by omega) (by omega)]; omega)) ?_
    refine VL_val rfl rfl rfl (yd_assign rfl) ?_
    refine VL_nil ?_
    refine VE_round2 (x + 1) _ ⟨rfl, rfl, rfl, rfl, rfl, rfl, rfl, trivial⟩ ⟨by omega, by omega, by simp [hnl], fun i hi => ?_, hS⟩ (by omega)
    rw [get!_set _ _ _ _ (by omega)]
    split
    · rename_i e; rw [e]
    · exact hnm i (by omega)
  · replace h21 := Int.not_lt.1 (of_decide_eq_false h21)
    refine VC_exit ?_
    refine VE_then_exit (VE_then_exit (VE_block_exit ?_))
    refine VE_then ?_
    refine VC_seq ?_
    refine VC_region ?_
    have hnm : ∀ i, i < G.length → nl[i]! = tnm G.length t i := fun i hi => hnm i (by omega)
    refine VL_val rfl rfl rfl (yd_move rfl) ?_
    refine VL_make1 rfl rfl rfl rfl rfl rfl Try.underlying22 T.e24 rfl (by omega) (by omega) (by omega) hS ?_
    clear hS; intro b9 w hS
    have hS : St w0 M0 [blk b7 3 (nl.map vN), blk b9 24 ((List.range G.length).map (fun _ => Value.slice none 0 0))] w := by
      have e : (List.range G.length).map (fun _ => Value.slice none 0 0) = List.replicate G.length (Value.slice none 0 0) := List.ext_getElem (by rw [List.length_map, List.length_range, List.length_replicate]) (fun i h1 h2 => by rw [List.getElem_map, List.getElem_replicate])
      rw [e]; exact hS
    have hS := bundle0 hS
    refine VL_val rfl rfl rfl (yd_assign rfl) ?_
    refine VL_nil ?_
    refine VE_then ?_
    refine VC_seq ?_
    refine VC_seq ?_
    refine VC_region ?_
    refine VL_val rfl rfl rfl (yd_move rfl) ?_
    refine VL_val rfl rfl rfl (yd_len rfl Try.underlying22) ?_
    refine VL_val rfl rfl rfl (yd_move rfl) ?_
    refine VL_nil ?_
    refine VE_then ?_
    refine VC_block ?_
    refine VC_loop3 [4, 5, 7, 9, 37, 38] [_, _, _, _, _, _] rfl (fun (k : Nat) (ov : Nat → Value) (rv : Nat → Value) => [(39, .int .i64 ((k : Nat) : Int))]) (fun (k : Nat) (ov : Nat → Value) (rv : Nat → Value) w => k ≤ G.length ∧ (∀ x, x < k → ov (tnm G.length t x) = rv x) ∧ (∀ i, i < G.length → (∀ x, x < k → tnm G.length t x ≠ i) → ov i = .slice none 0 0) ∧ St w0 M0 [bundle (gRows k rv (fun x => G[x]!.map (tnm G.length t))), blk b7 3 (nl.map vN), blk b9 24 ((List.range G.length).map ov)] w) (fun (k : Nat) (ov : Nat → Value) (rv : Nat → Value) => G.length - k) 0 (fun _ => .slice none 0 0) (fun _ => .slice none 0 0) ⟨rfl, trivial⟩ (⟨Nat.zero_le _, fun x h => absurd h (Nat.not_lt_zero _), fun _ _ _ => rfl, hS⟩) ?_
    clear hS; rintro k ov rv w ⟨hk, hov, hon, hS⟩
    refine VC_seq ?_
    refine VC_region ?_
    refine VL_val rfl rfl rfl (yd_lss rfl rfl) ?_
    refine VL_nil ?_
    refine VE_then ?_
    refine VC_seq ?_
    refine VC_cond rfl (fun h40 => ?_) (fun h40 => ?_)
    · replace h40 := of_decide_eq_true h40
      refine VC_skip ?_
      refine VE_then ?_
      refine VC_seq ?_
      refine VC_block ?_
      refine VC_seq ?_
      refine VC_region ?_
      obtain ⟨ra, rc, rb, ro, hc, hra, hcs⟩ := hrow k (by omega)
      have hr4 := hg.row k (by omega)
      refine VL_val rfl rfl rfl (yd_move rfl) ?_
      refine VL_val rfl rfl rfl (yd_index1 rfl rfl Try.underlying22 T.sz24 (by omega)) ?_
      refine VL_val rfl rfl rfl (yd_load rfl T.one24 (hS.cell0 hc)) ?_
      refine VL_val rfl rfl rfl (yd_assign rfl) ?_
      refine VL_val rfl rfl rfl (yd_assign rfl) ?_
      refine VL_nil ?_
      refine VE_then ?_
      refine VC_seq ?_
      refine VC_region ?_
      refine VL_rel rfl rfl rfl (yr_bslice0 Try.underlying24 T.e3 hS) ?_
      clear hS; rintro _ w ⟨b12, rfl, hS⟩
      refine VL_val rfl rfl rfl (yd_assign rfl) ?_
      refine VL_nil ?_
      refine VE_then ?_
      refine VC_seq ?_
      refine VC_seq ?_
      refine VC_region ?_
      refine VL_val rfl rfl rfl (yd_move rfl) ?_
      refine VL_val rfl rfl rfl (yd_len rfl Try.underlying24) ?_
      refine VL_val rfl rfl rfl (yd_move rfl) ?_
      refine VL_nil ?_
      refine VE_then ?_
      refine VC_block ?_
      refine VC_loop2 [4, 5, 7, 9, 10, 11, 37, 38, 39, 40, 41, 42, 43, 44, 45, 46] [_, _, _, _, _, _, _, _, _, _, _, _, _, _, _, _] rfl (fun (j : Nat) (r : Value) => [(47, .int .i64 ((j : Nat) : Int)), (12, r)]) (fun (j : Nat) (r : Value) w => j ≤ G[k]!.length ∧ r ≠ .slice none 0 0 ∧ St w0 M0 ([bundle (gRows k rv (fun x => G[x]!.map (tnm G.length t))), blk b7 3 (nl.map vN), blk b9 24 ((List.range G.length).map ov), row r 3 1 j ((zL ((G[k]!.take j).map (tnm G.length t))).map (Value.int .i64))]) w) (fun (j : Nat) (r : Value) => G[k]!.length - j) 0 _ ⟨rfl, rfl, trivial⟩ (⟨Nat.zero_le _, by simp, hS⟩) ?_
      clear hS; rintro j r w ⟨hj, hrn, hS⟩
      refine VC_seq ?_
      refine VC_region ?_
      refine VL_val rfl rfl rfl (yd_lss rfl rfl) ?_
      refine VL_nil ?_
      refine VE_then ?_
      refine VC_seq ?_
      refine VC_cond rfl (fun h48 => ?_) (fun h48 => ?_)
      · replace h48 := of_decide_eq_true h48
        refine VC_skip ?_
        refine VE_then ?_
        refine VC_seq ?_
        refine VC_block ?_
        refine VC_seq ?_
        refine VC_region ?_
        obtain rfl := hra (by omega)
        have hto := hg.lt k (by omega) j (by omega)
        refine VL_val rfl rfl rfl (yd_index1 rfl rfl Try.underlying24 T.sz3 (by omega)) ?_
        refine VL_val rfl rfl rfl (yd_load rfl T.one3 (hS.cell0 (hcs j (by omega)))) ?_
        refine VL_val rfl rfl rfl (yd_assign rfl) ?_
        refine VL_nil ?_
        refine VE_then ?_
        refine VC_region ?_
        refine VL_val rfl rfl rfl (yd_move rfl) ?_
        refine VL_val rfl rfl rfl (yd_move rfl) ?_
        refine VL_val rfl rfl rfl (yd_move rfl) ?_
        refine VL_val rfl rfl rfl (yd_index0 rfl rfl Try.underlying24 T.sz3 (by omega)) ?_
        refine VL_val rfl rfl rfl (yd_load rfl T.one3 (nmc (hS.get 1 rfl) hnl hnm hto)) ?_
        refine VL_rel rfl rfl rfl (yr_bslice rfl Try.underlying24 T.e3 rfl (by decide) (by decide) hS) ?_
        clear hS; rintro _ w ⟨b56, rfl, hS⟩
        refine VL_rel rfl rfl rfl (yr_append rfl rfl Try.underlying24 T.e3 rfl (by decide) hS 3 rfl (hS.get 4 rfl) rfl (fun u hu => by cases List.mem_singleton.1 (show u ∈ [vN (tnm G.length t G[k]![j]!)] from hu); rfl) (by omega) (by omega)) ?_
        clear hS; rintro v57 w ⟨hS, hnil⟩
        have hS := hS.sub (η' := _) (List.take_sublist 4 _)
        refine VL_val rfl rfl rfl (yd_assign rfl) ?_
        refine VL_nil ?_
        refine VE_block_normal ?_
        refine VE_then ?_
        refine VC_region ?_
        refine VL_val rfl rfl rfl (yd_add rfl rfl ((j + 1 : Nat) : Int) (by rw [wi64 (by omega) (by omega)]; omega)) ?_
        refine VL_val rfl rfl rfl (yd_move rfl) ?_
        refine VL_nil ?_
        refine VE_round2 (j + 1) _ ⟨rfl, rfl, rfl, rfl, rfl, rfl, rfl, rfl, rfl, rfl, rfl, rfl, rfl, rfl, rfl, rfl, rfl, rfl, trivial⟩ ⟨by omega, fun h => hrn (hnil.1 h).1, ?_⟩ (by omega)
        have e : (zL ((G[k]!.take (j + 1)).map (tnm G.length t))).map (Value.int .i64) = (zL ((G[k]!.take j).map (tnm G.length t))).map (Value.int .i64) ++ (vN (tnm G.length t G[k]![j]!)).cells.toList := by
          rw [List.take_succ_eq_append_getElem (show j < G[k]!.length by omega), ← getElem!_pos G[k]! j (by omega)]; simp [zL, vN, Value.cells]
        rw [e]; exact hS
      · replace h48 := Int.not_lt.1 (of_decide_eq_false h48)
        refine VC_exit ?_
        refine VE_then_exit (VE_then_exit (VE_block_exit ?_))
        refine VE_then ?_
        refine VC_region ?_
        obtain rfl : j = G[k]!.length := by omega
        rw [List.take_length] at hS
        obtain ⟨nb, nc, rfl, -⟩ := row_form (hS.get 3 rfl) (.inl hrn)
        have hnk := hlt k (by omega)
        refine VL_val rfl rfl rfl (yd_move rfl) ?_
        refine VL_val rfl rfl rfl (yd_move rfl) ?_
        refine VL_val rfl rfl rfl (yd_move rfl) ?_
        refine VL_val rfl rfl rfl (yd_index0 rfl rfl Try.underlying24 T.sz3 (by omega)) ?_
        refine VL_val rfl rfl rfl (yd_load rfl T.one3 (nmc (hS.get 1 rfl) hnl hnm (by omega))) ?_
        refine VL_val rfl rfl rfl (yd_move rfl) ?_
        refine VL_val rfl rfl rfl (yd_index0 rfl rfl Try.underlying22 T.sz24 (by omega)) ?_
        refine VL_store rfl rfl rfl rfl rfl T.one24 rfl hS 2 rfl (by simp; omega) ?_
        clear hS; intro w hS
        rw [map_range_set] at hS
        have hS := bundle_in (hS.front 3 rfl)
        refine VL_nil ?_
        refine VE_block_normal ?_
        refine VE_then ?_
        refine VC_region ?_
        refine VL_val rfl rfl rfl (yd_add rfl rfl ((k + 1 : Nat) : Int) (by rw [wi64 (by omega) (by omega)]; omega)) ?_
        refine VL_val rfl rfl rfl (yd_move rfl) ?_
        refine VL_nil ?_
        refine VE_round3 (k + 1) (upd ov (tnm G.length t k) (.slice (some ⟨nb, 0, none⟩) G[k]!.length nc)) (upd rv k (.slice (some ⟨nb, 0, none⟩) G[k]!.length nc)) ⟨rfl, rfl, rfl, rfl, rfl, rfl, rfl, trivial⟩ ⟨by omega, fun x hx => ?_, fun i hi h => ?_, ?_⟩ (by omega)
        · by_cases e : x = k
          · subst e; rw [upd_same, upd_same]
          · rw [upd_ne _ _ e, upd_ne _ _ (fun h => e (inj x k (by omega) (by omega) h))]; exact hov x (by omega)
        · rw [upd_ne _ _ (fun e => h k (by omega) e.symm)]; exact hon i hi (fun x hx => h x (by omega))
        · rw [← gRows_snoc (r := row (.slice (some ⟨nb, 0, none⟩) G[k]!.length nc) 3 1 G[k]!.length ((zL (G[k]!.map (tnm G.length t))).map (Value.int .i64))) (by simp)]; exact hS
    · replace h40 := Int.not_lt.1 (of_decide_eq_false h40)
      refine VC_exit ?_
      refine VE_then_exit (VE_then_exit (VE_block_exit ?_))
      refine VE_then ?_
      refine VC_seq ?_
      refine VC_region ?_
      refine VL_val rfl rfl rfl (yd_move rfl) ?_
      refine VL_val rfl rfl rfl (yd_move rfl) ?_
      refine VL_val rfl rfl rfl (yd_assign rfl) ?_
      refine VL_val rfl rfl rfl (yd_assign rfl) ?_
      refine VL_nil ?_
      refine VE_then ?_
      refine VC_ret ?_
      refine VE_ret2 (rfl) rfl rfl ?_
      obtain rfl : k = G.length := by omega
      have h0 := hS.get 0 rfl
      exact ⟨b9, b7, nl, rfl, graph_of_turned hlt inj hov hon (fun x hx => h0.1 _ (List.mem_map.2 ⟨x, by simpa using hx, rfl⟩)) (hS.get 2 rfl), hnl, hnm, hS.sub (List.Sublist.cons _ (List.Sublist.cons_cons _ (List.nil_sublist _)))⟩

theorem fnNames_calls {w0 : World} {v : Value} {G0 : List (List Int)} {t : Int} (hR : RowsAt w0 v G0) : Calls Try.prog 14 #[v, .int .i64 t] w0 (Ret fun u w' => u = .bool true ∧ RowKit.Below w0.heap.size w0 w') := by
  have hS := St.refl w0
  refine V_enter (N := 92) Try.func14 rfl Try.ntmps14 rfl ?_
  refine VC.sub (τ := [(0, _), (1, _)]) ⟨rfl, rfl, trivial⟩ ?_
  refine VC_seq ?_
  refine VC_region ?_
  refine VL_val rfl rfl rfl (yd_assign rfl) ?_
  refine VL_nil ?_
  refine VE_then ?_
  refine VC_seq ?_
  refine VC_seq ?_
  refine VC_region ?_
  refine VL_val rfl rfl rfl (yd_move rfl) ?_
  refine VL_call rfl rfl rfl rfl T.call15 rfl (zzFits1_ok (hS.rows hR)) ?_
  rintro _ _ ⟨rfl, bz, rfl, hz⟩
  refine VL_val rfl rfl rfl (yd_not rfl) ?_
  refine VL_nil ?_
  refine VE_then ?_
  refine VC_cond rfl (fun h13 => ?_) (fun h13 => ?_)
  · replace h13 := V.nt h13
    refine VC_seq ?_
    refine VC_region ?_
    refine VL_val rfl rfl rfl (yd_assign rfl) ?_
    refine VL_nil ?_
    refine VE_then ?_
    refine VC_ret ?_
    refine VE_then_ret (?_)
    refine VE_ret1 (rfl) rfl ?_
    exact ⟨rfl, hS.below⟩
  · replace h13 := V.nf h13
    have hzt := h13
    refine VC_skip ?_
    refine VE_then ?_
    refine VC_seq ?_
    refine VC_seq ?_
    refine VC_region ?_
    refine VL_val rfl rfl rfl (yd_move rfl) ?_
    refine VL_call rfl rfl rfl rfl T.call16 rfl (good_ok (hS.rows hR) (hz hzt)) ?_
    rintro _ _ ⟨rfl, bg, rfl, hgi⟩
    refine VL_val rfl rfl rfl (yd_not rfl) ?_
    refine VL_val rfl rfl rfl (yd_move rfl) ?_
    refine VL_split 17 rfl (fun h17 => ?_) (fun h17 => ?_)
    · replace h17 := V.nt h17
      refine VL_no rfl rfl rfl rfl rfl rfl rfl ?_
      refine VL_no rfl rfl rfl rfl rfl rfl rfl ?_
      refine VL_val rfl rfl rfl (yd_pick_t rfl rfl) ?_
      refine VL_val rfl rfl rfl (yd_move rfl) ?_
      refine VL_no rfl rfl rfl rfl rfl rfl rfl ?_
      refine VL_no rfl rfl rfl rfl rfl rfl rfl ?_
      refine VL_val rfl rfl rfl (yd_pick_t rfl rfl) ?_
      refine VL_nil ?_
      refine VE_then ?_
      refine VC_cond_t rfl ?_
      refine VC_seq ?_
      refine VC_region ?_
      refine VL_val rfl rfl rfl (yd_assign rfl) ?_
      refine VL_nil ?_
      refine VE_then ?_
      refine VC_ret ?_
      refine VE_then_ret (?_)
      refine VE_ret1 (rfl) rfl ?_
      exact ⟨rfl, hS.below⟩
    · replace h17 := V.nf h17
      have hgt := h17
      obtain ⟨G, hG, hg, hGl⟩ := graph_of_rows hR (hgi.1 hgt)
      have hg12 : G.length ≤ 12 := by have := (hgi.1 hgt).2.1; omega
      have hle := hg.le
      have hpos := hg.pos
      have hG0 := hG
      obtain ⟨ga, gc, gb, go, rfl, hga, hrow⟩ := hG
      obtain rfl := hga (by omega)
      refine VL_yes rfl rfl rfl rfl ?_
      refine VL_val rfl rfl rfl (yd_move rfl) ?_
      refine VL_yes rfl rfl rfl rfl ?_
      refine VL_val rfl rfl rfl (yd_lss rfl rfl) ?_
      refine VL_val rfl rfl rfl (yd_pick_f rfl rfl) ?_
      refine VL_val rfl rfl rfl (yd_move rfl) ?_
      refine VL_split 21 rfl (fun h21 => ?_) (fun h21 => ?_)
      · replace h21 := of_decide_eq_true h21
        refine VL_no rfl rfl rfl rfl rfl rfl rfl ?_
        refine VL_no rfl rfl rfl rfl rfl rfl rfl ?_
        refine VL_val rfl rfl rfl (yd_pick_t rfl rfl) ?_
        refine VL_nil ?_
        refine VE_then ?_
        refine VC_cond_t rfl ?_
        refine VC_seq ?_
        refine VC_region ?_
        refine VL_val rfl rfl rfl (yd_assign rfl) ?_
        refine VL_nil ?_
        refine VE_then ?_
        refine VC_ret ?_
        refine VE_then_ret (?_)
        refine VE_ret1 (rfl) rfl ?_
        exact ⟨rfl, hS.below⟩
      · replace h21 := Int.not_lt.1 (of_decide_eq_false h21)
        obtain ⟨tn, rfl⟩ : ∃ tn : Nat, t = tn := ⟨t.toNat, by omega⟩
        have hlt : ∀ x, x < G.length → tnm G.length tn x < G.length := fun x hx => tnm_lt hpos hx
        have hg2 := turnG_gd hg hlt
        have hiso := turnG_iso hg hlt (fun x y hx hy => tnm_inj hx hy) rfl
        have hl2 := hiso.len
        refine VL_yes rfl rfl rfl rfl ?_
        refine VL_val rfl rfl rfl (yd_move rfl) ?_
        refine VL_yes rfl rfl rfl rfl ?_
        refine VL_val rfl rfl rfl (yd_gtr rfl rfl) ?_
        refine VL_val rfl rfl rfl (yd_pick_f rfl rfl) ?_
        refine VL_nil ?_
        refine VE_then ?_
        refine VC_cond rfl (fun h24 => ?_) (fun h24 => ?_)
        · replace h24 := of_decide_eq_true h24
          refine VC_seq ?_
          refine VC_region ?_
          refine VL_val rfl rfl rfl (yd_assign rfl) ?_
          refine VL_nil ?_
          refine VE_then ?_
          refine VC_ret ?_
          refine VE_then_ret (?_)
          refine VE_ret1 (rfl) rfl ?_
          exact ⟨rfl, hS.below⟩
        · replace h24 := Int.not_lt.1 (of_decide_eq_false h24)
          refine VC_skip ?_
          refine VE_then ?_
          refine VC_seq ?_
          refine VC_region ?_
          refine VL_val rfl rfl rfl (yd_move rfl) ?_
          refine VL_val rfl rfl rfl (yd_move rfl) ?_
          refine VL_call rfl rfl rfl rfl T.call38 rfl (turned_ok (hS.graph hG0) hg (by omega)) ?_
          rintro _ w ⟨ob, bn, nl, rfl, hG2, hnl, hnm, hR2⟩
          have hS := hS.call0 hR2
          refine VL_val rfl rfl rfl (yd_move rfl) ?_
          refine VL_val rfl rfl rfl (yd_extract rfl rfl) ?_
          refine VL_val rfl rfl rfl (yd_extract rfl rfl) ?_
          refine VL_val rfl rfl rfl (yd_assign rfl) ?_
          refine VL_val rfl rfl rfl (yd_assign rfl) ?_
          refine VL_nil ?_
          refine VE_then ?_
          refine VC_seq ?_
          refine VC_region ?_
          refine VL_val rfl rfl rfl (yd_move rfl) ?_
          refine VL_call rfl rfl rfl rfl T.call37 rfl (implDominators_ok (hS.graph hG0) hg) ?_
          rintro uL w ⟨L, hid, hR1⟩
          have hS := hS.call0 hR1
          have hidl := hid.len
          have hG2 := hR1.graph hG2
          obtain ⟨ib, ic, rfl, -⟩ := row_form (hS.get 1 rfl) (.inr (by omega))
          refine VL_val rfl rfl rfl (yd_move rfl) ?_
          refine VL_call rfl rfl rfl rfl T.call37 rfl (implDominators_ok hG2 hg2) ?_
          rintro uL2 w ⟨L2, hid2, hR5⟩
          have hS := hS.call0 hR5
          have hid2l := hid2.len
          obtain ⟨jb, jc, rfl, -⟩ := row_form (hS.get 2 rfl) (.inr (by omega))
          have hLL : ∀ x, x < G.length → L2[tnm G.length tn x]! = L[x]!.map (tnm G.length tn) := fun x hx => hiso.idoms hg hid hid2 hx
          refine VL_val rfl rfl rfl (yd_assign rfl) ?_
          refine VL_val rfl rfl rfl (yd_assign rfl) ?_
          refine VL_nil ?_
          refine VE_then ?_
          refine VC_seq ?_
          refine VC_seq ?_
          refine VC_region ?_
          refine VL_val rfl rfl rfl (yd_move rfl) ?_
          refine VL_val rfl rfl rfl (yd_len rfl Try.underlying24) ?_
          refine VL_val rfl rfl rfl (yd_move rfl) ?_
          refine VL_val rfl rfl rfl (yd_len rfl Try.underlying22) ?_
          refine VL_val rfl rfl rfl (yd_neq rfl rfl) ?_
          refine VL_val rfl rfl rfl (yd_move rfl) ?_
          refine VL_split 40 rfl (fun h40 => ?_) (fun h40 => ?_)
          · replace h40 := of_decide_eq_true h40
            exact absurd (by omega) h40
          · replace h40 := Decidable.not_not.1 (of_decide_eq_false h40)
            refine VL_yes rfl rfl rfl rfl ?_
            refine VL_val rfl rfl rfl (yd_move rfl) ?_
            refine VL_yes rfl rfl rfl rfl ?_
            refine VL_val rfl rfl rfl (yd_len rfl Try.underlying24) ?_
            refine VL_yes rfl rfl rfl rfl ?_
            refine VL_val rfl rfl rfl (yd_move rfl) ?_
            refine VL_yes rfl rfl rfl rfl ?_
            refine VL_val rfl rfl rfl (yd_len rfl Try.underlying22) ?_
            refine VL_yes rfl rfl rfl rfl ?_
            refine VL_val rfl rfl rfl (yd_neq rfl rfl) ?_
            refine VL_val rfl rfl rfl (yd_pick_f rfl rfl) ?_
            refine VL_nil ?_
            refine VE_then ?_
            refine VC_cond rfl (fun h46 => ?_) (fun h46 => ?_)
            · replace h46 := of_decide_eq_true h46
              exact absurd (by omega) h46
            · replace h46 := Decidable.not_not.1 (of_decide_eq_false h46)
              refine VC_skip ?_
              refine VE_then ?_
              refine VC_seq ?_
              refine VC_seq ?_
              refine VC_region ?_
              refine VL_val rfl rfl rfl (yd_move rfl) ?_
              refine VL_val rfl rfl rfl (yd_len rfl Try.underlying24) ?_
              refine VL_val rfl rfl rfl (yd_move rfl) ?_
              refine VL_nil ?_
              refine VE_then ?_
              refine VC_block ?_
              refine VC_loop1 [6, 8, 47, 48] [_, _, _, _] rfl (fun (k : Nat) => [(49, .int .i64 ((k : Nat) : Int))]) (fun (k : Nat) w => k ≤ G.length ∧ St w0 M0 [blk bn 3 (nl.map vN), row (.slice (some ⟨ib, 0, none⟩) L.length ic) 3 1 L.length ((L.map nO).map (Value.int .i64)), row (.slice (some ⟨jb, 0, none⟩) L2.length jc) 3 1 L2.length ((L2.map nO).map (Value.int .i64))] w) (fun (k : Nat) => G.length - k) 0 ⟨rfl, trivial⟩ (⟨Nat.zero_le _, hS⟩) ?_
              clear hS; rintro k w ⟨hk, hS⟩
              refine VC_seq ?_
              refine VC_region ?_
              refine VL_val rfl rfl rfl (yd_lss rfl rfl) ?_
              refine VL_nil ?_
              refine VE_then ?_
              refine VC_seq ?_
              refine VC_cond rfl (fun h50 => ?_) (fun h50 => ?_)
              · replace h50 := of_decide_eq_true h50
                refine VC_skip ?_
                refine VE_then ?_
                refine VC_seq ?_
                refine VC_block ?_
                refine VC_seq ?_
                refine VC_region ?_
                obtain ⟨z, hz⟩ : ∃ z, z = nO L[k]! := ⟨_, rfl⟩
                have hkl : k < G.length := by omega
                have hnk := hlt k hkl
                have hLk := hLL k hkl
                refine VL_val rfl rfl rfl (yd_move rfl) ?_
                refine VL_val rfl rfl rfl (yd_index0 rfl rfl Try.underlying24 T.sz3 (by omega)) ?_
                refine VL_val rfl rfl rfl (yd_load rfl T.one3 (show _ = some (.int .i64 z) by rw [hz]; exact got_cell (hS.get 1 rfl) (by omega))) ?_
                refine VL_val rfl rfl rfl (yd_assign rfl) ?_
                refine VL_val rfl rfl rfl (yd_assign rfl) ?_
                refine VL_nil ?_
                refine VE_then ?_
                refine VC_seq ?_
                refine VC_draw T.mixed hS ?_
                clear hS; intro w hS
                refine VA_take (i := 0) rfl rfl rfl rfl (by kernel_rfl) (by kernel_rfl) (by kernel_rfl) #[true, false, false, false, false, false, false, false, false, false, false, false, false, false, false, false, false, false, false, false, false, false, false, false, false, false, false, false, false, false, false, false, false, false, false, false, false] (by kernel_rfl) (fun _ _ _ _ h => h) (fun w hS => yd_move rfl) ?_
                refine VA_take (i := 1) rfl rfl rfl rfl (by kernel_rfl) (by kernel_rfl) (by kernel_rfl) #[true, true, false, false, false, false, false, false, false, false, false, false, false, false, false, false, false, false, false, false, false, false, false, false, false, false, false, false, false, false, false, false, false, false, false, false, false] (by kernel_rfl) (fun _ _ _ _ h => h) (fun w hS => yd_lss rfl rfl) ?_
                refine VA_take (i := 2) rfl rfl rfl rfl (by kernel_rfl) (by kernel_rfl) (by kernel_rfl) #[true, true, true, false, false, false, false, false, false, false, false, false, false, false, false, false, false, false, false, false, false, false, false, false, false, false, false, false, false, false, false, false, false, false, false, false, false] (by kernel_rfl) (fun _ _ _ _ h => h) (fun w hS => yd_move rfl) ?_
                refine VA_split 56 rfl (fun h56 => ?_) (fun h56 => ?_)
                · replace h56 := of_decide_eq_true h56
                  have hn : L[k]! = none := by
                    cases h : L[k]! with
                    | none => rfl
                    | some d => rw [h] at hz; have : z = (d : Int) := hz; omega
                  have hLkn : L2[tnm G.length tn k]! = none := by rw [hLk, hn]; rfl
                  have hzn : z = -1 := by rw [hz, hn]; rfl
                  refine VA_takeG (i := 3) rfl rfl rfl rfl rfl rfl rfl (by kernel_rfl) (by kernel_rfl) (by kernel_rfl) #[true, true, true, true, false, false, false, false, false, false, false, false, false, false, false, false, false, false, false, false, false, false, false, false, false, false, false, false, false, false, false, false, false, false, false, false, false] (by kernel_rfl) (fun _ _ _ _ h => h) (fun w hS => yd_move rfl) ?_
                  refine VA_takeG (i := 4) rfl rfl rfl rfl rfl rfl rfl (by kernel_rfl) (by kernel_rfl) (by kernel_rfl) #[true, true, true, true, true, false, false, false, false, false, false, false, false, false, false, false, false, false, false, false, false, false, false, false, false, false, false, false, false, false, false, false, false, false, false, false, false] (by kernel_rfl) (fun _ _ _ _ h => h) (fun w hS => yd_move rfl) ?_
                  refine VA_takeG (i := 5) rfl rfl rfl rfl rfl rfl rfl (by kernel_rfl) (by kernel_rfl) (by kernel_rfl) #[true, true, true, true, true, true, false, false, false, false, false, false, false, false, false, false, false, false, false, false, false, false, false, false, false, false, false, false, false, false, false, false, false, false, false, false, false] (by kernel_rfl) (fun _ _ _ _ h => h) (fun w hS => yd_move rfl) ?_
                  refine VA_takeG (i := 6) rfl rfl rfl rfl rfl rfl rfl (by kernel_rfl) (by kernel_rfl) (by kernel_rfl) #[true, true, true, true, true, true, true, false, false, false, false, false, false, false, false, false, false, false, false, false, false, false, false, false, false, false, false, false, false, false, false, false, false, false, false, false, false] (by kernel_rfl) (fun _ _ _ _ h => h) (fun w hS => yd_index0 rfl rfl Try.underlying24 T.sz3 (by omega)) ?_
                  refine VA_takeG (i := 7) rfl rfl rfl rfl rfl rfl rfl (by kernel_rfl) (by kernel_rfl) (by kernel_rfl) #[true, true, true, true, true, true, true, true, false, false, false, false, false, false, false, false, false, false, false, false, false, false, false, false, false, false, false, false, false, false, false, false, false, false, false, false, false] (by kernel_rfl) (fun _ _ _ _ h => h) (fun w hS => yd_load rfl T.one3 (nmc (hS.get 0 rfl) hnl hnm hkl)) ?_
                  refine VA_takeG (i := 8) rfl rfl rfl rfl rfl rfl rfl (by kernel_rfl) (by kernel_rfl) (by kernel_rfl) #[true, true, true, true, true, true, true, true, true, false, false, false, false, false, false, false, false, false, false, false, false, false, false, false, false, false, false, false, false, false, false, false, false, false, false, false, false] (by kernel_rfl) (fun _ _ _ _ h => h) (fun w hS => yd_index0 rfl rfl Try.underlying24 T.sz3 (by omega)) ?_
                  refine VA_takeG (i := 9) rfl rfl rfl rfl rfl rfl rfl (by kernel_rfl) (by kernel_rfl) (by kernel_rfl) #[true, true, true, true, true, true, true, true, true, true, false, false, false, false, false, false, false, false, false, false, false, false, false, false, false, false, false, false, false, false, false, false, false, false, false, false, false] (by kernel_rfl) (fun _ _ _ _ h => h) (fun w hS => yd_load rfl T.one3 (got_cell (hS.get 2 rfl) (by omega))) ?_
                  refine VA_takeG (i := 10) rfl rfl rfl rfl rfl rfl rfl (by kernel_rfl) (by kernel_rfl) (by kernel_rfl) #[true, true, true, true, true, true, true, true, true, true, true, false, false, false, false, false, false, false, false, false, false, false, false, false, false, false, false, false, false, false, false, false, false, false, false, false, false] (by kernel_rfl) (fun _ _ _ _ h => h) (fun w hS => yd_move rfl) ?_
                  refine VA_takeG (i := 11) rfl rfl rfl rfl rfl rfl rfl (by kernel_rfl) (by kernel_rfl) (by kernel_rfl) #[true, true, true, true, true, true, true, true, true, true, true, true, false, false, false, false, false, false, false, false, false, false, false, false, false, false, false, false, false, false, false, false, false, false, false, false, false] (by kernel_rfl) (fun _ _ _ _ h => h) (fun w hS => yd_neq rfl rfl) ?_
                  refine VA_take (i := 12) rfl rfl rfl rfl (by kernel_rfl) (by kernel_rfl) (by kernel_rfl) #[true, true, true, true, true, true, true, true, true, true, true, true, true, false, false, false, false, false, false, false, false, false, false, false, false, false, false, false, false, false, false, false, false, false, false, false, false] (by kernel_rfl) (fun _ _ _ _ h => h) (fun w hS => yd_pick_t rfl rfl) ?_
                  refine VA_take (i := 13) rfl rfl rfl rfl (by kernel_rfl) (by kernel_rfl) (by kernel_rfl) #[true, true, true, true, true, true, true, true, true, true, true, true, true, true, false, false, false, false, false, false, false, false, false, false, false, false, false, false, false, false, false, false, false, false, false, false, false] (by kernel_rfl) (fun _ _ _ _ h => h) (fun w hS => yd_move rfl) ?_
                  refine VA_split 67 rfl (fun h67 => ?_) (fun h67 => ?_)
                  · replace h67 := of_decide_eq_true h67
                    exact absurd (by rw [hLkn, hzn]; rfl) h67
                  · replace h67 := Decidable.not_not.1 (of_decide_eq_false h67)
                    refine VA_takeG (i := 14) rfl rfl rfl rfl rfl rfl rfl (by kernel_rfl) (by kernel_rfl) (by kernel_rfl) #[true, true, true, true, true, true, true, true, true, true, true, true, true, true, true, false, false, false, false, false, false, false, false, false, false, false, false, false, false, false, false, false, false, false, false, false, false] (by kernel_rfl) (fun _ _ _ _ h => h) (fun w hS => yd_move rfl) ?_
                    refine VA_takeG (i := 15) rfl rfl rfl rfl rfl rfl rfl (by kernel_rfl) (by kernel_rfl) (by kernel_rfl) #[true, true, true, true, true, true, true, true, true, true, true, true, true, true, true, true, false, false, false, false, false, false, false, false, false, false, false, false, false, false, false, false, false, false, false, false, false] (by kernel_rfl) (fun _ _ _ _ h => h) (fun w hS => yd_move rfl) ?_
                    refine VA_takeG (i := 16) rfl rfl rfl rfl rfl rfl rfl (by kernel_rfl) (by kernel_rfl) (by kernel_rfl) #[true, true, true, true, true, true, true, true, true, true, true, true, true, true, true, true, true, false, false, false, false, false, false, false, false, false, false, false, false, false, false, false, false, false, false, false, false] (by kernel_rfl) (fun _ _ _ _ h => h) (fun w hS => yd_len rfl Try.underlying24) ?_
                    refine VA_takeG (i := 17) rfl rfl rfl rfl rfl rfl rfl (by kernel_rfl) (by kernel_rfl) (by kernel_rfl) #[true, true, true, true, true, true, true, true, true, true, true, true, true, true, true, true, true, true, false, false, false, false, false, false, false, false, false, false, false, false, false, false, false, false, false, false, false] (by kernel_rfl) (fun _ _ _ _ h => h) (fun w hS => yd_geq rfl rfl) ?_
                    refine VA_take (i := 18) rfl rfl rfl rfl (by kernel_rfl) (by kernel_rfl) (by kernel_rfl) #[true, true, true, true, true, true, true, true, true, true, true, true, true, true, true, true, true, true, true, false, false, false, false, false, false, false, false, false, false, false, false, false, false, false, false, false, false] (by kernel_rfl) (fun _ _ _ _ h => h) (fun w hS => yd_pick_f rfl rfl) ?_
                    refine VA_take (i := 19) rfl rfl rfl rfl (by kernel_rfl) (by kernel_rfl) (by kernel_rfl) #[true, true, true, true, true, true, true, true, true, true, true, true, true, true, true, true, true, true, true, true, false, false, false, false, false, false, false, false, false, false, false, false, false, false, false, false, false] (by kernel_rfl) (fun _ _ _ _ h => h) (fun w hS => yd_move rfl) ?_
                    refine VA_split 73 rfl (fun h73 => ?_) (fun h73 => ?_)
                    · replace h73 := of_decide_eq_true h73
                      exfalso
                      cases h : L[k]! with
                      | none => rw [h] at hz; have : z = -1 := hz; omega
                      | some d => rw [h] at hz; have : z = (d : Int) := hz; have := hid.lt hg hkl h; omega
                    · replace h73 := Int.not_le.1 (of_decide_eq_false h73)
                      refine VA_takeG (i := 20) rfl rfl rfl rfl rfl rfl rfl (by kernel_rfl) (by kernel_rfl) (by kernel_rfl) #[true, true, true, true, true, true, true, true, true, true, true, true, true, true, true, true, true, true, true, true, true, false, false, false, false, false, false, false, false, false, false, false, false, false, false, false, false] (by kernel_rfl) (fun _ _ _ _ h => h) (fun w hS => yd_move rfl) ?_
                      refine VA_takeG (i := 21) rfl rfl rfl rfl rfl rfl rfl (by kernel_rfl) (by kernel_rfl) (by kernel_rfl) #[true, true, true, true, true, true, true, true, true, true, true, true, true, true, true, true, true, true, true, true, true, true, false, false, false, false, false, false, false, false, false, false, false, false, false, false, false] (by kernel_rfl) (fun _ _ _ _ h => h) (fun w hS => yd_geq rfl rfl) ?_
                      refine VA_takeG (i := 22) rfl rfl rfl rfl rfl rfl rfl (by kernel_rfl) (by kernel_rfl) (by kernel_rfl) #[true, true, true, true, true, true, true, true, true, true, true, true, true, true, true, true, true, true, true, true, true, true, true, false, false, false, false, false, false, false, false, false, false, false, false, false, false] (by kernel_rfl) (fun _ _ _ _ h => h) (fun w hS => yd_move rfl) ?_
                      refine VA_split 76 rfl (fun h76 => ?_) (fun h76 => ?_)
                      · replace h76 := of_decide_eq_true h76
                        obtain ⟨d, hd⟩ : ∃ d, L[k]! = some d := by
                          cases h : L[k]! with
                          | none => rw [h] at hz; have : z = -1 := hz; omega
                          | some d => exact ⟨d, rfl⟩
                        have hdl := hid.lt hg hkl hd
                        have hzd : z = ((d : Nat) : Int) := by rw [hz, hd]; rfl
                        subst hzd
                        refine VA_takeG (i := 23) rfl rfl rfl rfl rfl rfl rfl (by kernel_rfl) (by kernel_rfl) (by kernel_rfl) #[true, true, true, true, true, true, true, true, true, true, true, true, true, true, true, true, true, true, true, true, true, true, true, true, false, false, false, false, false, false, false, false, false, false, false, false, false] (by kernel_rfl) (fun _ _ _ _ h => h) (fun w hS => yd_move rfl) ?_
                        refine VA_takeG (i := 24) rfl rfl rfl rfl rfl rfl rfl (by kernel_rfl) (by kernel_rfl) (by kernel_rfl) #[true, true, true, true, true, true, true, true, true, true, true, true, true, true, true, true, true, true, true, true, true, true, true, true, true, false, false, false, false, false, false, false, false, false, false, false, false] (by kernel_rfl) (fun _ _ _ _ h => h) (fun w hS => yd_move rfl) ?_
                        refine VA_takeG (i := 25) rfl rfl rfl rfl rfl rfl rfl (by kernel_rfl) (by kernel_rfl) (by kernel_rfl) #[true, true, true, true, true, true, true, true, true, true, true, true, true, true, true, true, true, true, true, true, true, true, true, true, true, true, false, false, false, false, false, false, false, false, false, false, false] (by kernel_rfl) (fun _ _ _ _ h => h) (fun w hS => yd_move rfl) ?_
                        refine VA_takeG (i := 26) rfl rfl rfl rfl rfl rfl rfl (by kernel_rfl) (by kernel_rfl) (by kernel_rfl) #[true, true, true, true, true, true, true, true, true, true, true, true, true, true, true, true, true, true, true, true, true, true, true, true, true, true, true, false, false, false, false, false, false, false, false, false, false] (by kernel_rfl) (fun _ _ _ _ h => h) (fun w hS => yd_index0 rfl rfl Try.underlying24 T.sz3 (by omega)) ?_
                        refine VA_takeG (i := 27) rfl rfl rfl rfl rfl rfl rfl (by kernel_rfl) (by kernel_rfl) (by kernel_rfl) #[true, true, true, true, true, true, true, true, true, true, true, true, true, true, true, true, true, true, true, true, true, true, true, true, true, true, true, true, false, false, false, false, false, false, false, false, false] (by kernel_rfl) (fun _ _ _ _ h => h) (fun w hS => yd_load rfl T.one3 (nmc (hS.get 0 rfl) hnl hnm hkl)) ?_
                        refine VA_takeG (i := 28) rfl rfl rfl rfl rfl rfl rfl (by kernel_rfl) (by kernel_rfl) (by kernel_rfl) #[true, true, true, true, true, true, true, true, true, true, true, true, true, true, true, true, true, true, true, true, true, true, true, true, true, true, true, true, true, false, false, false, false, false, false, false, false] (by kernel_rfl) (fun _ _ _ _ h => h) (fun w hS => yd_index0 rfl rfl Try.underlying24 T.sz3 (by omega)) ?_
                        refine VA_takeG (i := 29) rfl rfl rfl rfl rfl rfl rfl (by kernel_rfl) (by kernel_rfl) (by kernel_rfl) #[true, true, true, true, true, true, true, true, true, true, true, true, true, true, true, true, true, true, true, true, true, true, true, true, true, true, true, true, true, true, false, false, false, false, false, false, false] (by kernel_rfl) (fun _ _ _ _ h => h) (fun w hS => yd_load rfl T.one3 (got_cell (hS.get 2 rfl) (by omega))) ?_
                        refine VA_takeG (i := 30) rfl rfl rfl rfl rfl rfl rfl (by kernel_rfl) (by kernel_rfl) (by kernel_rfl) #[true, true, true, true, true, true, true, true, true, true, true, true, true, true, true, true, true, true, true, true, true, true, true, true, true, true, true, true, true, true, true, false, false, false, false, false, false] (by kernel_rfl) (fun _ _ _ _ h => h) (fun w hS => yd_move rfl) ?_
                        refine VA_takeG (i := 31) rfl rfl rfl rfl rfl rfl rfl (by kernel_rfl) (by kernel_rfl) (by kernel_rfl) #[true, true, true, true, true, true, true, true, true, true, true, true, true, true, true, true, true, true, true, true, true, true, true, true, true, true, true, true, true, true, true, true, false, false, false, false, false] (by kernel_rfl) (fun _ _ _ _ h => h) (fun w hS => yd_move rfl) ?_
                        refine VA_takeG (i := 32) rfl rfl rfl rfl rfl rfl rfl (by kernel_rfl) (by kernel_rfl) (by kernel_rfl) #[true, true, true, true, true, true, true, true, true, true, true, true, true, true, true, true, true, true, true, true, true, true, true, true, true, true, true, true, true, true, true, true, true, false, false, false, false] (by kernel_rfl) (fun _ _ _ _ h => h) (fun w hS => yd_index0 rfl rfl Try.underlying24 T.sz3 (by omega)) ?_
                        refine VA_takeG (i := 33) rfl rfl rfl rfl rfl rfl rfl (by kernel_rfl) (by kernel_rfl) (by kernel_rfl) #[true, true, true, true, true, true, true, true, true, true, true, true, true, true, true, true, true, true, true, true, true, true, true, true, true, true, true, true, true, true, true, true, true, true, false, false, false] (by kernel_rfl) (fun _ _ _ _ h => h) (fun w hS => yd_load rfl T.one3 (nmc (hS.get 0 rfl) hnl hnm hdl)) ?_
                        refine VA_takeG (i := 34) rfl rfl rfl rfl rfl rfl rfl (by kernel_rfl) (by kernel_rfl) (by kernel_rfl) #[true, true, true, true, true, true, true, true, true, true, true, true, true, true, true, true, true, true, true, true, true, true, true, true, true, true, true, true, true, true, true, true, true, true, true, false, false] (by kernel_rfl) (fun _ _ _ _ h => h) (fun w hS => yd_neq rfl rfl) ?_
                        refine VA_takeG (i := 35) rfl rfl rfl rfl rfl rfl rfl (by kernel_rfl) (by kernel_rfl) (by kernel_rfl) #[true, true, true, true, true, true, true, true, true, true, true, true, true, true, true, true, true, true, true, true, true, true, true, true, true, true, true, true, true, true, true, true, true, true, true, true, false] (by kernel_rfl) (fun _ _ _ _ h => h) (fun w hS => yd_pick_t rfl rfl) ?_
                        refine VA_take (i := 36) rfl rfl rfl rfl (by kernel_rfl) (by kernel_rfl) (by kernel_rfl) #[true, true, true, true, true, true, true, true, true, true, true, true, true, true, true, true, true, true, true, true, true, true, true, true, true, true, true, true, true, true, true, true, true, true, true, true, true] (by kernel_rfl) (fun _ _ _ _ h => h) (fun w hS => yd_pick_f rfl rfl) ?_
                        refine VA_done (by kernel_rfl) hS ?_
                        refine VE_then ?_
                        refine VC_cond rfl (fun h90 => ?_) (fun h90 => ?_)
                        · replace h90 := of_decide_eq_true h90
                          exact absurd (by rw [hLk, hd]; rfl) h90
                        · replace h90 := Decidable.not_not.1 (of_decide_eq_false h90)
                          refine VC_skip ?_
                          refine VE_block_normal ?_
                          refine VE_then ?_
                          refine VC_region ?_
                          refine VL_val rfl rfl rfl (yd_add rfl rfl ((k + 1 : Nat) : Int) (by rw [wi64 (by omega) (by omega)]; omega)) ?_
                          refine VL_val rfl rfl rfl (yd_move rfl) ?_
                          refine VL_nil ?_
                          exact VE_round1 (k + 1) ⟨rfl, rfl, rfl, rfl, rfl, trivial⟩ ⟨by omega, hS⟩ (by omega)
                      · replace h76 := Int.not_le.1 (of_decide_eq_false h76)
                        refine VA_no (i := 23) rfl rfl rfl rfl rfl rfl rfl rfl (by kernel_rfl) (by kernel_rfl) (by kernel_rfl) #[true, true, true, true, true, true, true, true, true, true, true, true, true, true, true, true, true, true, true, true, true, true, true, true, false, false, false, false, false, false, false, false, false, false, false, false, false] (by kernel_rfl) (fun _ _ _ _ h => h) ?_
                        refine VA_no (i := 24) rfl rfl rfl rfl rfl rfl rfl rfl (by kernel_rfl) (by kernel_rfl) (by kernel_rfl) #[true, true, true, true, true, true, true, true, true, true, true, true, true, true, true, true, true, true, true, true, true, true, true, true, true, false, false, false, false, false, false, false, false, false, false, false, false] (by kernel_rfl) (fun _ _ _ _ h => h) ?_
                        refine VA_no (i := 25) rfl rfl rfl rfl rfl rfl rfl rfl (by kernel_rfl) (by kernel_rfl) (by kernel_rfl) #[true, true, true, true, true, true, true, true, true, true, true, true, true, true, true, true, true, true, true, true, true, true, true, true, true, true, false, false, false, false, false, false, false, false, false, false, false] (by kernel_rfl) (fun _ _ _ _ h => h) ?_
                        refine VA_no (i := 26) rfl rfl rfl rfl rfl rfl rfl rfl (by kernel_rfl) (by kernel_rfl) (by kernel_rfl) #[true, true, true, true, true, true, true, true, true, true, true, true, true, true, true, true, true, true, true, true, true, true, true, true, true, true, true, false, false, false, false, false, false, false, false, false, false] (by kernel_rfl) (fun _ _ _ _ h => h) ?_
                        refine VA_no (i := 27) rfl rfl rfl rfl rfl rfl rfl rfl (by kernel_rfl) (by kernel_rfl) (by kernel_rfl) #[true, true, true, true, true, true, true, true, true, true, true, true, true, true, true, true, true, true, true, true, true, true, true, true, true, true, true, true, false, false, false, false, false, false, false, false, false] (by kernel_rfl) (fun _ _ _ _ h => h) ?_
                        refine VA_no (i := 28) rfl rfl rfl rfl rfl rfl rfl rfl (by kernel_rfl) (by kernel_rfl) (by kernel_rfl) #[true, true, true, true, true, true, true, true, true, true, true, true, true, true, true, true, true, true, true, true, true, true, true, true, true, true, true, true, true, false, false, false, false, false, false, false, false] (by kernel_rfl) (fun _ _ _ _ h => h) ?_
                        refine VA_no (i := 29) rfl rfl rfl rfl rfl rfl rfl rfl (by kernel_rfl) (by kernel_rfl) (by kernel_rfl) #[true, true, true, true, true, true, true, true, true, true, true, true, true, true, true, true, true, true, true, true, true, true, true, true, true, true, true, true, true, true, false, false, false, false, false, false, false] (by kernel_rfl) (fun _ _ _ _ h => h) ?_
                        refine VA_no (i := 30) rfl rfl rfl rfl rfl rfl rfl rfl (by kernel_rfl) (by kernel_rfl) (by kernel_rfl) #[true, true, true, true, true, true, true, true, true, true, true, true, true, true, true, true, true, true, true, true, true, true, true, true, true, true, true, true, true, true, true, false, false, false, false, false, false] (by kernel_rfl) (fun _ _ _ _ h => h) ?_
                        refine VA_no (i := 31) rfl rfl rfl rfl rfl rfl rfl rfl (by kernel_rfl) (by kernel_rfl) (by kernel_rfl) #[true, true, true, true, true, true, true, true, true, true, true, true, true, true, true, true, true, true, true, true, true, true, true, true, true, true, true, true, true, true, true, true, false, false, false, false, false] (by kernel_rfl) (fun _ _ _ _ h => h) ?_
                        refine VA_no (i := 32) rfl rfl rfl rfl rfl rfl rfl rfl (by kernel_rfl) (by kernel_rfl) (by kernel_rfl) #[true, true, true, true, true, true, true, true, true, true, true, true, true, true, true, true, true, true, true, true, true, true, true, true, true, true, true, true, true, true, true, true, true, false, false, false, false] (by kernel_rfl) (fun _ _ _ _ h => h) ?_
                        refine VA_no (i := 33) rfl rfl rfl rfl rfl rfl rfl rfl (by kernel_rfl) (by kernel_rfl) (by kernel_rfl) #[true, true, true, true, true, true, true, true, true, true, true, true, true, true, true, true, true, true, true, true, true, true, true, true, true, true, true, true, true, true, true, true, true, true, false, false, false] (by kernel_rfl) (fun _ _ _ _ h => h) ?_
                        refine VA_no (i := 34) rfl rfl rfl rfl rfl rfl rfl rfl (by kernel_rfl) (by kernel_rfl) (by kernel_rfl) #[true, true, true, true, true, true, true, true, true, true, true, true, true, true, true, true, true, true, true, true, true, true, true, true, true, true, true, true, true, true, true, true, true, true, true, false, false] (by kernel_rfl) (fun _ _ _ _ h => h) ?_
                        refine VA_takeG (i := 35) rfl rfl rfl rfl rfl rfl rfl (by kernel_rfl) (by kernel_rfl) (by kernel_rfl) #[true, true, true, true, true, true, true, true, true, true, true, true, true, true, true, true, true, true, true, true, true, true, true, true, true, true, true, true, true, true, true, true, true, true, true, true, false] (by kernel_rfl) (fun _ _ _ _ h => h) (fun w hS => yd_pick_f rfl rfl) ?_
                        refine VA_take (i := 36) rfl rfl rfl rfl (by kernel_rfl) (by kernel_rfl) (by kernel_rfl) #[true, true, true, true, true, true, true, true, true, true, true, true, true, true, true, true, true, true, true, true, true, true, true, true, true, true, true, true, true, true, true, true, true, true, true, true, true] (by kernel_rfl) (fun _ _ _ _ h => h) (fun w hS => yd_pick_f rfl rfl) ?_
                        refine VA_done (by kernel_rfl) hS ?_
                        refine VE_then ?_
                        refine VC_cond_f rfl ?_
                        refine VC_skip ?_
                        refine VE_block_normal ?_
                        refine VE_then ?_
                        refine VC_region ?_
                        refine VL_val rfl rfl rfl (yd_add rfl rfl ((k + 1 : Nat) : Int) (by rw [wi64 (by omega) (by omega)]; omega)) ?_
                        refine VL_val rfl rfl rfl (yd_move rfl) ?_
                        refine VL_nil ?_
                        exact VE_round1 (k + 1) ⟨rfl, rfl, rfl, rfl, rfl, trivial⟩ ⟨by omega, hS⟩ (by omega)
                · replace h56 := Int.not_lt.1 (of_decide_eq_false h56)
                  refine VA_no (i := 3) rfl rfl rfl rfl rfl rfl rfl rfl (by kernel_rfl) (by kernel_rfl) (by kernel_rfl) #[true, true, true, true, false, false, false, false, false, false, false, false, false, false, false, false, false, false, false, false, false, false, false, false, false, false, false, false, false, false, false, false, false, false, false, false, false] (by kernel_rfl) (fun _ _ _ _ h => h) ?_
                  refine VA_no (i := 4) rfl rfl rfl rfl rfl rfl rfl rfl (by kernel_rfl) (by kernel_rfl) (by kernel_rfl) #[true, true, true, true, true, false, false, false, false, false, false, false, false, false, false, false, false, false, false, false, false, false, false, false, false, false, false, false, false, false, false, false, false, false, false, false, false] (by kernel_rfl) (fun _ _ _ _ h => h) ?_
                  refine VA_no (i := 5) rfl rfl rfl rfl rfl rfl rfl rfl (by kernel_rfl) (by kernel_rfl) (by kernel_rfl) #[true, true, true, true, true, true, false, false, false, false, false, false, false, false, false, false, false, false, false, false, false, false, false, false, false, false, false, false, false, false, false, false, false, false, false, false, false] (by kernel_rfl) (fun _ _ _ _ h => h) ?_
                  refine VA_no (i := 6) rfl rfl rfl rfl rfl rfl rfl rfl (by kernel_rfl) (by kernel_rfl) (by kernel_rfl) #[true, true, true, true, true, true, true, false, false, false, false, false, false, false, false, false, false, false, false, false, false, false, false, false, false, false, false, false, false, false, false, false, false, false, false, false, false] (by kernel_rfl) (fun _ _ _ _ h => h) ?_
                  refine VA_no (i := 7) rfl rfl rfl rfl rfl rfl rfl rfl (by kernel_rfl) (by kernel_rfl) (by kernel_rfl) #[true, true, true, true, true, true, true, true, false, false, false, false, false, false, false, false, false, false, false, false, false, false, false, false, false, false, false, false, false, false, false, false, false, false, false, false, false] (by kernel_rfl) (fun _ _ _ _ h => h) ?_
                  refine VA_no (i := 8) rfl rfl rfl rfl rfl rfl rfl rfl (by kernel_rfl) (by kernel_rfl) (by kernel_rfl) #[true, true, true, true, true, true, true, true, true, false, false, false, false, false, false, false, false, false, false, false, false, false, false, false, false, false, false, false, false, false, false, false, false, false, false, false, false] (by kernel_rfl) (fun _ _ _ _ h => h) ?_
                  refine VA_no (i := 9) rfl rfl rfl rfl rfl rfl rfl rfl (by kernel_rfl) (by kernel_rfl) (by kernel_rfl) #[true, true, true, true, true, true, true, true, true, true, false, false, false, false, false, false, false, false, false, false, false, false, false, false, false, false, false, false, false, false, false, false, false, false, false, false, false] (by kernel_rfl) (fun _ _ _ _ h => h) ?_
                  refine VA_no (i := 10) rfl rfl rfl rfl rfl rfl rfl rfl (by kernel_rfl) (by kernel_rfl) (by kernel_rfl) #[true, true, true, true, true, true, true, true, true, true, true, false, false, false, false, false, false, false, false, false, false, false, false, false, false, false, false, false, false, false, false, false, false, false, false, false, false] (by kernel_rfl) (fun _ _ _ _ h => h) ?_
                  refine VA_no (i := 11) rfl rfl rfl rfl rfl rfl rfl rfl (by kernel_rfl) (by kernel_rfl) (by kernel_rfl) #[true, true, true, true, true, true, true, true, true, true, true, true, false, false, false, false, false, false, false, false, false, false, false, false, false, false, false, false, false, false, false, false, false, false, false, false, false] (by kernel_rfl) (fun _ _ _ _ h => h) ?_
                  refine VA_take (i := 12) rfl rfl rfl rfl (by kernel_rfl) (by kernel_rfl) (by kernel_rfl) #[true, true, true, true, true, true, true, true, true, true, true, true, true, false, false, false, false, false, false, false, false, false, false, false, false, false, false, false, false, false, false, false, false, false, false, false, false] (by kernel_rfl) (fun _ _ _ _ h => h) (fun w hS => yd_pick_f rfl rfl) ?_
                  refine VA_take (i := 13) rfl rfl rfl rfl (by kernel_rfl) (by kernel_rfl) (by kernel_rfl) #[true, true, true, true, true, true, true, true, true, true, true, true, true, true, false, false, false, false, false, false, false, false, false, false, false, false, false, false, false, false, false, false, false, false, false, false, false] (by kernel_rfl) (fun _ _ _ _ h => h) (fun w hS => yd_move rfl) ?_
                  refine VA_takeG (i := 14) rfl rfl rfl rfl rfl rfl rfl (by kernel_rfl) (by kernel_rfl) (by kernel_rfl) #[true, true, true, true, true, true, true, true, true, true, true, true, true, true, true, false, false, false, false, false, false, false, false, false, false, false, false, false, false, false, false, false, false, false, false, false, false] (by kernel_rfl) (fun _ _ _ _ h => h) (fun w hS => yd_move rfl) ?_
                  refine VA_takeG (i := 15) rfl rfl rfl rfl rfl rfl rfl (by kernel_rfl) (by kernel_rfl) (by kernel_rfl) #[true, true, true, true, true, true, true, true, true, true, true, true, true, true, true, true, false, false, false, false, false, false, false, false, false, false, false, false, false, false, false, false, false, false, false, false, false] (by kernel_rfl) (fun _ _ _ _ h => h) (fun w hS => yd_move rfl) ?_
                  refine VA_takeG (i := 16) rfl rfl rfl rfl rfl rfl rfl (by kernel_rfl) (by kernel_rfl) (by kernel_rfl) #[true, true, true, true, true, true, true, true, true, true, true, true, true, true, true, true, true, false, false, false, false, false, false, false, false, false, false, false, false, false, false, false, false, false, false, false, false] (by kernel_rfl) (fun _ _ _ _ h => h) (fun w hS => yd_len rfl Try.underlying24) ?_
                  refine VA_takeG (i := 17) rfl rfl rfl rfl rfl rfl rfl (by kernel_rfl) (by kernel_rfl) (by kernel_rfl) #[true, true, true, true, true, true, true, true, true, true, true, true, true, true, true, true, true, true, false, false, false, false, false, false, false, false, false, false, false, false, false, false, false, false, false, false, false] (by kernel_rfl) (fun _ _ _ _ h => h) (fun w hS => yd_geq rfl rfl) ?_
                  refine VA_take (i := 18) rfl rfl rfl rfl (by kernel_rfl) (by kernel_rfl) (by kernel_rfl) #[true, true, true, true, true, true, true, true, true, true, true, true, true, true, true, true, true, true, true, false, false, false, false, false, false, false, false, false, false, false, false, false, false, false, false, false, false] (by kernel_rfl) (fun _ _ _ _ h => h) (fun w hS => yd_pick_f rfl rfl) ?_
                  refine VA_take (i := 19) rfl rfl rfl rfl (by kernel_rfl) (by kernel_rfl) (by kernel_rfl) #[true, true, true, true, true, true, true, true, true, true, true, true, true, true, true, true, true, true, true, true, false, false, false, false, false, false, false, false, false, false, false, false, false, false, false, false, false] (by kernel_rfl) (fun _ _ _ _ h => h) (fun w hS => yd_move rfl) ?_
                  refine VA_split 73 rfl (fun h73 => ?_) (fun h73 => ?_)
                  · replace h73 := of_decide_eq_true h73
                    exfalso
                    cases h : L[k]! with
                    | none => rw [h] at hz; have : z = -1 := hz; omega
                    | some d => rw [h] at hz; have : z = (d : Int) := hz; have := hid.lt hg hkl h; omega
                  · replace h73 := Int.not_le.1 (of_decide_eq_false h73)
                    refine VA_takeG (i := 20) rfl rfl rfl rfl rfl rfl rfl (by kernel_rfl) (by kernel_rfl) (by kernel_rfl) #[true, true, true, true, true, true, true, true, true, true, true, true, true, true, true, true, true, true, true, true, true, false, false, false, false, false, false, false, false, false, false, false, false, false, false, false, false] (by kernel_rfl) (fun _ _ _ _ h => h) (fun w hS => yd_move rfl) ?_
                    refine VA_takeG (i := 21) rfl rfl rfl rfl rfl rfl rfl (by kernel_rfl) (by kernel_rfl) (by kernel_rfl) #[true, true, true, true, true, true, true, true, true, true, true, true, true, true, true, true, true, true, true, true, true, true, false, false, false, false, false, false, false, false, false, false, false, false, false, false, false] (by kernel_rfl) (fun _ _ _ _ h => h) (fun w hS => yd_geq rfl rfl) ?_
                    refine VA_takeG (i := 22) rfl rfl rfl rfl rfl rfl rfl (by kernel_rfl) (by kernel_rfl) (by kernel_rfl) #[true, true, true, true, true, true, true, true, true, true, true, true, true, true, true, true, true, true, true, true, true, true, true, false, false, false, false, false, false, false, false, false, false, false, false, false, false] (by kernel_rfl) (fun _ _ _ _ h => h) (fun w hS => yd_move rfl) ?_
                    refine VA_split 76 rfl (fun h76 => ?_) (fun h76 => ?_)
                    · replace h76 := of_decide_eq_true h76
                      obtain ⟨d, hd⟩ : ∃ d, L[k]! = some d := by
                        cases h : L[k]! with
                        | none => rw [h] at hz; have : z = -1 := hz; omega
                        | some d => exact ⟨d, rfl⟩
                      have hdl := hid.lt hg hkl hd
                      have hzd : z = ((d : Nat) : Int) := by rw [hz, hd]; rfl
                      subst hzd
                      refine VA_takeG (i := 23) rfl rfl rfl rfl rfl rfl rfl (by kernel_rfl) (by kernel_rfl) (by kernel_rfl) #[true, true, true, true, true, true, true, true, true, true, true, true, true, true, true, true, true, true, true, true, true, true, true, true, false, false, false, false, false, false, false, false, false, false, false, false, false] (by kernel_rfl) (fun _ _ _ _ h => h) (fun w hS => yd_move rfl) ?_
                      refine VA_takeG (i := 24) rfl rfl rfl rfl rfl rfl rfl (by kernel_rfl) (by kernel_rfl) (by kernel_rfl) #[true, true, true, true, true, true, true, true, true, true, true, true, true, true, true, true, true, true, true, true, true, true, true, true, true, false, false, false, false, false, false, false, false, false, false, false, false] (by kernel_rfl) (fun _ _ _ _ h => h) (fun w hS => yd_move rfl) ?_
                      refine VA_takeG (i := 25) rfl rfl rfl rfl rfl rfl rfl (by kernel_rfl) (by kernel_rfl) (by kernel_rfl) #[true, true, true, true, true, true, true, true, true, true, true, true, true, true, true, true, true, true, true, true, true, true, true, true, true, true, false, false, false, false, false, false, false, false, false, false, false] (by kernel_rfl) (fun _ _ _ _ h => h) (fun w hS => yd_move rfl) ?_
                      refine VA_takeG (i := 26) rfl rfl rfl rfl rfl rfl rfl (by kernel_rfl) (by kernel_rfl) (by kernel_rfl) #[true, true, true, true, true, true, true, true, true, true, true, true, true, true, true, true, true, true, true, true, true, true, true, true, true, true, true, false, false, false, false, false, false, false, false, false, false] (by kernel_rfl) (fun _ _ _ _ h => h) (fun w hS => yd_index0 rfl rfl Try.underlying24 T.sz3 (by omega)) ?_
                      refine VA_takeG (i := 27) rfl rfl rfl rfl rfl rfl rfl (by kernel_rfl) (by kernel_rfl) (by kernel_rfl) #[true, true, true, true, true, true, true, true, true, true, true, true, true, true, true, true, true, true, true, true, true, true, true, true, true, true, true, true, false, false, false, false, false, false, false, false, false] (by kernel_rfl) (fun _ _ _ _ h => h) (fun w hS => yd_load rfl T.one3 (nmc (hS.get 0 rfl) hnl hnm hkl)) ?_
                      refine VA_takeG (i := 28) rfl rfl rfl rfl rfl rfl rfl (by kernel_rfl) (by kernel_rfl) (by kernel_rfl) #[true, true, true, true, true, true, true, true, true, true, true, true, true, true, true, true, true, true, true, true, true, true, true, true, true, true, true, true, true, false, false, false, false, false, false, false, false] (by kernel_rfl) (fun _ _ _ _ h => h) (fun w hS => yd_index0 rfl rfl Try.underlying24 T.sz3 (by omega)) ?_
                      refine VA_takeG (i := 29) rfl rfl rfl rfl rfl rfl rfl (by kernel_rfl) (by kernel_rfl) (by kernel_rfl) #[true, true, true, true, true, true, true, true, true, true, true, true, true, true, true, true, true, true, true, true, true, true, true, true, true, true, true, true, true, true, false, false, false, false, false, false, false] (by kernel_rfl) (fun _ _ _ _ h => h) (fun w hS => yd_load rfl T.one3 (got_cell (hS.get 2 rfl) (by omega))) ?_
                      refine VA_takeG (i := 30) rfl rfl rfl rfl rfl rfl rfl (by kernel_rfl) (by kernel_rfl) (by kernel_rfl) #[true, true, true, true, true, true, true, true, true, true, true, true, true, true, true, true, true, true, true, true, true, true, true, true, true, true, true, true, true, true, true, false, false, false, false, false, false] (by kernel_rfl) (fun _ _ _ _ h => h) (fun w hS => yd_move rfl) ?_
                      refine VA_takeG (i := 31) rfl rfl rfl rfl rfl rfl rfl (by kernel_rfl) (by kernel_rfl) (by kernel_rfl) #[true, true, true, true, true, true, true, true, true, true, true, true, true, true, true, true, true, true, true, true, true, true, true, true, true, true, true, true, true, true, true, true, false, false, false, false, false] (by kernel_rfl) (fun _ _ _ _ h => h) (fun w hS => yd_move rfl) ?_
                      refine VA_takeG (i := 32) rfl rfl rfl rfl rfl rfl rfl (by kernel_rfl) (by kernel_rfl) (by kernel_rfl) #[true, true, true, true, true, true, true, true, true, true, true, true, true, true, true, true, true, true, true, true, true, true, true, true, true, true, true, true, true, true, true, true, true, false, false, false, false] (by kernel_rfl) (fun _ _ _ _ h => h) (fun w hS => yd_index0 rfl rfl Try.underlying24 T.sz3 (by omega)) ?_
                      refine VA_takeG (i := 33) rfl rfl rfl rfl rfl rfl rfl (by kernel_rfl) (by kernel_rfl) (by kernel_rfl) #[true, true, true, true, true, true, true, true, true, true, true, true, true, true, true, true, true, true, true, true, true, true, true, true, true, true, true, true, true, true, true, true, true, true, false, false, false] (by kernel_rfl) (fun _ _ _ _ h => h) (fun w hS => yd_load rfl T.one3 (nmc (hS.get 0 rfl) hnl hnm hdl)) ?_
                      refine VA_takeG (i := 34) rfl rfl rfl rfl rfl rfl rfl (by kernel_rfl) (by kernel_rfl) (by kernel_rfl) #[true, true, true, true, true, true, true, true, true, true, true, true, true, true, true, true, true, true, true, true, true, true, true, true, true, true, true, true, true, true, true, true, true, true, true, false, false] (by kernel_rfl) (fun _ _ _ _ h => h) (fun w hS => yd_neq rfl rfl) ?_
                      refine VA_takeG (i := 35) rfl rfl rfl rfl rfl rfl rfl (by kernel_rfl) (by kernel_rfl) (by kernel_rfl) #[true, true, true, true, true, true, true, true, true, true, true, true, true, true, true, true, true, true, true, true, true, true, true, true, true, true, true, true, true, true, true, true, true, true, true, true, false] (by kernel_rfl) (fun _ _ _ _ h => h) (fun w hS => yd_pick_t rfl rfl) ?_
                      refine VA_take (i := 36) rfl rfl rfl rfl (by kernel_rfl) (by kernel_rfl) (by kernel_rfl) #[true, true, true, true, true, true, true, true, true, true, true, true, true, true, true, true, true, true, true, true, true, true, true, true, true, true, true, true, true, true, true, true, true, true, true, true, true] (by kernel_rfl) (fun _ _ _ _ h => h) (fun w hS => yd_pick_f rfl rfl) ?_
                      refine VA_done (by kernel_rfl) hS ?_
                      refine VE_then ?_
                      refine VC_cond rfl (fun h90 => ?_) (fun h90 => ?_)
                      · replace h90 := of_decide_eq_true h90
                        exact absurd (by rw [hLk, hd]; rfl) h90
                      · replace h90 := Decidable.not_not.1 (of_decide_eq_false h90)
                        refine VC_skip ?_
                        refine VE_block_normal ?_
                        refine VE_then ?_
                        refine VC_region ?_
                        refine VL_val rfl rfl rfl (yd_add rfl rfl ((k + 1 : Nat) : Int) (by rw [wi64 (by omega) (by omega)]; omega)) ?_
                        refine VL_val rfl rfl rfl (yd_move rfl) ?_
                        refine VL_nil ?_
                        exact VE_round1 (k + 1) ⟨rfl, rfl, rfl, rfl, rfl, trivial⟩ ⟨by omega, hS⟩ (by omega)
                    · replace h76 := Int.not_le.1 (of_decide_eq_false h76)
                      refine VA_no (i := 23) rfl rfl rfl rfl rfl rfl rfl rfl (by kernel_rfl) (by kernel_rfl) (by kernel_rfl) #[true, true, true, true, true, true, true, true, true, true, true, true, true, true, true, true, true, true, true, true, true, true, true, true, false, false, false, false, false, false, false, false, false, false, false, false, false] (by kernel_rfl) (fun _ _ _ _ h => h) ?_
                      refine VA_no (i := 24) rfl rfl rfl rfl rfl rfl rfl rfl (by kernel_rfl) (by kernel_rfl) (by kernel_rfl) #[true, true, true, true, true, true, true, true, true, true, true, true, true, true, true, true, true, true, true, true, true, true, true, true, true, false, false, false, false, false, false, false, false, false, false, false, false] (by kernel_rfl) (fun _ _ _ _ h => h) ?_
                      refine VA_no (i := 25) rfl rfl rfl rfl rfl rfl rfl rfl (by kernel_rfl) (by kernel_rfl) (by kernel_rfl) #[true, true, true, true, true, true, true, true, true, true, true, true, true, true, true, true, true, true, true, true, true, true, true, true, true, true, false, false, false, false, false, false, false, false, false, false, false] (by kernel_rfl) (fun _ _ _ _ h => h) ?_
                      refine VA_no (i := 26) rfl rfl rfl rfl rfl rfl rfl rfl (by kernel_rfl) (by kernel_rfl) (by kernel_rfl) #[true, true, true, true, true, true, true, true, true, true, true, true, true, true, true, true, true, true, true, true, true, true, true, true, true, true, true, false, false, false, false, false, false, false, false, false, false] (by kernel_rfl) (fun _ _ _ _ h => h) ?_
                      refine VA_no (i := 27) rfl rfl rfl rfl rfl rfl rfl rfl (by kernel_rfl) (by kernel_rfl) (by kernel_rfl) #[true, true, true, true, true, true, true, true, true, true, true, true, true, true, true, true, true, true, true, true, true, true, true, true, true, true, true, true, false, false, false, false, false, false, false, false, false] (by kernel_rfl) (fun _ _ _ _ h => h) ?_
                      refine VA_no (i := 28) rfl rfl rfl rfl rfl rfl rfl rfl (by kernel_rfl) (by kernel_rfl) (by kernel_rfl) #[true, true, true, true, true, true, true, true, true, true, true, true, true, true, true, true, true, true, true, true, true, true, true, true, true, true, true, true, true, false, false, false, false, false, false, false, false] (by kernel_rfl) (fun _ _ _ _ h => h) ?_
                      refine VA_no (i := 29) rfl rfl rfl rfl rfl rfl rfl rfl (by kernel_rfl) (by kernel_rfl) (by kernel_rfl) #[true, true, true, true, true, true, true, true, true, true, true, true, true, true, true, true, true, true, true, true, true, true, true, true, true, true, true, true, true, true, false, false, false, false, false, false, false] (by kernel_rfl) (fun _ _ _ _ h => h) ?_
                      refine VA_no (i := 30) rfl rfl rfl rfl rfl rfl rfl rfl (by kernel_rfl) (by kernel_rfl) (by kernel_rfl) #[true, true, true, true, true, true, true, true, true, true, true, true, true, true, true, true, true, true, true, true, true, true, true, true, true, true, true, true, true, true, true, false, false, false, false, false, false] (by kernel_rfl) (fun _ _ _ _ h => h) ?_
                      refine VA_no (i := 31) rfl rfl rfl rfl rfl rfl rfl rfl (by kernel_rfl) (by kernel_rfl) (by kernel_rfl) #[true, true, true, true, true, true, true, true, true, true, true, true, true, true, true, true, true, true, true, true, true, true, true, true, true, true, true, true, true, true, true, true, false, false, false, false, false] (by kernel_rfl) (fun _ _ _ _ h => h) ?_
                      refine VA_no (i := 32) rfl rfl rfl rfl rfl rfl rfl rfl (by kernel_rfl) (by kernel_rfl) (by kernel_rfl) #[true, true, true, true, true, true, true, true, true, true, true, true, true, true, true, true, true, true, true, true, true, true, true, true, true, true, true, true, true, true, true, true, true, false, false, false, false] (by kernel_rfl) (fun _ _ _ _ h => h) ?_
                      refine VA_no (i := 33) rfl rfl rfl rfl rfl rfl rfl rfl (by kernel_rfl) (by kernel_rfl) (by kernel_rfl) #[true, true, true, true, true, true, true, true, true, true, true, true, true, true, true, true, true, true, true, true, true, true, true, true, true, true, true, true, true, true, true, true, true, true, false, false, false] (by kernel_rfl) (fun _ _ _ _ h => h) ?_
                      refine VA_no (i := 34) rfl rfl rfl rfl rfl rfl rfl rfl (by kernel_rfl) (by kernel_rfl) (by kernel_rfl) #[true, true, true, true, true, true, true, true, true, true, true, true, true, true, true, true, true, true, true, true, true, true, true, true, true, true, true, true, true, true, true, true, true, true, true, false, false] (by kernel_rfl) (fun _ _ _ _ h => h) ?_
                      refine VA_takeG (i := 35) rfl rfl rfl rfl rfl rfl rfl (by kernel_rfl) (by kernel_rfl) (by kernel_rfl) #[true, true, true, true, true, true, true, true, true, true, true, true, true, true, true, true, true, true, true, true, true, true, true, true, true, true, true, true, true, true, true, true, true, true, true, true, false] (by kernel_rfl) (fun _ _ _ _ h => h) (fun w hS => yd_pick_f rfl rfl) ?_
                      refine VA_take (i := 36) rfl rfl rfl rfl (by kernel_rfl) (by kernel_rfl) (by kernel_rfl) #[true, true, true, true, true, true, true, true, true, true, true, true, true, true, true, true, true, true, true, true, true, true, true, true, true, true, true, true, true, true, true, true, true, true, true, true, true] (by kernel_rfl) (fun _ _ _ _ h => h) (fun w hS => yd_pick_f rfl rfl) ?_
                      refine VA_done (by kernel_rfl) hS ?_
                      refine VE_then ?_
                      refine VC_cond_f rfl ?_
                      refine VC_skip ?_
                      refine VE_block_normal ?_
                      refine VE_then ?_
                      refine VC_region ?_
                      refine VL_val rfl rfl rfl (yd_add rfl rfl ((k + 1 : Nat) : Int) (by rw [wi64 (by omega) (by omega)]; omega)) ?_
                      refine VL_val rfl rfl rfl (yd_move rfl) ?_
                      refine VL_nil ?_
                      exact VE_round1 (k + 1) ⟨rfl, rfl, rfl, rfl, rfl, trivial⟩ ⟨by omega, hS⟩ (by omega)
              · replace h50 := Int.not_lt.1 (of_decide_eq_false h50)
                refine VC_exit ?_
                refine VE_then_exit (VE_then_exit (VE_block_exit ?_))
                refine VE_then ?_
                refine VC_seq ?_
                refine VC_region ?_
                refine VL_val rfl rfl rfl (yd_assign rfl) ?_
                refine VL_nil ?_
                refine VE_then ?_
                refine VC_ret ?_
                refine VE_ret1 (rfl) rfl ?_
                exact ⟨rfl, hS.below⟩

end Go.Proofs.Ytmoooaaiohplhaa
