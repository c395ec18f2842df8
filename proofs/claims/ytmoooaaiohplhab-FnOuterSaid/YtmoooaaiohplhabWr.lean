/- spec.Above, spec.Kept; laws on dominators. -/
import Derived.Test.YtmoooaaiohplhabWl
import Derived.Test.YtmoooaaiohplhabWq
import Derived.Test.YtmoooaaiohplhabVk
import Derived.Test.YtmoooaaiohplhabPh
namespace Go.Proofs.Ytmoooaaiohplhab
open Go Go.V
set_option linter.unusedVariables false
set_option maxRecDepth 100000

theorem T.fv27_2 : FieldV Try.prog 27 2 2 25 := FieldV.of (by kernel_rfl) ⟨⟨_, Try.underlying25, rfl⟩, by kernel_rfl⟩
theorem T.call15 : CallT Try.prog 15 := CallT.of Try.func15 (by kernel_rfl) (by kernel_rfl)
theorem T.call22 : CallT Try.prog 22 := CallT.of Try.func22 (by kernel_rfl) (by kernel_rfl)
theorem T.call23 : CallT Try.prog 23 := CallT.of Try.func23 (by kernel_rfl) (by kernel_rfl)
theorem T.call25 : CallT Try.prog 25 := CallT.of Try.func25 (by kernel_rfl) (by kernel_rfl)
theorem T.call28 : CallT Try.prog 28 := CallT.of Try.func28 (by kernel_rfl) (by kernel_rfl)
theorem T.call29 : CallT Try.prog 29 := CallT.of Try.func29 (by kernel_rfl) (by kernel_rfl)
theorem T.call30 : CallT Try.prog 30 := CallT.of Try.func30 (by kernel_rfl) (by kernel_rfl)
theorem T.call31 : CallT Try.prog 31 := CallT.of Try.func31 (by kernel_rfl) (by kernel_rfl)

open Go.PL
theorem abvI_succ {l : List Int} {x z : Int} {m : Nat} (h : 0 < m) : abvI l x m z = if x = z then true else if z < 0 ∨ (l.length : Int) ≤ z then false else abvI l x (m - 1) l[z.toNat]! := by
  cases m with
  | zero => omega
  | succ m => rfl
theorem parL_idoms {G : Graph} {L : List (Option Nat)} (hg : Gd G) (h : IdomsOK G L) : ParL (L.map nO) G.length (fun y => L[y]!) := by
  refine ⟨by rw [List.length_map, h.len], fun y hy => ?_⟩
  have hl : y < L.length := by rw [h.len]; exact hy
  have e : (L.map nO)[y]! = nO L[y]! := by rw [getElem!_pos (L.map nO) y (by simpa using hl), List.getElem_map, ← getElem!_pos L y hl]
  cases hp : L[y]! with
  | none => left; rw [e, hp]; exact ⟨rfl, by decide⟩
  | some p => right; rw [e, hp]; exact ⟨p, rfl, (h.lt hg hy hp), rfl⟩
theorem abv_dm {G : Graph} {L : List (Option Nat)} (hg : Gd G) (h : IdomsOK G L) {x y : Nat} (hy : Rc G 0 y) : abvI (L.map nO) (x : Int) (L.map nO).length (y : Int) = true ↔ Dm G x y := by
  have hp := parL_idoms hg h
  rw [hp.len, abvI_iff hp (r := drk G) (fun y p e => drk_idom hg (h.idom e)) (fun y hy => drk_lt hy) (Rch.lt hg hg.pos hy)]
  exact h.abv hg hy
theorem got_ints {w : World} {v : Value} {L : List (Option Nat)} {t : TypeId} (h : (row v t 1 L.length ((L.map nO).map (Value.int .i64))).holds w) : IntsAt w v (L.map nO) := ints_of_row (by rw [List.length_map]; exact h)
/-- No way leads out of blocks that are left out. -/
def keptG (G : Graph) (lv : Nat → Bool) : Graph := (List.range G.length).map fun i => if lv i then G[i]! else []
theorem keptG_get {G : Graph} {lv : Nat → Bool} {i : Nat} (hi : i < G.length) : (keptG G lv)[i]! = if lv i then G[i]! else [] := by simp [keptG, hi]
theorem keptG_ed {G : Graph} {lv : Nat → Bool} {a b : Nat} : Ed (keptG G lv) a b ↔ Ed G a b ∧ lv a = true := by
  unfold Ed
  have hl : (keptG G lv).length = G.length := by simp [keptG]
  rw [hl]
  constructor
  · rintro ⟨h1, h2⟩
    rw [keptG_get h1] at h2
    split at h2
    · rename_i h; exact ⟨⟨h1, h2⟩, h⟩
    · cases h2
  · rintro ⟨⟨h1, h2⟩, h⟩
    exact ⟨h1, by rw [keptG_get h1, if_pos h]; exact h2⟩
theorem keptG_gd {G : Graph} {lv : Nat → Bool} (hg : Gd G) : Gd (keptG G lv) := by
  have hl : (keptG G lv).length = G.length := by simp [keptG]
  refine ⟨by rw [hl]; exact hg.pos, by rw [hl]; exact hg.le, fun i hi => ?_, fun i hi j hj => ?_⟩
  · rw [hl] at hi; rw [keptG_get hi]; split
    · exact hg.row i hi
    · simp
  · rw [hl]; exact ((keptG_ed.1 (Ed.get hi hj)).1).lt hg
theorem if_len {c : Bool} {a : List Nat} : (if c = true then a else []).length ≤ a.length := by split <;> simp

theorem above_ok {w0 : World} {v : Value} {l : List Int} (hl : IntsAt w0 v l) {x y : Int} (hb : l.length ≤ 1000) : Calls Try.prog 27 #[v, .int .i64 x, .int .i64 y] w0 (Ret fun u w' => u = .bool (abvI l x l.length y) ∧ w0 = w') := by
  obtain ⟨la, lc, lb, lo, rfl, hla, hcl⟩ := hl
  refine V_enter (N := 27) Try.func27 rfl Try.ntmps27 rfl ?_
  refine VC.sub (τ := [(0, _), (1, _), (2, _)]) ⟨rfl, rfl, rfl, trivial⟩ ?_
  refine VC_seq ?_
  refine VC_region ?_
  refine VL_val rfl rfl rfl (yd_assign rfl) ?_
  refine VL_nil ?_
  refine VE_then ?_
  refine VC_seq ?_
  refine VC_seq ?_
  refine VC_region ?_
  refine VL_val rfl rfl rfl (yd_move rfl) ?_
  refine VL_val rfl rfl rfl (yd_len rfl Try.underlying31) ?_
  refine VL_val rfl rfl rfl (yd_move rfl) ?_
  refine VL_nil ?_
  refine VE_then ?_
  refine VC_block ?_
  refine VC_loop2 [0, 1, 8] [_, _, _] rfl (fun (k : Nat) (z : Int) => [(9, .int .i64 ((k : Nat) : Int)), (2, .int .i64 z)]) (fun (k : Nat) (z : Int) w => k ≤ l.length ∧ abvI l x l.length y = abvI l x (l.length - k) z ∧ w0 = w) (fun (k : Nat) (z : Int) => l.length - k) 0 y ⟨rfl, rfl, trivial⟩ (⟨Nat.zero_le _, rfl, rfl⟩) ?_
  rintro k z w ⟨hk, he, rfl⟩
  refine VC_seq ?_
  refine VC_region ?_
  refine VL_val rfl rfl rfl (yd_lss rfl rfl) ?_
  refine VL_nil ?_
  refine VE_then ?_
  refine VC_seq ?_
  refine VC_cond rfl (fun h10 => ?_) (fun h10 => ?_)
  · replace h10 := of_decide_eq_true h10
    rw [abvI_succ (m := l.length - k) (by omega)] at he
    refine VC_skip ?_
    refine VE_then ?_
    refine VC_seq ?_
    refine VC_block ?_
    refine VC_seq ?_
    refine VC_seq ?_
    refine VC_region ?_
    refine VL_val rfl rfl rfl (yd_move rfl) ?_
    refine VL_val rfl rfl rfl (yd_move rfl) ?_
    refine VL_val rfl rfl rfl (yd_eql rfl rfl) ?_
    refine VL_nil ?_
    refine VE_then ?_
    refine VC_cond rfl (fun h13 => ?_) (fun h13 => ?_)
    · replace h13 := of_decide_eq_true h13
      refine VC_seq ?_
      refine VC_region ?_
      refine VL_val rfl rfl rfl (yd_assign rfl) ?_
      refine VL_nil ?_
      refine VE_then ?_
      refine VC_ret ?_
      refine VE_then_ret (VE_block_ret (VE_then_ret (VE_then_ret (VE_block_ret (VE_then_ret (?_))))))
      refine VE_ret1 (rfl) rfl ?_
      rw [if_pos h13] at he
      exact ⟨by rw [he], rfl⟩
    · replace h13 := of_decide_eq_false h13
      rw [if_neg h13] at he
      refine VC_skip ?_
      refine VE_then ?_
      refine VC_seq ?_
      refine VC_seq ?_
      refine VC_region ?_
      refine VL_val rfl rfl rfl (yd_move rfl) ?_
      refine VL_val rfl rfl rfl (yd_lss rfl rfl) ?_
      refine VL_val rfl rfl rfl (yd_move rfl) ?_
      refine VL_split 16 rfl (fun h16 => ?_) (fun h16 => ?_)
      · replace h16 := of_decide_eq_true h16
        refine VL_no rfl rfl rfl rfl rfl rfl rfl ?_
        refine VL_no rfl rfl rfl rfl rfl rfl rfl ?_
        refine VL_no rfl rfl rfl rfl rfl rfl rfl ?_
        refine VL_no rfl rfl rfl rfl rfl rfl rfl ?_
        refine VL_val rfl rfl rfl (yd_pick_t rfl rfl) ?_
        refine VL_nil ?_
        refine VE_then ?_
        refine VC_cond_t rfl ?_
        refine VC_seq ?_
        refine VC_region ?_
        refine VL_val rfl rfl rfl (yd_assign rfl) ?_
        refine VL_nil ?_
        refine VE_then ?_
        refine VC_ret ?_
        refine VE_then_ret (VE_block_ret (VE_then_ret (VE_then_ret (VE_block_ret (VE_then_ret (?_))))))
        refine VE_ret1 (rfl) rfl ?_
        rw [if_pos (by omega)] at he
        exact ⟨by rw [he], rfl⟩
      · replace h16 := Int.not_lt.1 (of_decide_eq_false h16)
        refine VL_yes rfl rfl rfl rfl ?_
        refine VL_val rfl rfl rfl (yd_move rfl) ?_
        refine VL_yes rfl rfl rfl rfl ?_
        refine VL_val rfl rfl rfl (yd_move rfl) ?_
        refine VL_yes rfl rfl rfl rfl ?_
        refine VL_val rfl rfl rfl (yd_len rfl Try.underlying31) ?_
        refine VL_yes rfl rfl rfl rfl ?_
        refine VL_val rfl rfl rfl (yd_geq rfl rfl) ?_
        refine VL_val rfl rfl rfl (yd_pick_f rfl rfl) ?_
        refine VL_nil ?_
        refine VE_then ?_
        refine VC_cond rfl (fun h21 => ?_) (fun h21 => ?_)
        · replace h21 := of_decide_eq_true h21
          refine VC_seq ?_
          refine VC_region ?_
          refine VL_val rfl rfl rfl (yd_assign rfl) ?_
          refine VL_nil ?_
          refine VE_then ?_
          refine VC_ret ?_
          refine VE_then_ret (VE_block_ret (VE_then_ret (VE_then_ret (VE_block_ret (VE_then_ret (?_))))))
          refine VE_ret1 (rfl) rfl ?_
          rw [if_pos (by omega)] at he
          exact ⟨by rw [he], rfl⟩
        · replace h21 := Int.not_le.1 (of_decide_eq_false h21)
          refine VC_skip ?_
          refine VE_then ?_
          refine VC_region ?_
          rw [if_neg (by omega)] at he
          obtain ⟨zn, rfl⟩ : ∃ zn : Nat, z = zn := ⟨z.toNat, by omega⟩
          obtain rfl := hla (by omega)
          rw [Int.toNat_natCast] at he
          refine VL_val rfl rfl rfl (yd_move rfl) ?_
          refine VL_val rfl rfl rfl (yd_move rfl) ?_
          refine VL_val rfl rfl rfl (yd_index1 rfl rfl Try.underlying31 T.sz3 (by omega)) ?_
          refine VL_val rfl rfl rfl (yd_load rfl T.one3 (hcl zn (by omega))) ?_
          refine VL_val rfl rfl rfl (yd_assign rfl) ?_
          refine VL_nil ?_
          refine VE_block_normal ?_
          refine VE_then ?_
          refine VC_region ?_
          refine VL_val rfl rfl rfl (yd_add rfl rfl ((k + 1 : Nat) : Int) (by rw [wi64 (by omega) (by omega)]; omega)) ?_
          refine VL_val rfl rfl rfl (yd_move rfl) ?_
          refine VL_nil ?_
          exact VE_round2 (k + 1) l[zn]! ⟨rfl, rfl, rfl, rfl, rfl, trivial⟩ ⟨by omega, by rw [he]; rfl, rfl⟩ (by omega)
  · replace h10 := Int.not_lt.1 (of_decide_eq_false h10)
    refine VC_exit ?_
    refine VE_then_exit (VE_then_exit (VE_block_exit ?_))
    refine VE_then ?_
    refine VC_seq ?_
    refine VC_region ?_
    refine VL_val rfl rfl rfl (yd_assign rfl) ?_
    refine VL_nil ?_
    refine VE_then ?_
    refine VC_ret ?_
    refine VE_ret1 (rfl) rfl ?_
    rw [show l.length - k = 0 by omega] at he
    exact ⟨by rw [he]; rfl, rfl⟩

theorem kept_ok {w0 : World} {v : Value} {G : Graph} (hG : GraphAt w0 v G) (hg : Gd G) {bl : Nat} {R : List Bool} {lv : Nat → Bool} (hb : (blk bl 4 (R.map Value.bool)).holds w0) (hRl : R.length = G.length) (hlv : ∀ i, i < G.length → R[i]! = lv i) : Calls Try.prog 29 #[v, .slice (some ⟨bl, 0, none⟩) G.length G.length] w0 (Ret fun u w' => GraphAt w' u (keptG G lv) ∧ St w0 M0 [] w') := by
  obtain ⟨ga, gc, gb, go, rfl, hga, hrow⟩ := hG
  have hpos := hg.pos
  obtain rfl := hga (by omega)
  have hS := St.refl w0
  have hle := hg.le
  refine V_enter (N := 31) Try.func29 rfl Try.ntmps29 rfl ?_
  refine VC.sub (τ := [(0, _), (1, _)]) ⟨rfl, rfl, trivial⟩ ?_
  refine VC_seq ?_
  refine VC_region ?_
  refine VL_val rfl rfl rfl (yd_assign rfl) ?_
  refine VL_nil ?_
  refine VE_then ?_
  refine VC_seq ?_
  refine VC_region ?_
  refine VL_rel rfl rfl rfl (yr_bslice0 Try.underlying22 T.e31 hS) ?_
  clear hS; rintro _ w ⟨b6, rfl, hS⟩
  have hS := bundle0 hS
  refine VL_val rfl rfl rfl (yd_assign rfl) ?_
  refine VL_nil ?_
  refine VE_then ?_
  refine VC_seq ?_
  refine VC_seq ?_
  refine VC_region ?_
  refine VL_val rfl rfl rfl (yd_move rfl) ?_
  refine VL_val rfl rfl rfl (yd_len rfl Try.underlying22) ?_
  refine VL_val rfl rfl rfl (yd_move rfl) ?_
  refine VL_nil ?_
  refine VE_then ?_
  refine VC_block ?_
  refine VC_loop3 [1, 4, 10, 11] [_, _, _, _] rfl (fun (k : Nat) (r : Value) (rv : Nat → Value) => [(12, .int .i64 ((k : Nat) : Int)), (5, r)]) (fun (k : Nat) (r : Value) (rv : Nat → Value) w => k ≤ G.length ∧ St w0 M0 [bundle (gRows k rv (fun i => if lv i = true then G[i]! else [])), row r 31 1 k ((List.range k).map rv)] w) (fun (k : Nat) (r : Value) (rv : Nat → Value) => G.length - k) 0 _ (fun _ => .slice none 0 0) ⟨rfl, rfl, trivial⟩ (⟨Nat.zero_le _, hS⟩) ?_
  clear hS; rintro k r rv w ⟨hk, hS⟩
  refine VC_seq ?_
  refine VC_region ?_
  refine VL_val rfl rfl rfl (yd_lss rfl rfl) ?_
  refine VL_nil ?_
  refine VE_then ?_
  refine VC_seq ?_
  refine VC_cond rfl (fun h13 => ?_) (fun h13 => ?_)
  · replace h13 := of_decide_eq_true h13
    refine VC_skip ?_
    refine VE_then ?_
    refine VC_seq ?_
    refine VC_block ?_
    refine VC_seq ?_
    refine VC_region ?_
    obtain ⟨ra, rc, rb, ro, hc, hra, hcs⟩ := hrow k (by omega)
    have hr4 := hg.row k (by omega)
    have hlk := hlv k (by omega)
    refine VL_val rfl rfl rfl (yd_move rfl) ?_
    refine VL_val rfl rfl rfl (yd_index1 rfl rfl Try.underlying22 T.sz31 (by omega)) ?_
    refine VL_val rfl rfl rfl (yd_load rfl T.one31 (hS.cell0 hc)) ?_
    refine VL_val rfl rfl rfl (yd_assign rfl) ?_
    refine VL_val rfl rfl rfl (yd_assign rfl) ?_
    refine VL_nil ?_
    refine VE_then ?_
    refine VC_seq ?_
    refine VC_region ?_
    refine VL_rel rfl rfl rfl (yr_bslice0 Try.underlying31 T.e3 hS) ?_
    clear hS; rintro _ w ⟨b14, rfl, hS⟩
    refine VL_val rfl rfl rfl (yd_assign rfl) ?_
    refine VL_nil ?_
    refine VE_then ?_
    refine VC_seq ?_
    refine VC_seq ?_
    refine VC_region ?_
    refine VL_val rfl rfl rfl (yd_move rfl) ?_
    refine VL_val rfl rfl rfl (yd_move rfl) ?_
    refine VL_val rfl rfl rfl (yd_index0 rfl rfl Try.underlying24 T.sz4 (by omega)) ?_
    refine VL_val rfl rfl rfl (yd_load rfl T.one4 (hS.cell0 (blk_cellM hb (by omega)))) ?_
    refine VL_nil ?_
    refine VE_then ?_
    refine VC_cond rfl (fun h21 => ?_) (fun h21 => ?_)
    · skip
      have hSk : (if lv k = true then G[k]! else []) = G[k]! := by rw [if_pos (by rw [← hlk]; exact h21)]
      refine VC_region ?_
      refine VL_val rfl rfl rfl (yd_move rfl) ?_
      refine VL_val rfl rfl rfl (yd_move rfl) ?_
      refine VL_rel rfl rfl rfl (yr_appendS rfl rfl Try.underlying31 T.e3 rfl (by decide) hS 2 rfl hra (zl_news (fun j hj => hS.cell0 (hcs j hj))) (by simp [zL]) zl_one (by omega) (by omega)) ?_
      clear hS; rintro v16 w ⟨hS, hnil⟩
      rw [Nat.zero_add, List.nil_append] at hS
      obtain ⟨cb, cc, rfl, -⟩ := row_form (hS.get 2 rfl) (.inl (fun h => by have := (hnil.1 h).1; cases this))
      refine VL_val rfl rfl rfl (yd_assign rfl) ?_
      refine VL_nil ?_
      refine VE_then ?_
      refine VC_region ?_
      refine VL_val rfl rfl rfl (yd_move rfl) ?_
      refine VL_val rfl rfl rfl (yd_move rfl) ?_
      refine VL_rel rfl rfl rfl (yr_bslice rfl Try.underlying22 T.e31 rfl (by decide) (by decide) hS) ?_
      clear hS; rintro _ w ⟨b17, rfl, hS⟩
      refine VL_rel rfl rfl rfl (yr_append rfl rfl Try.underlying22 T.e31 rfl (by decide) hS 1 rfl (hS.get 3 rfl) rfl (by intro u hu; simp [Value.cells] at hu; subst hu; rfl) (by omega) (by omega)) ?_
      clear hS; rintro v18 w ⟨hS, -⟩
      have hS := bundle_in (hS.front 2 rfl)
      have hS := hS.sub (η' := _) (List.take_sublist 2 _)
      refine VL_val rfl rfl rfl (yd_assign rfl) ?_
      refine VL_nil ?_
      refine VE_block_normal ?_
      refine VE_then ?_
      refine VC_region ?_
      refine VL_val rfl rfl rfl (yd_add rfl rfl ((k + 1 : Nat) : Int) (by rw [wi64 (by omega) (by omega)]; omega)) ?_
      refine VL_val rfl rfl rfl (yd_move rfl) ?_
      refine VL_nil ?_
      first
      | (refine VE_round3 (k + 1) _ (upd rv k (.slice (some ⟨cb, 0, none⟩) G[k]!.length cc)) ⟨rfl, rfl, rfl, rfl, rfl, rfl, trivial⟩ ⟨by omega, ?_⟩ (by omega); rw [rv_snoc, ← gRows_snoc (by rw [hSk])]; exact hS)
      | (refine VE_round3 (k + 1) _ (upd rv k (.slice (some ⟨b14, 0, none⟩) 0 0)) ⟨rfl, rfl, rfl, rfl, rfl, rfl, trivial⟩ ⟨by omega, ?_⟩ (by omega); rw [rv_snoc, ← gRows_snoc (r := row (.slice (some ⟨b14, 0, none⟩) 0 0) 3 1 0 []) (by rw [hSk]; rfl)]; exact hS)
    · skip
      have hSk : (if lv k = true then G[k]! else []) = [] := by rw [if_neg (by rw [← hlk, h21]; simp)]
      obtain ⟨cb, cc, lc, hcb, hlc⟩ : ∃ cb cc lc, (Value.slice (some ⟨b14, 0, none⟩) 0 0) = .slice (some ⟨cb, 0, none⟩) lc cc ∧ lc = (if lv k = true then G[k]! else []).length := ⟨b14, 0, 0, rfl, by rw [hSk]; rfl⟩
      refine VC_skip ?_
      refine VE_then ?_
      refine VC_region ?_
      refine VL_val rfl rfl rfl (yd_move rfl) ?_
      refine VL_val rfl rfl rfl (yd_move rfl) ?_
      refine VL_rel rfl rfl rfl (yr_bslice rfl Try.underlying22 T.e31 rfl (by decide) (by decide) hS) ?_
      clear hS; rintro _ w ⟨b17, rfl, hS⟩
      refine VL_rel rfl rfl rfl (yr_append rfl rfl Try.underlying22 T.e31 rfl (by decide) hS 1 rfl (hS.get 3 rfl) rfl (by intro u hu; simp [Value.cells] at hu; subst hu; rfl) (by omega) (by omega)) ?_
      clear hS; rintro v18 w ⟨hS, -⟩
      have hS := bundle_in (hS.front 2 rfl)
      have hS := hS.sub (η' := _) (List.take_sublist 2 _)
      refine VL_val rfl rfl rfl (yd_assign rfl) ?_
      refine VL_nil ?_
      refine VE_block_normal ?_
      refine VE_then ?_
      refine VC_region ?_
      refine VL_val rfl rfl rfl (yd_add rfl rfl ((k + 1 : Nat) : Int) (by rw [wi64 (by omega) (by omega)]; omega)) ?_
      refine VL_val rfl rfl rfl (yd_move rfl) ?_
      refine VL_nil ?_
      first
      | (refine VE_round3 (k + 1) _ (upd rv k (.slice (some ⟨cb, 0, none⟩) G[k]!.length cc)) ⟨rfl, rfl, rfl, rfl, rfl, rfl, trivial⟩ ⟨by omega, ?_⟩ (by omega); rw [rv_snoc, ← gRows_snoc (by rw [hSk])]; exact hS)
      | (refine VE_round3 (k + 1) _ (upd rv k (.slice (some ⟨b14, 0, none⟩) 0 0)) ⟨rfl, rfl, rfl, rfl, rfl, rfl, trivial⟩ ⟨by omega, ?_⟩ (by omega); rw [rv_snoc, ← gRows_snoc (r := row (.slice (some ⟨b14, 0, none⟩) 0 0) 3 1 0 []) (by rw [hSk]; rfl)]; exact hS)
  · replace h13 := Int.not_lt.1 (of_decide_eq_false h13)
    refine VC_exit ?_
    refine VE_then_exit (VE_then_exit (VE_block_exit ?_))
    refine VE_then ?_
    refine VC_seq ?_
    refine VC_region ?_
    refine VL_val rfl rfl rfl (yd_move rfl) ?_
    refine VL_val rfl rfl rfl (yd_assign rfl) ?_
    refine VL_nil ?_
    refine VE_then ?_
    refine VC_ret ?_
    refine VE_ret1 (rfl) rfl ?_
    obtain rfl : k = G.length := by omega
    obtain ⟨ob, oc, rfl, -⟩ := row_form (hS.get 1 rfl) (.inr (by omega))
    have h0 := hS.get 0 rfl
    exact ⟨graph_of_g (by simp [keptG]) (fun i hi => keptG_get hi) (fun i hi => h0.1 _ (List.mem_map.2 ⟨i, by simpa using hi, rfl⟩)) (hS.get 1 rfl), hS.sub (List.nil_sublist _)⟩

theorem fnUnreached_calls {w0 : World} {v : Value} {G0 : List (List Int)} (hR : RowsAt w0 v G0) : Calls Try.prog 5 #[v] w0 (Ret fun u w' => u = .bool true ∧ RowKit.Below w0.heap.size w0 w') := by
  have hS := St.refl w0
  refine V_enter (N := 26) Try.func5 rfl Try.ntmps5 rfl ?_
  refine VC.sub (τ := [(0, _)]) ⟨rfl, trivial⟩ ?_
  refine VC_seq ?_
  refine VC_region ?_
  refine VL_val rfl rfl rfl (yd_assign rfl) ?_
  refine VL_nil ?_
  refine VE_then ?_
  refine VC_seq ?_
  refine VC_seq ?_
  refine VC_region ?_
  refine VL_val rfl rfl rfl (yd_move rfl) ?_
  refine VL_call rfl rfl rfl rfl T.call15 rfl (zzFits1_ok (hS.rows hR)) ?_
  rintro _ _ ⟨rfl, bz, rfl, hz⟩
  refine VL_val rfl rfl rfl (yd_not rfl) ?_
  refine VL_nil ?_
  refine VE_then ?_
  refine VC_cond rfl (fun h6 => ?_) (fun h6 => ?_)
  · replace h6 := V.nt h6
    refine VC_seq ?_
    refine VC_region ?_
    refine VL_val rfl rfl rfl (yd_assign rfl) ?_
    refine VL_nil ?_
    refine VE_then ?_
    refine VC_ret ?_
    refine VE_then_ret (?_)
    refine VE_ret1 (rfl) rfl ?_
    exact ⟨rfl, hS.below⟩
  · replace h6 := V.nf h6
    have hzt := h6
    refine VC_skip ?_
    refine VE_then ?_
    refine VC_seq ?_
    refine VC_seq ?_
    refine VC_region ?_
    refine VL_val rfl rfl rfl (yd_move rfl) ?_
    refine VL_call rfl rfl rfl rfl T.call22 rfl (good_ok (hS.rows hR) (hz hzt)) ?_
    rintro _ _ ⟨rfl, bg, rfl, hgi⟩
    refine VL_val rfl rfl rfl (yd_not rfl) ?_
    refine VL_nil ?_
    refine VE_then ?_
    refine VC_cond rfl (fun h9 => ?_) (fun h9 => ?_)
    · replace h9 := V.nt h9
      refine VC_seq ?_
      refine VC_region ?_
      refine VL_val rfl rfl rfl (yd_assign rfl) ?_
      refine VL_nil ?_
      refine VE_then ?_
      refine VC_ret ?_
      refine VE_then_ret (?_)
      refine VE_ret1 (rfl) rfl ?_
      exact ⟨rfl, hS.below⟩
    · replace h9 := V.nf h9
      have hgt := h9
      obtain ⟨G, hG, hg, hGl⟩ := graph_of_rows hR (hgi.1 hgt)
      have hg12 : G.length ≤ 12 := by have := (hgi.1 hgt).2.1; omega
      have hle := hg.le
      have hpos := hg.pos
      have hG0 := hG
      obtain ⟨ga, gc, gb, go, rfl, hga, hrow⟩ := hG
      obtain rfl := hga (by omega)
      refine VC_skip ?_
      refine VE_then ?_
      refine VC_seq ?_
      refine VC_region ?_
      refine VL_val rfl rfl rfl (yd_move rfl) ?_
      refine VL_call rfl rfl rfl rfl T.call25 rfl (implDominators_ok (hS.graph hG0) hg) ?_
      rintro uL w ⟨L, hid, hR1⟩
      have hS := hS.call0 hR1
      have hidl := hid.len
      obtain ⟨ib, ic, rfl, -⟩ := row_form (hS.get 0 rfl) (.inr (by omega))
      refine VL_val rfl rfl rfl (yd_assign rfl) ?_
      refine VL_nil ?_
      refine VE_then ?_
      refine VC_seq ?_
      refine VC_region ?_
      refine VL_val rfl rfl rfl (yd_move rfl) ?_
      refine VL_val rfl rfl rfl (yd_len rfl Try.underlying31) ?_
      refine VL_val rfl rfl rfl (yd_move rfl) ?_
      refine VL_val rfl rfl rfl (yd_len rfl Try.underlying22) ?_
      refine VL_val rfl rfl rfl (yd_eql rfl rfl) ?_
      refine VL_val rfl rfl rfl (yd_move rfl) ?_
      refine VL_split 17 rfl (fun h17 => ?_) (fun h17 => ?_)
      · replace h17 := of_decide_eq_true h17
        refine VL_yes rfl rfl rfl rfl ?_
        refine VL_val rfl rfl rfl (yd_move rfl) ?_
        refine VL_yes rfl rfl rfl rfl ?_
        refine VL_val rfl rfl rfl (yd_move rfl) ?_
        refine VL_yes rfl rfl rfl rfl ?_
        refine VL_val rfl rfl rfl (yd_move rfl) ?_
        refine VL_yes rfl rfl rfl rfl ?_
        refine VL_call rfl rfl rfl rfl T.call24 rfl (reach_ok (hS.graph hG0) hg hpos) ?_
        rintro _ w ⟨lb, R, rfl, hR2, hIR⟩
        have hS := hS.call0 hR2
        obtain ⟨lv, hlv⟩ : ∃ lv : Nat → Bool, ∀ y, lv y = true ↔ Rc G 0 y := ⟨fun y => @decide _ (Classical.propDecidable (Rc G 0 y)), fun y => by simp⟩
        refine VL_yes rfl rfl rfl rfl ?_
        refine VL_call rfl rfl rfl rfl T.call29 rfl (kept_ok (lv := lv) (hS.graph hG0) hg (hS.get 1 rfl) hIR.1 (fun i hi => by rw [Bool.eq_iff_iff, hIR.2 i hi, hlv i]; exact ⟨fun h => h.2, fun h => ⟨by omega, h⟩⟩)) ?_
        rintro u22 w ⟨hG2, hR3⟩
        have hS := hS.call0 hR3
        refine VL_yes rfl rfl rfl rfl ?_
        refine VL_call rfl rfl rfl rfl T.call25 rfl (implDominators_ok hG2 (keptG_gd hg)) ?_
        rintro uL2 w ⟨L2, hid2, hR5⟩
        have hS := hS.call0 hR5
        have hid2l := hid2.len
        have hid2 := idoms_congr (by simp [keptG]) (fun a b => (dm_live (fun p z hp e => keptG_ed.2 ⟨e, (hlv p).2 hp⟩) (fun p z e => (keptG_ed.1 e).1) a b).symm) hid2
        refine VL_yes rfl rfl rfl rfl ?_
        refine VL_call rfl rfl rfl rfl T.call28 rfl (same_ok (la := L.map nO) (lb := L2.map nO) (got_ints (hS.get 0 rfl)) (got_ints (hS.get 2 rfl)) (by simp; omega)) ?_
        rintro _ w ⟨rfl, hR4⟩
        have hS := hS.call0 hR4
        refine VL_val rfl rfl rfl (yd_pick_t rfl rfl) ?_
        refine VL_val rfl rfl rfl (yd_assign rfl) ?_
        refine VL_nil ?_
        refine VE_then ?_
        refine VC_ret ?_
        refine VE_ret1 (rfl) rfl ?_
        refine ⟨?_, hS.below⟩
        rw [decide_eq_true (by rw [hid.unique hid2])]
      · replace h17 := of_decide_eq_false h17
        exact absurd (by omega) h17

theorem fnWayBack_calls {w0 : World} {v : Value} {G0 : List (List Int)} {x y : Int} (hR : RowsAt w0 v G0) : Calls Try.prog 6 #[v, .int .i64 x, .int .i64 y] w0 (Ret fun u w' => u = .bool true ∧ RowKit.Below w0.heap.size w0 w') := by
  have hS := St.refl w0
  refine V_enter (N := 62) Try.func6 rfl Try.ntmps6 rfl ?_
  refine VC.sub (τ := [(0, _), (1, _), (2, _)]) ⟨rfl, rfl, rfl, trivial⟩ ?_
  refine VC_seq ?_
  refine VC_region ?_
  refine VL_val rfl rfl rfl (yd_assign rfl) ?_
  refine VL_nil ?_
  refine VE_then ?_
  refine VC_seq ?_
  refine VC_seq ?_
  refine VC_region ?_
  refine VL_val rfl rfl rfl (yd_move rfl) ?_
  refine VL_call rfl rfl rfl rfl T.call15 rfl (zzFits1_ok (hS.rows hR)) ?_
  rintro _ _ ⟨rfl, bz, rfl, hz⟩
  refine VL_val rfl rfl rfl (yd_not rfl) ?_
  refine VL_nil ?_
  refine VE_then ?_
  refine VC_cond rfl (fun h10 => ?_) (fun h10 => ?_)
  · replace h10 := V.nt h10
    refine VC_seq ?_
    refine VC_region ?_
    refine VL_val rfl rfl rfl (yd_assign rfl) ?_
    refine VL_nil ?_
    refine VE_then ?_
    refine VC_ret ?_
    refine VE_then_ret (?_)
    refine VE_ret1 (rfl) rfl ?_
    exact ⟨rfl, hS.below⟩
  · replace h10 := V.nf h10
    have hzt := h10
    refine VC_skip ?_
    refine VE_then ?_
    refine VC_seq ?_
    refine VC_seq ?_
    refine VC_region ?_
    refine VL_val rfl rfl rfl (yd_move rfl) ?_
    refine VL_call rfl rfl rfl rfl T.call22 rfl (good_ok (hS.rows hR) (hz hzt)) ?_
    rintro _ _ ⟨rfl, bg, rfl, hgi⟩
    refine VL_val rfl rfl rfl (yd_not rfl) ?_
    refine VL_val rfl rfl rfl (yd_move rfl) ?_
    refine VL_split 14 rfl (fun h14 => ?_) (fun h14 => ?_)
    · replace h14 := V.nt h14
      refine VL_no rfl rfl rfl rfl rfl rfl rfl ?_
      refine VL_no rfl rfl rfl rfl rfl rfl rfl ?_
      refine VL_no rfl rfl rfl rfl rfl rfl rfl ?_
      refine VL_no rfl rfl rfl rfl rfl rfl rfl ?_
      refine VL_val rfl rfl rfl (yd_pick_t rfl rfl) ?_
      refine VL_val rfl rfl rfl (yd_move rfl) ?_
      refine VL_no rfl rfl rfl rfl rfl rfl rfl ?_
      refine VL_no rfl rfl rfl rfl rfl rfl rfl ?_
      refine VL_no rfl rfl rfl rfl rfl rfl rfl ?_
      refine VL_no rfl rfl rfl rfl rfl rfl rfl ?_
      refine VL_val rfl rfl rfl (yd_pick_t rfl rfl) ?_
      refine VL_val rfl rfl rfl (yd_move rfl) ?_
      refine VL_no rfl rfl rfl rfl rfl rfl rfl ?_
      refine VL_no rfl rfl rfl rfl rfl rfl rfl ?_
      refine VL_no rfl rfl rfl rfl rfl rfl rfl ?_
      refine VL_no rfl rfl rfl rfl rfl rfl rfl ?_
      refine VL_no rfl rfl rfl rfl rfl rfl rfl ?_
      refine VL_no rfl rfl rfl rfl rfl rfl rfl ?_
      refine VL_val rfl rfl rfl (yd_pick_t rfl rfl) ?_
      refine VL_val rfl rfl rfl (yd_move rfl) ?_
      refine VL_no rfl rfl rfl rfl rfl rfl rfl ?_
      refine VL_no rfl rfl rfl rfl rfl rfl rfl ?_
      refine VL_no rfl rfl rfl rfl rfl rfl rfl ?_
      refine VL_no rfl rfl rfl rfl rfl rfl rfl ?_
      refine VL_no rfl rfl rfl rfl rfl rfl rfl ?_
      refine VL_no rfl rfl rfl rfl rfl rfl rfl ?_
      refine VL_no rfl rfl rfl rfl rfl rfl rfl ?_
      refine VL_no rfl rfl rfl rfl rfl rfl rfl ?_
      refine VL_no rfl rfl rfl rfl rfl rfl rfl ?_
      refine VL_no rfl rfl rfl rfl rfl rfl rfl ?_
      refine VL_val rfl rfl rfl (yd_pick_t rfl rfl) ?_
      refine VL_nil ?_
      refine VE_then ?_
      refine VC_cond_t rfl ?_
      refine VC_seq ?_
      refine VC_region ?_
      refine VL_val rfl rfl rfl (yd_assign rfl) ?_
      refine VL_nil ?_
      refine VE_then ?_
      refine VC_ret ?_
      refine VE_then_ret (?_)
      refine VE_ret1 (rfl) rfl ?_
      exact ⟨rfl, hS.below⟩
    · replace h14 := V.nf h14
      have hgt := h14
      obtain ⟨G, hG, hg, hGl⟩ := graph_of_rows hR (hgi.1 hgt)
      have hg12 : G.length ≤ 12 := by have := (hgi.1 hgt).2.1; omega
      have hle := hg.le
      have hpos := hg.pos
      have hG0 := hG
      obtain ⟨ga, gc, gb, go, rfl, hga, hrow⟩ := hG
      obtain rfl := hga (by omega)
      refine VL_yes rfl rfl rfl rfl ?_
      refine VL_val rfl rfl rfl (yd_move rfl) ?_
      refine VL_yes rfl rfl rfl rfl ?_
      refine VL_val rfl rfl rfl (yd_move rfl) ?_
      refine VL_yes rfl rfl rfl rfl ?_
      refine VL_call rfl rfl rfl rfl T.call23 rfl (block_ok (hS.graph hG0)) ?_
      rintro _ _ ⟨rfl, bx, rfl, hbx⟩
      refine VL_yes rfl rfl rfl rfl ?_
      refine VL_val rfl rfl rfl (yd_not rfl) ?_
      refine VL_val rfl rfl rfl (yd_pick_f rfl rfl) ?_
      refine VL_val rfl rfl rfl (yd_move rfl) ?_
      refine VL_split 20 rfl (fun h20 => ?_) (fun h20 => ?_)
      · replace h20 := V.nt h20
        refine VL_no rfl rfl rfl rfl rfl rfl rfl ?_
        refine VL_no rfl rfl rfl rfl rfl rfl rfl ?_
        refine VL_no rfl rfl rfl rfl rfl rfl rfl ?_
        refine VL_no rfl rfl rfl rfl rfl rfl rfl ?_
        refine VL_val rfl rfl rfl (yd_pick_t rfl rfl) ?_
        refine VL_val rfl rfl rfl (yd_move rfl) ?_
        refine VL_no rfl rfl rfl rfl rfl rfl rfl ?_
        refine VL_no rfl rfl rfl rfl rfl rfl rfl ?_
        refine VL_no rfl rfl rfl rfl rfl rfl rfl ?_
        refine VL_no rfl rfl rfl rfl rfl rfl rfl ?_
        refine VL_no rfl rfl rfl rfl rfl rfl rfl ?_
        refine VL_no rfl rfl rfl rfl rfl rfl rfl ?_
        refine VL_val rfl rfl rfl (yd_pick_t rfl rfl) ?_
        refine VL_val rfl rfl rfl (yd_move rfl) ?_
        refine VL_no rfl rfl rfl rfl rfl rfl rfl ?_
        refine VL_no rfl rfl rfl rfl rfl rfl rfl ?_
        refine VL_no rfl rfl rfl rfl rfl rfl rfl ?_
        refine VL_no rfl rfl rfl rfl rfl rfl rfl ?_
        refine VL_no rfl rfl rfl rfl rfl rfl rfl ?_
        refine VL_no rfl rfl rfl rfl rfl rfl rfl ?_
        refine VL_no rfl rfl rfl rfl rfl rfl rfl ?_
        refine VL_no rfl rfl rfl rfl rfl rfl rfl ?_
        refine VL_no rfl rfl rfl rfl rfl rfl rfl ?_
        refine VL_no rfl rfl rfl rfl rfl rfl rfl ?_
        refine VL_val rfl rfl rfl (yd_pick_t rfl rfl) ?_
        refine VL_nil ?_
        refine VE_then ?_
        refine VC_cond_t rfl ?_
        refine VC_seq ?_
        refine VC_region ?_
        refine VL_val rfl rfl rfl (yd_assign rfl) ?_
        refine VL_nil ?_
        refine VE_then ?_
        refine VC_ret ?_
        refine VE_then_ret (?_)
        refine VE_ret1 (rfl) rfl ?_
        exact ⟨rfl, hS.below⟩
      · replace h20 := V.nf h20
        have hx := hbx.1 h20
        obtain ⟨xn, rfl⟩ : ∃ xn : Nat, x = xn := ⟨x.toNat, by omega⟩
        have hxn : xn < G.length := by omega
        obtain ⟨ra, rc, rb, ro, hc, hra, hcs⟩ := hrow xn hxn
        refine VL_yes rfl rfl rfl rfl ?_
        refine VL_val rfl rfl rfl (yd_move rfl) ?_
        refine VL_yes rfl rfl rfl rfl ?_
        refine VL_val rfl rfl rfl (yd_move rfl) ?_
        refine VL_yes rfl rfl rfl rfl ?_
        refine VL_call rfl rfl rfl rfl T.call23 rfl (block_ok (hS.graph hG0)) ?_
        rintro _ _ ⟨rfl, bo, rfl, hby⟩
        refine VL_yes rfl rfl rfl rfl ?_
        refine VL_val rfl rfl rfl (yd_not rfl) ?_
        refine VL_val rfl rfl rfl (yd_pick_f rfl rfl) ?_
        refine VL_val rfl rfl rfl (yd_move rfl) ?_
        refine VL_split 26 rfl (fun h26 => ?_) (fun h26 => ?_)
        · replace h26 := V.nt h26
          refine VL_no rfl rfl rfl rfl rfl rfl rfl ?_
          refine VL_no rfl rfl rfl rfl rfl rfl rfl ?_
          refine VL_no rfl rfl rfl rfl rfl rfl rfl ?_
          refine VL_no rfl rfl rfl rfl rfl rfl rfl ?_
          refine VL_no rfl rfl rfl rfl rfl rfl rfl ?_
          refine VL_no rfl rfl rfl rfl rfl rfl rfl ?_
          refine VL_val rfl rfl rfl (yd_pick_t rfl rfl) ?_
          refine VL_val rfl rfl rfl (yd_move rfl) ?_
          refine VL_no rfl rfl rfl rfl rfl rfl rfl ?_
          refine VL_no rfl rfl rfl rfl rfl rfl rfl ?_
          refine VL_no rfl rfl rfl rfl rfl rfl rfl ?_
          refine VL_no rfl rfl rfl rfl rfl rfl rfl ?_
          refine VL_no rfl rfl rfl rfl rfl rfl rfl ?_
          refine VL_no rfl rfl rfl rfl rfl rfl rfl ?_
          refine VL_no rfl rfl rfl rfl rfl rfl rfl ?_
          refine VL_no rfl rfl rfl rfl rfl rfl rfl ?_
          refine VL_no rfl rfl rfl rfl rfl rfl rfl ?_
          refine VL_no rfl rfl rfl rfl rfl rfl rfl ?_
          refine VL_val rfl rfl rfl (yd_pick_t rfl rfl) ?_
          refine VL_nil ?_
          refine VE_then ?_
          refine VC_cond_t rfl ?_
          refine VC_seq ?_
          refine VC_region ?_
          refine VL_val rfl rfl rfl (yd_assign rfl) ?_
          refine VL_nil ?_
          refine VE_then ?_
          refine VC_ret ?_
          refine VE_then_ret (?_)
          refine VE_ret1 (rfl) rfl ?_
          exact ⟨rfl, hS.below⟩
        · replace h26 := V.nf h26
          have hy := hby.1 h26
          obtain ⟨yn, rfl⟩ : ∃ yn : Nat, y = yn := ⟨y.toNat, by omega⟩
          have hyn : yn < G.length := by omega
          refine VL_yes rfl rfl rfl rfl ?_
          refine VL_val rfl rfl rfl (yd_move rfl) ?_
          refine VL_yes rfl rfl rfl rfl ?_
          refine VL_val rfl rfl rfl (yd_move rfl) ?_
          refine VL_yes rfl rfl rfl rfl ?_
          refine VL_val rfl rfl rfl (yd_index1 rfl rfl Try.underlying22 T.sz31 (by omega)) ?_
          refine VL_yes rfl rfl rfl rfl ?_
          refine VL_val rfl rfl rfl (yd_load rfl T.one31 (hS.cell0 hc)) ?_
          refine VL_yes rfl rfl rfl rfl ?_
          refine VL_val rfl rfl rfl (yd_len rfl Try.underlying31) ?_
          refine VL_yes rfl rfl rfl rfl ?_
          refine VL_val rfl rfl rfl (yd_geq rfl rfl) ?_
          refine VL_val rfl rfl rfl (yd_pick_f rfl rfl) ?_
          refine VL_val rfl rfl rfl (yd_move rfl) ?_
          refine VL_split 34 rfl (fun h34 => ?_) (fun h34 => ?_)
          · replace h34 := of_decide_eq_true h34
            refine VL_no rfl rfl rfl rfl rfl rfl rfl ?_
            refine VL_no rfl rfl rfl rfl rfl rfl rfl ?_
            refine VL_no rfl rfl rfl rfl rfl rfl rfl ?_
            refine VL_no rfl rfl rfl rfl rfl rfl rfl ?_
            refine VL_no rfl rfl rfl rfl rfl rfl rfl ?_
            refine VL_no rfl rfl rfl rfl rfl rfl rfl ?_
            refine VL_no rfl rfl rfl rfl rfl rfl rfl ?_
            refine VL_no rfl rfl rfl rfl rfl rfl rfl ?_
            refine VL_no rfl rfl rfl rfl rfl rfl rfl ?_
            refine VL_no rfl rfl rfl rfl rfl rfl rfl ?_
            refine VL_val rfl rfl rfl (yd_pick_t rfl rfl) ?_
            refine VL_nil ?_
            refine VE_then ?_
            refine VC_cond_t rfl ?_
            refine VC_seq ?_
            refine VC_region ?_
            refine VL_val rfl rfl rfl (yd_assign rfl) ?_
            refine VL_nil ?_
            refine VE_then ?_
            refine VC_ret ?_
            refine VE_then_ret (?_)
            refine VE_ret1 (rfl) rfl ?_
            exact ⟨rfl, hS.below⟩
          · replace h34 := Int.not_le.1 (of_decide_eq_false h34)
            refine VL_yes rfl rfl rfl rfl ?_
            refine VL_val rfl rfl rfl (yd_move rfl) ?_
            refine VL_yes rfl rfl rfl rfl ?_
            refine VL_call rfl rfl rfl rfl T.call30 rfl (of_ok (hS.graph hG0) hg) ?_
            rintro _ w ⟨s, rfl, hok, hR2⟩
            have hS := hS.call0 hR2
            refine VL_yes rfl rfl rfl rfl ?_
            refine VL_val rfl rfl rfl (yd_fieldv rfl T.fv27_2 rfl) ?_
            refine VL_yes rfl rfl rfl rfl ?_
            refine VL_val rfl rfl rfl (yd_move rfl) ?_
            refine VL_yes rfl rfl rfl rfl ?_
            refine VL_val rfl rfl rfl (yd_index0 rfl rfl Try.underlying25 T.sz24 (by omega)) ?_
            refine VL_yes rfl rfl rfl rfl ?_
            refine VL_val rfl rfl rfl (yd_load rfl T.one24 ((shapeAt (hS.graph hG0) hok (hS.get 0 rfl)).row yn hyn)) ?_
            refine VL_yes rfl rfl rfl rfl ?_
            refine VL_val rfl rfl rfl (yd_move rfl) ?_
            refine VL_yes rfl rfl rfl rfl ?_
            refine VL_val rfl rfl rfl (yd_index0 rfl rfl Try.underlying24 T.sz4 (by omega)) ?_
            refine VL_yes rfl rfl rfl rfl ?_
            refine VL_val rfl rfl rfl (yd_load rfl T.one4 ((shapeAt (hS.graph hG0) hok (hS.get 0 rfl)).dom yn xn hyn hxn)) ?_
            refine VL_yes rfl rfl rfl rfl ?_
            refine VL_val rfl rfl rfl (yd_not rfl) ?_
            refine VL_val rfl rfl rfl (yd_pick_f rfl rfl) ?_
            refine VL_nil ?_
            refine VE_then ?_
            refine VC_cond rfl (fun h45 => ?_) (fun h45 => ?_)
            · replace h45 := V.nt h45
              refine VC_seq ?_
              refine VC_region ?_
              refine VL_val rfl rfl rfl (yd_assign rfl) ?_
              refine VL_nil ?_
              refine VE_then ?_
              refine VC_ret ?_
              refine VE_then_ret (?_)
              refine VE_ret1 (rfl) rfl ?_
              exact ⟨rfl, hS.below⟩
            · replace h45 := V.nf h45
              have hd := (hok.dm yn xn).1 h45
              have hg2 := gd_more hg hxn hyn (by omega)
              refine VC_skip ?_
              refine VE_then ?_
              refine VC_seq ?_
              refine VC_region ?_
              refine VL_val rfl rfl rfl (yd_move rfl) ?_
              refine VL_call rfl rfl rfl rfl T.call25 rfl (implDominators_ok (hS.graph hG0) hg) ?_
              rintro uL w ⟨L, hid, hR1⟩
              have hS := hS.call0 hR1
              have hidl := hid.len
              obtain ⟨ib, ic, rfl, -⟩ := row_form (hS.get 1 rfl) (.inr (by omega))
              refine VL_val rfl rfl rfl (yd_assign rfl) ?_
              refine VL_nil ?_
              refine VE_then ?_
              refine VC_seq ?_
              refine VC_region ?_
              refine VL_val rfl rfl rfl (yd_move rfl) ?_
              refine VL_val rfl rfl rfl (yd_len rfl Try.underlying31) ?_
              refine VL_val rfl rfl rfl (yd_move rfl) ?_
              refine VL_val rfl rfl rfl (yd_len rfl Try.underlying22) ?_
              refine VL_val rfl rfl rfl (yd_eql rfl rfl) ?_
              refine VL_val rfl rfl rfl (yd_move rfl) ?_
              refine VL_split 53 rfl (fun h53 => ?_) (fun h53 => ?_)
              · replace h53 := of_decide_eq_true h53
                refine VL_yes rfl rfl rfl rfl ?_
                refine VL_val rfl rfl rfl (yd_move rfl) ?_
                refine VL_yes rfl rfl rfl rfl ?_
                refine VL_val rfl rfl rfl (yd_move rfl) ?_
                refine VL_yes rfl rfl rfl rfl ?_
                refine VL_val rfl rfl rfl (yd_move rfl) ?_
                refine VL_yes rfl rfl rfl rfl ?_
                refine VL_val rfl rfl rfl (yd_move rfl) ?_
                refine VL_yes rfl rfl rfl rfl ?_
                refine VL_call rfl rfl rfl rfl T.call31 rfl (withWay_ok (hS.graph hG0) hg (y := yn) hxn) ?_
                rintro u59 w ⟨hG2, hR3⟩
                have hS := hS.call0 hR3
                refine VL_yes rfl rfl rfl rfl ?_
                refine VL_call rfl rfl rfl rfl T.call25 rfl (implDominators_ok hG2 hg2) ?_
                rintro uL2 w ⟨L2, hid2, hR5⟩
                have hS := hS.call0 hR5
                have hid2l := hid2.len
                have hid2 := idoms_congr (by rw [List.length_set]) (fun a b => (dm_wayback hxn hd a b).symm) hid2
                have hid2l := hid2.len
                refine VL_yes rfl rfl rfl rfl ?_
                refine VL_call rfl rfl rfl rfl T.call28 rfl (same_ok (la := L.map nO) (lb := L2.map nO) (got_ints (hS.get 1 rfl)) (got_ints (hS.get 2 rfl)) (by simp; omega)) ?_
                rintro _ w ⟨rfl, hR4⟩
                have hS := hS.call0 hR4
                refine VL_val rfl rfl rfl (yd_pick_t rfl rfl) ?_
                refine VL_val rfl rfl rfl (yd_assign rfl) ?_
                refine VL_nil ?_
                refine VE_then ?_
                refine VC_ret ?_
                refine VE_ret1 (rfl) rfl ?_
                refine ⟨?_, hS.below⟩
                rw [decide_eq_true (by rw [hid.unique hid2])]
              · replace h53 := of_decide_eq_false h53
                exact absurd (by omega) h53

end Go.Proofs.Ytmoooaaiohplhab
