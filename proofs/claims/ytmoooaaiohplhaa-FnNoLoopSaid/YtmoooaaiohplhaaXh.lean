/- The law on graphs without a circle. -/
import Derived.Test.YtmoooaaiohplhaaYd
namespace Go.Proofs.Ytmoooaaiohplhaa
open Go Go.V
set_option linter.unusedVariables false
set_option maxRecDepth 100000

theorem T.call23 : CallT Try.prog 23 := CallT.of Try.func23 (by kernel_rfl) (by kernel_rfl)
theorem T.call24 : CallT Try.prog 24 := CallT.of Try.func24 (by kernel_rfl) (by kernel_rfl)

open Go.PL
section
variable {G : Graph} {hs : List Nat} {O B : Nat → Option Nat} {q : QRep} {s : LRep} {irr : Bool} {x : Nat}
theorem inner_is (h : Nest G hs O B) (hx : x < G.length) : IsInner G x (-1) (B x) :=
  ⟨fun b e => ⟨(h.inn x b hx e).1, by omega, fun q l _ => ((h.inn x b hx e).2 q l).dm⟩, fun e q l => absurd l (h.non x hx e q)⟩
theorem outer_is (h : Nest G hs O B) (ho : OI (phi G) hs O) (hx : x ∈ hs) : IsInner G x (x : Int) (O x) := by
  constructor
  · intro p e
    have hp := ho.ok x p e
    refine ⟨(h.up p x hx).1 (.step e (.refl _)), fun e2 => hp.2.2.1 (by omega), fun q l hne => ?_⟩
    have ha := (h.up q x hx).2 l
    cases ha with
    | refl => exact absurd rfl hne
    | step e2 ha => rw [e] at e2; cases e2; exact ((h.up q p hp.2.1).1 ha).dm
  · intro e q l
    have ha := (h.up q x hx).2 l
    cases ha with
    | refl => rfl
    | step e2 _ => rw [e] at e2; cases e2
theorem depth_is (h : Nest G hs O B) (hq : QOK q G) (hx : x ∈ hs) (hxl : x < G.length) : (List.range G.length).countP (fun h => q.lp h x) = clv O G.length x := by
  unfold clv
  refine List.countP_congr fun a ha => ?_
  have hal := List.mem_range.1 ha
  simp only [decide_eq_true_eq]
  exact (hq a x hal hxl).trans (h.up a x hx).symm
theorem depth_x (hN : NestOK G hs s B irr) (h : Nest G hs s.O B) (hq : QOK q G) (hxl : x < G.length) : (List.range G.length).countP (fun h => q.lp h x) = dpO s (B x) := by
  cases e : B x with
  | none =>
    refine List.countP_eq_zero.2 fun a ha hl => ?_
    exact h.non x hxl e a ((hq a x (List.mem_range.1 ha) hxl).1 hl)
  | some b =>
    have hb := hN.bm x b e
    have hbl := hN.lt b hb
    obtain ⟨h1, h2⟩ := h.inn x b hxl e
    show _ = s.dp b
    rw [hN.dp b hb, ← depth_is h hq hb hbl]
    refine List.countP_congr fun a ha => ?_
    have hal := List.mem_range.1 ha
    exact (hq a x hal hxl).trans ((⟨h2 a, fun l => h1.trans l⟩ : Lp G a x ↔ Lp G a b).trans (hq a b hal hbl).symm)
theorem nb_is (hg : Gd G) (hw : ∀ x, x < G.length → Rc G 0 x) (hN : NestOK G hs s B irr) (hr : Red G) (h : Nat) : s.nb h = (List.range G.length).countP fun y => B y == some h := by
  rw [hN.nbc hr h]
  have hP := postL_ok hg
  refine List.Perm.countP_eq _ (List.perm_iff_count.2 fun a => ?_)
  rw [hP.nd.count, List.nodup_range.count]
  have e : (a ∈ postL G) = (a ∈ List.range G.length) := propext ((hP.mem a).trans ⟨fun r => List.mem_range.2 (Rch.lt hg hg.pos r), fun r => hw a (List.mem_range.1 r)⟩)
  simp only [e]
theorem inn_iff (hN : NestOK G hs s B irr) (h : Nest G hs s.O B) (hr : Red G) {p : Nat} (hp : p ∈ hs) : s.inn p = true ↔ ∀ x, x < G.length → ¬ (x ≠ p ∧ Lp G p x ∧ Hdr G x) := by
  constructor
  · intro hi x _ ⟨hne, hl, hd⟩
    have ha := (h.up p x ((h.hdr x).2 hd)).2 hl
    rcases abv_child ha with e | ⟨c, e, _⟩
    · exact hne e
    · rw [hN.ii c p e] at hi; cases hi
  · intro hn
    cases hb : s.inn p with
    | true => rfl
    | false =>
      obtain ⟨_, x, hx, h1, _, h3⟩ := hN.i0 p hb
      exact absurd ⟨fun e => h1 e.symm, h3 hr, (h.hdr x).1 hx⟩ (hn x (hN.lt x hx))
noncomputable def cO (O : Nat → Option Nat) (n : Nat) : Option Nat → Nat
  | none => 0
  | some h => clv O n h
theorem cO_up (hg : Gd G) (hN : NestOK G hs s B irr) {p : Nat} (hp : p ∈ hs) : cO s.O G.length (some p) = cO s.O G.length (s.O p) + 1 := by
  have hl := hN.lt p hp
  cases e : s.O p with
  | none => exact clv_none hl e
  | some b => exact clv_some (hN.oi.rank hg (phi_ok hg)) hl e
theorem cO_le (hN : NestOK G hs s B irr) {o : Option Nat} (ho : ∀ h, o = some h → h ∈ hs) : cO s.O G.length o ≤ hs.length := by
  cases o with
  | none => exact Nat.zero_le _
  | some p =>
    show clv s.O G.length p ≤ _
    unfold clv
    rw [List.countP_eq_length_filter]
    refine List.Nodup.length_le_of_subset (List.Nodup.sublist List.filter_sublist List.nodup_range) fun a ha => ?_
    have := (List.mem_filter.1 ha).2
    simp only [decide_eq_true_eq] at this
    exact hN.oi.mem this (ho p rfl)
theorem dpO_cO (hN : NestOK G hs s B irr) : dpO s (B x) = cO s.O G.length (B x) := by
  cases e : B x with
  | none => rfl
  | some b => exact hN.dp b (hN.bm x b e)
theorem oi_mem (hN : NestOK G hs s B irr) {p : Nat} : ∀ h, s.O p = some h → h ∈ hs := fun h e => (hN.oi.ok p h e).2.1
theorem ixO_inj {o o' : Option Nat} (h1 : ∀ h, o = some h → h ∈ hs) (h2 : ∀ h, o' = some h → h ∈ hs) (e : ixO hs o = ixO hs o') : o = o' := by
  cases o with
  | none => cases o' with
    | none => rfl
    | some b => have e : (-1 : Int) = ((hs.idxOf b : Nat) : Int) := e; omega
  | some a => cases o' with
    | none => have e : ((hs.idxOf a : Nat) : Int) = (-1 : Int) := e; omega
    | some b =>
      have e : ((hs.idxOf a : Nat) : Int) = ((hs.idxOf b : Nat) : Int) := e
      have e : hs.idxOf a = hs.idxOf b := by omega
      have ha := (idx_get (h1 a rfl)).2
      rw [e, (idx_get (h2 b rfl)).2] at ha
      rw [ha]
end

theorem fr_rch {G : Graph} {x y : Nat} (r : FR G x y) : Rch G (-1) x y := by
  induction r with
  | refl => exact .refl _
  | step _ e ih => exact Rc.step ih e.1
theorem no_hdr {G : Graph} (hg : Gd G) (hnc : ¬ ∃ x y, Ed G x y ∧ Rch G (-1) y x) {h : Nat} : ¬ Hdr G h := fun ⟨x, e, d⟩ => hnc ⟨x, h, e, fr_rch (fr_of_dm hg d)⟩
theorem no_loops {G : Graph} {hs : List Nat} {O B : Nat → Option Nat} (h : Nest G hs O B) (hn : ∀ h, ¬ Hdr G h) : hs = [] ∧ ∀ x, x < G.length → B x = none := by
  constructor
  · cases hs with
    | nil => rfl
    | cons a l => exact absurd ((h.hdr a).1 (List.mem_cons_self ..)) (hn a)
  · intro x hx
    cases e : B x with
    | none => rfl
    | some b => exact absurd (h.inn x b hx e).1.hdr (hn b)

set_option maxHeartbeats 1000000 in
theorem fnNoLoop_calls {w0 : World} {v : Value} {G0 : List (List Int)} (hR : RowsAt w0 v G0) : Calls Try.prog 10 #[v] w0 (Ret fun u w' => u = .bool true ∧ RowKit.Below w0.heap.size w0 w') := by
  have hS := St.refl w0
  refine V_enter (N := 70) Try.func10 rfl Try.ntmps10 rfl ?_
  refine VC.sub (τ := [(0, _)]) ⟨rfl, trivial⟩ ?_
  refine VC_seq ?_
  refine VC_region ?_
  refine VL_val rfl rfl rfl (yd_assign rfl) ?_
  refine VL_nil ?_
  refine VE_then ?_
  refine VC_seq ?_
  refine VC_seq ?_
  refine VC_region ?_
  refine VL_val rfl rfl rfl (yd_move rfl) ?_
  refine VL_call rfl rfl rfl rfl T.call15 rfl (zzFits1_ok (hS.rows hR)) ?_
  rintro _ _ ⟨rfl, bz, rfl, hz⟩
  refine VL_val rfl rfl rfl (yd_not rfl) ?_
  refine VL_nil ?_
  refine VE_then ?_
  refine VC_cond rfl (fun h12 => ?_) (fun h12 => ?_)
  · replace h12 := V.nt h12
    refine VC_seq ?_
    refine VC_region ?_
    refine VL_val rfl rfl rfl (yd_assign rfl) ?_
    refine VL_nil ?_
    refine VE_then ?_
    refine VC_ret ?_
    refine VE_then_ret (?_)
    refine VE_ret1 (rfl) rfl ?_
    exact ⟨rfl, hS.below⟩
  · replace h12 := V.nf h12
    have hzt := h12
    refine VC_skip ?_
    refine VE_then ?_
    refine VC_seq ?_
    refine VC_region ?_
    refine VL_val rfl rfl rfl (yd_move rfl) ?_
    refine VL_call rfl rfl rfl rfl T.call23 rfl (lwhole_ok (hS.rows hR) (Nat.le_trans (hz hzt) (by decide))) ?_
    rintro _ w ⟨c1, c2, c3, ok, η, rfl, hone, hR2, hwh⟩
    have hS : St w0 M0 [bundle η] w := St_bundle (hS.call0 hR2)
    refine VL_val rfl rfl rfl (yd_move rfl) ?_
    refine VL_val rfl rfl rfl (yd_extract rfl rfl) ?_
    refine VL_val rfl rfl rfl (yd_extract rfl rfl) ?_
    refine VL_alloc rfl rfl rfl rfl T.e33 hS ?_
    clear hS; intro b3 w hS
    refine VL_storeN (cs := [c1, c2, c3]) rfl rfl rfl rfl rfl T.agg33 hone hS 1 rfl (by simp [Value.cells]) ?_
    clear hS; intro w hS
    refine VL_val rfl rfl rfl (yd_assign rfl) ?_
    refine VL_nil ?_
    refine VE_then ?_
    refine VC_seq ?_
    refine VC_seq ?_
    refine VC_region ?_
    refine VL_val rfl rfl rfl (yd_move rfl) ?_
    refine VL_val rfl rfl rfl (yd_not rfl) ?_
    refine VL_val rfl rfl rfl (yd_move rfl) ?_
    refine VL_split 20 rfl (fun h20 => ?_) (fun h20 => ?_)
    · replace h20 := V.nt h20
      refine VL_no rfl rfl rfl rfl rfl rfl rfl ?_
      refine VL_no rfl rfl rfl rfl rfl rfl rfl ?_
      refine VL_no rfl rfl rfl rfl rfl rfl rfl ?_
      refine VL_val rfl rfl rfl (yd_pick_t rfl rfl) ?_
      refine VL_nil ?_
      refine VE_then ?_
      refine VC_cond_t rfl ?_
      refine VC_seq ?_
      refine VC_region ?_
      refine VL_val rfl rfl rfl (yd_assign rfl) ?_
      refine VL_nil ?_
      refine VE_then ?_
      refine VC_ret ?_
      refine VE_then_ret (?_)
      refine VE_ret1 (rfl) rfl ?_
      exact ⟨rfl, hS.below⟩
    · replace h20 := V.nf h20
      obtain ⟨G, s, hG, hg, hok, rfl, rfl, rfl, hw, hRed, rfl⟩ := hwh h20
      have hle := hg.le
      have hpos := hg.pos
      have hG0 := hG
      obtain ⟨ga, gc, gb, go, rfl, hga, hrow⟩ := hG
      obtain rfl := hga (by omega)
      refine VL_yes rfl rfl rfl rfl ?_
      refine VL_val rfl rfl rfl (yd_field rfl T.fld33_0) ?_
      refine VL_yes rfl rfl rfl rfl ?_
      refine VL_val rfl rfl rfl (yd_load rfl T.one22 (blk_cell (hS.get 1 rfl) rfl)) ?_
      refine VL_yes rfl rfl rfl rfl ?_
      refine VL_call rfl rfl rfl rfl T.call20 rfl (circle_ok (hS.graph hG0) hg) ?_
      rintro _ w ⟨bc, rfl, hR5, hci⟩
      have hS := hS.call0 hR5
      refine VL_val rfl rfl rfl (yd_pick_f rfl rfl) ?_
      refine VL_nil ?_
      refine VE_then ?_
      refine VC_cond rfl (fun h24 => ?_) (fun h24 => ?_)
      · skip
        refine VC_seq ?_
        refine VC_region ?_
        refine VL_val rfl rfl rfl (yd_assign rfl) ?_
        refine VL_nil ?_
        refine VE_then ?_
        refine VC_ret ?_
        refine VE_then_ret (?_)
        refine VE_ret1 (rfl) rfl ?_
        exact ⟨rfl, hS.below⟩
      · skip
        have hnc : ¬ ∃ x y, Ed G x y ∧ Rch G (-1) y x := fun h => by rw [hci.2 h] at h24; cases h24
        refine VC_skip ?_
        refine VE_then ?_
        refine VC_seq ?_
        refine VC_region ?_
        refine VL_val rfl rfl rfl (yd_move rfl) ?_
        refine VL_call rfl rfl rfl rfl T.call24 rfl (implLoops_ok (hS.graph hG0) hg hw) ?_
        rintro _ w ⟨hs, s2, B, irr, v1, v2, v3, rfl, hN, hR3⟩
        have hS := hS.call0 hR3
        have hNe := hN.nest hRed
        have hhl : hs.length ≤ 13 := Nat.le_trans (nodup_len _ hN.nd hN.lt) hg.le
        obtain ⟨va, vc, rfl, hvb⟩ := row_slice (hS.get 2 rfl)
        obtain ⟨ib, ic, rfl, -⟩ := row_form (hS.get 3 rfl) (.inr (by omega))
        obtain ⟨db, dc, rfl, -⟩ := row_form (hS.get 4 rfl) (.inr (by omega))
        obtain ⟨rfl, hB⟩ := no_loops hNe (fun h => no_hdr hg hnc)
        have hirr : irr = false := by
          cases irr with
          | false => rfl
          | true => exact absurd hRed (hN.irr.1 rfl)
        subst hirr
        refine VL_val rfl rfl rfl (yd_move rfl) ?_
        refine VL_val rfl rfl rfl (yd_extract rfl rfl) ?_
        refine VL_val rfl rfl rfl (yd_extract rfl rfl) ?_
        refine VL_val rfl rfl rfl (yd_extract rfl rfl) ?_
        refine VL_val rfl rfl rfl (yd_extract rfl rfl) ?_
        refine VL_val rfl rfl rfl (yd_assign rfl) ?_
        refine VL_val rfl rfl rfl (yd_assign rfl) ?_
        refine VL_val rfl rfl rfl (yd_assign rfl) ?_
        refine VL_val rfl rfl rfl (yd_assign rfl) ?_
        refine VL_nil ?_
        refine VE_then ?_
        refine VC_seq ?_
        refine VC_seq ?_
        refine VC_region ?_
        refine VL_val rfl rfl rfl (yd_move rfl) ?_
        refine VL_val rfl rfl rfl (yd_len rfl Try.underlying36) ?_
        refine VL_val rfl rfl rfl (yd_gtr rfl rfl) ?_
        refine VL_val rfl rfl rfl (yd_move rfl) ?_
        refine VL_split 35 rfl (fun h35 => ?_) (fun h35 => ?_)
        · replace h35 := of_decide_eq_true h35
          exact absurd h35 (by decide)
        · replace h35 := Int.not_lt.1 (of_decide_eq_false h35)
          refine VL_yes rfl rfl rfl rfl ?_
          refine VL_val rfl rfl rfl (yd_move rfl) ?_
          refine VL_val rfl rfl rfl (yd_pick_f rfl rfl) ?_
          refine VL_val rfl rfl rfl (yd_move rfl) ?_
          refine VL_split 38 rfl (fun h38 => ?_) (fun h38 => ?_)
          · skip
            cases h38
          · skip
            refine VL_yes rfl rfl rfl rfl ?_
            refine VL_val rfl rfl rfl (yd_move rfl) ?_
            refine VL_yes rfl rfl rfl rfl ?_
            refine VL_val rfl rfl rfl (yd_len rfl Try.underlying24) ?_
            refine VL_yes rfl rfl rfl rfl ?_
            refine VL_val rfl rfl rfl (yd_move rfl) ?_
            refine VL_yes rfl rfl rfl rfl ?_
            refine VL_val rfl rfl rfl (yd_len rfl Try.underlying22) ?_
            refine VL_yes rfl rfl rfl rfl ?_
            refine VL_val rfl rfl rfl (yd_neq rfl rfl) ?_
            refine VL_val rfl rfl rfl (yd_pick_f rfl rfl) ?_
            refine VL_val rfl rfl rfl (yd_move rfl) ?_
            refine VL_split 45 rfl (fun h45 => ?_) (fun h45 => ?_)
            · replace h45 := of_decide_eq_true h45
              exact absurd rfl h45
            · replace h45 := Decidable.not_not.1 (of_decide_eq_false h45)
              refine VL_yes rfl rfl rfl rfl ?_
              refine VL_val rfl rfl rfl (yd_move rfl) ?_
              refine VL_yes rfl rfl rfl rfl ?_
              refine VL_val rfl rfl rfl (yd_len rfl Try.underlying24) ?_
              refine VL_yes rfl rfl rfl rfl ?_
              refine VL_val rfl rfl rfl (yd_move rfl) ?_
              refine VL_yes rfl rfl rfl rfl ?_
              refine VL_val rfl rfl rfl (yd_len rfl Try.underlying22) ?_
              refine VL_yes rfl rfl rfl rfl ?_
              refine VL_val rfl rfl rfl (yd_neq rfl rfl) ?_
              refine VL_val rfl rfl rfl (yd_pick_f rfl rfl) ?_
              refine VL_nil ?_
              refine VE_then ?_
              refine VC_cond rfl (fun h51 => ?_) (fun h51 => ?_)
              · replace h51 := of_decide_eq_true h51
                exact absurd rfl h51
              · replace h51 := Decidable.not_not.1 (of_decide_eq_false h51)
                refine VC_skip ?_
                refine VE_then ?_
                refine VC_seq ?_
                refine VC_seq ?_
                refine VC_region ?_
                refine VL_val rfl rfl rfl (yd_move rfl) ?_
                refine VL_val rfl rfl rfl (yd_len rfl Try.underlying22) ?_
                refine VL_val rfl rfl rfl (yd_move rfl) ?_
                refine VL_nil ?_
                refine VE_then ?_
                refine VC_block ?_
                refine VC_loop1 [6, 7, 53] [_, _, _] rfl (fun (x : Nat) => [(54, .int .i64 ((x : Nat) : Int))]) (fun (x : Nat) w => x ≤ G.length ∧ St w0 M0 [bundle [shapeR s G], blk b3 33 [.slice (some ⟨gb, go, none⟩) G.length gc, s.live G, s.dom G], row (.slice va ([] : List Nat).length vc) 40 5 ([] : List Nat).length (loopC ([] : List Nat) s2 ([] : List Nat)), row (.slice (some ⟨ib, 0, none⟩) G.length ic) 3 1 G.length (((List.range G.length).map fun x => ixO ([] : List Nat) (B x)).map (Value.int .i64)), row (.slice (some ⟨db, 0, none⟩) G.length dc) 3 1 G.length (((List.range G.length).map fun x => ((dpO s2 (B x) : Nat) : Int)).map (Value.int .i64))] w) (fun (x : Nat) => G.length - x) 0 ⟨rfl, trivial⟩ (⟨Nat.zero_le _, hS⟩) ?_
                clear hS; rintro x w ⟨hx, hS⟩
                refine VC_seq ?_
                refine VC_region ?_
                refine VL_val rfl rfl rfl (yd_lss rfl rfl) ?_
                refine VL_nil ?_
                refine VE_then ?_
                refine VC_seq ?_
                refine VC_cond rfl (fun h55 => ?_) (fun h55 => ?_)
                · replace h55 := of_decide_eq_true h55
                  refine VC_skip ?_
                  refine VE_then ?_
                  refine VC_seq ?_
                  refine VC_block ?_
                  refine VC_seq ?_
                  refine VC_region ?_
                  have hxl : x < G.length := by omega
                  have hBx := hB x hxl
                  refine VL_val rfl rfl rfl (yd_move rfl) ?_
                  refine VL_val rfl rfl rfl (yd_assign rfl) ?_
                  refine VL_nil ?_
                  refine VE_then ?_
                  refine VC_seq ?_
                  refine VC_region ?_
                  refine VL_val rfl rfl rfl (yd_move rfl) ?_
                  refine VL_val rfl rfl rfl (yd_move rfl) ?_
                  refine VL_val rfl rfl rfl (yd_index0 rfl rfl Try.underlying24 T.sz3 (by omega)) ?_
                  refine VL_val rfl rfl rfl (yd_load rfl T.one3 (show _ = some (Value.int .i64 (ixO [] (B x))) from row_cell (hS.get 3 rfl) (by simp [*]))) ?_
                  refine VL_val rfl rfl rfl (yd_neq rfl rfl) ?_
                  refine VL_val rfl rfl rfl (yd_move rfl) ?_
                  refine VL_split 62 rfl (fun h62 => ?_) (fun h62 => ?_)
                  · replace h62 := of_decide_eq_true h62
                    exact absurd (by rw [hBx]; rfl) h62
                  · replace h62 := Decidable.not_not.1 (of_decide_eq_false h62)
                    refine VL_yes rfl rfl rfl rfl ?_
                    refine VL_val rfl rfl rfl (yd_move rfl) ?_
                    refine VL_yes rfl rfl rfl rfl ?_
                    refine VL_val rfl rfl rfl (yd_move rfl) ?_
                    refine VL_yes rfl rfl rfl rfl ?_
                    refine VL_val rfl rfl rfl (yd_index0 rfl rfl Try.underlying24 T.sz3 (by omega)) ?_
                    refine VL_yes rfl rfl rfl rfl ?_
                    refine VL_val rfl rfl rfl (yd_load rfl T.one3 (show _ = some (Value.int .i64 ((dpO s2 (B x) : Nat) : Int)) from row_cell (hS.get 4 rfl) (by simp [*]))) ?_
                    refine VL_yes rfl rfl rfl rfl ?_
                    refine VL_val rfl rfl rfl (yd_neq rfl rfl) ?_
                    refine VL_val rfl rfl rfl (yd_pick_f rfl rfl) ?_
                    refine VL_nil ?_
                    refine VE_then ?_
                    refine VC_cond rfl (fun h68 => ?_) (fun h68 => ?_)
                    · replace h68 := of_decide_eq_true h68
                      exact absurd (by rw [hBx]; rfl) h68
                    · replace h68 := Decidable.not_not.1 (of_decide_eq_false h68)
                      refine VC_skip ?_
                      refine VE_block_normal ?_
                      refine VE_then ?_
                      refine VC_region ?_
                      refine VL_val rfl rfl rfl (yd_add rfl rfl ((x + 1 : Nat) : Int) (by rw [wi64 (by omega) (by omega)]; omega)) ?_
                      refine VL_val rfl rfl rfl (yd_move rfl) ?_
                      refine VL_nil ?_
                      exact VE_round1 (x + 1) ⟨rfl, rfl, rfl, rfl, trivial⟩ ⟨by omega, hS⟩ (by omega)
                · replace h55 := Int.not_lt.1 (of_decide_eq_false h55)
                  refine VC_exit ?_
                  refine VE_then_exit (VE_then_exit (VE_block_exit ?_))
                  refine VE_then ?_
                  refine VC_seq ?_
                  refine VC_region ?_
                  refine VL_val rfl rfl rfl (yd_assign rfl) ?_
                  refine VL_nil ?_
                  refine VE_then ?_
                  refine VC_ret ?_
                  refine VE_ret1 (rfl) rfl ?_
                  exact ⟨rfl, hS.below⟩

end Go.Proofs.Ytmoooaaiohplhaa
