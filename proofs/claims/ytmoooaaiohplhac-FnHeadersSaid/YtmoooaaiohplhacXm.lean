/- The law on the headers around a block. -/
import Derived.Test.YtmoooaaiohplhacYd
namespace Go.Proofs.Ytmoooaaiohplhac
open Go Go.V
set_option linter.unusedVariables false
set_option maxRecDepth 100000

theorem T.fld45_1 : FieldT Try.prog 45 1 1 := FieldT.of (by kernel_rfl)
theorem T.call12 : CallT Try.prog 12 := CallT.of Try.func12 (by kernel_rfl) (by kernel_rfl)
theorem T.call14 : CallT Try.prog 14 := CallT.of Try.func14 (by kernel_rfl) (by kernel_rfl)
theorem T.call23 : CallT Try.prog 23 := CallT.of Try.func23 (by kernel_rfl) (by kernel_rfl)
theorem T.call24 : CallT Try.prog 24 := CallT.of Try.func24 (by kernel_rfl) (by kernel_rfl)
theorem T.call29 : CallT Try.prog 29 := CallT.of Try.func29 (by kernel_rfl) (by kernel_rfl)

open Go.PL
section
variable {G : Graph} {hs : List Nat} {O B : Nat → Option Nat} {q : QRep} {s : LRep} {irr : Bool} {x : Nat}
theorem inner_is (h : Nest G hs O B) (hx : x < G.length) : IsInner G x (-1) (B x) :=
  ⟨fun b e => ⟨(h.inn x b hx e).1, by omega, fun q l _ => ((h.inn x b hx e).2 q l).dm⟩, fun e q l => absurd l (h.non x hx e q)⟩
theorem outer_is (h : Nest G hs O B) (ho : OI (phi G) hs O) (hx : x ∈ hs) : IsInner G x (x : Int) (O x) := by
  constructor
  · intro p e
    have hp := ho.ok x p e
    refine ⟨(h.up p x hx).1 (.step e (.refl _)), fun e2 => hp.2.2.1 (by omega), fun q l hne => ?_⟩
    have ha := (h.up q x hx).2 l
    cases ha with
    | refl => exact absurd rfl hne
    | step e2 ha => rw [e] at e2; cases e2; exact ((h.up q p hp.2.1).1 ha).dm
  · intro e q l
    have ha := (h.up q x hx).2 l
    cases ha with
    | refl => rfl
    | step e2 _ => rw [e] at e2; cases e2
theorem depth_is (h : Nest G hs O B) (hq : QOK q G) (hx : x ∈ hs) (hxl : x < G.length) : (List.range G.length).countP (fun h => q.lp h x) = clv O G.length x := by
  unfold clv
  refine List.countP_congr fun a ha => ?_
  have hal := List.mem_range.1 ha
  simp only [decide_eq_true_eq]
  exact (hq a x hal hxl).trans (h.up a x hx).symm
theorem depth_x (hN : NestOK G hs s B irr) (h : Nest G hs s.O B) (hq : QOK q G) (hxl : x < G.length) : (List.range G.length).countP (fun h => q.lp h x) = dpO s (B x) := by
  cases e : B x with
  | none =>
    refine List.countP_eq_zero.2 fun a ha hl => ?_
    exact h.non x hxl e a ((hq a x (List.mem_range.1 ha) hxl).1 hl)
  | some b =>
    have hb := hN.bm x b e
    have hbl := hN.lt b hb
    obtain ⟨h1, h2⟩ := h.inn x b hxl e
    show _ = s.dp b
    rw [hN.dp b hb, ← depth_is h hq hb hbl]
    refine List.countP_congr fun a ha => ?_
    have hal := List.mem_range.1 ha
    exact (hq a x hal hxl).trans ((⟨h2 a, fun l => h1.trans l⟩ : Lp G a x ↔ Lp G a b).trans (hq a b hal hbl).symm)
theorem nb_is (hg : Gd G) (hw : ∀ x, x < G.length → Rc G 0 x) (hN : NestOK G hs s B irr) (hr : Red G) (h : Nat) : s.nb h = (List.range G.length).countP fun y => B y == some h := by
  rw [hN.nbc hr h]
  have hP := postL_ok hg
  refine List.Perm.countP_eq _ (List.perm_iff_count.2 fun a => ?_)
  rw [hP.nd.count, List.nodup_range.count]
  have e : (a ∈ postL G) = (a ∈ List.range G.length) := propext ((hP.mem a).trans ⟨fun r => List.mem_range.2 (Rch.lt hg hg.pos r), fun r => hw a (List.mem_range.1 r)⟩)
  simp only [e]
theorem inn_iff (hN : NestOK G hs s B irr) (h : Nest G hs s.O B) (hr : Red G) {p : Nat} (hp : p ∈ hs) : s.inn p = true ↔ ∀ x, x < G.length → ¬ (x ≠ p ∧ Lp G p x ∧ Hdr G x) := by
  constructor
  · intro hi x _ ⟨hne, hl, hd⟩
    have ha := (h.up p x ((h.hdr x).2 hd)).2 hl
    rcases abv_child ha with e | ⟨c, e, _⟩
    · exact hne e
    · rw [hN.ii c p e] at hi; cases hi
  · intro hn
    cases hb : s.inn p with
    | true => rfl
    | false =>
      obtain ⟨_, x, hx, h1, _, h3⟩ := hN.i0 p hb
      exact absurd ⟨fun e => h1 e.symm, h3 hr, (h.hdr x).1 hx⟩ (hn x (hN.lt x hx))
noncomputable def cO (O : Nat → Option Nat) (n : Nat) : Option Nat → Nat
  | none => 0
  | some h => clv O n h
theorem cO_up (hg : Gd G) (hN : NestOK G hs s B irr) {p : Nat} (hp : p ∈ hs) : cO s.O G.length (some p) = cO s.O G.length (s.O p) + 1 := by
  have hl := hN.lt p hp
  cases e : s.O p with
  | none => exact clv_none hl e
  | some b => exact clv_some (hN.oi.rank hg (phi_ok hg)) hl e
theorem cO_le (hN : NestOK G hs s B irr) {o : Option Nat} (ho : ∀ h, o = some h → h ∈ hs) : cO s.O G.length o ≤ hs.length := by
  cases o with
  | none => exact Nat.zero_le _
  | some p =>
    show clv s.O G.length p ≤ _
    unfold clv
    rw [List.countP_eq_length_filter]
    refine List.Nodup.length_le_of_subset (List.Nodup.sublist List.filter_sublist List.nodup_range) fun a ha => ?_
    have := (List.mem_filter.1 ha).2
    simp only [decide_eq_true_eq] at this
    exact hN.oi.mem this (ho p rfl)
theorem dpO_cO (hN : NestOK G hs s B irr) : dpO s (B x) = cO s.O G.length (B x) := by
  cases e : B x with
  | none => rfl
  | some b => exact hN.dp b (hN.bm x b e)
theorem oi_mem (hN : NestOK G hs s B irr) {p : Nat} : ∀ h, s.O p = some h → h ∈ hs := fun h e => (hN.oi.ok p h e).2.1
theorem ixO_inj {o o' : Option Nat} (h1 : ∀ h, o = some h → h ∈ hs) (h2 : ∀ h, o' = some h → h ∈ hs) (e : ixO hs o = ixO hs o') : o = o' := by
  cases o with
  | none => cases o' with
    | none => rfl
    | some b => have e : (-1 : Int) = ((hs.idxOf b : Nat) : Int) := e; omega
  | some a => cases o' with
    | none => have e : ((hs.idxOf a : Nat) : Int) = (-1 : Int) := e; omega
    | some b =>
      have e : ((hs.idxOf a : Nat) : Int) = ((hs.idxOf b : Nat) : Int) := e
      have e : hs.idxOf a = hs.idxOf b := by omega
      have ha := (idx_get (h1 a rfl)).2
      rw [e, (idx_get (h2 b rfl)).2] at ha
      rw [ha]
end

set_option maxHeartbeats 1000000 in
theorem fnHeaders_calls {w0 : World} {v : Value} {G0 : List (List Int)} {x : Int} (hR : RowsAt w0 v G0) : Calls Try.prog 8 #[v, .int .i64 x] w0 (Ret fun u w' => u = .bool true ∧ RowKit.Below w0.heap.size w0 w') := by
  have hS := St.refl w0
  refine V_enter (N := 102) Try.func8 rfl Try.ntmps8 rfl ?_
  refine VC.sub (τ := [(0, _), (1, _)]) ⟨rfl, rfl, trivial⟩ ?_
  refine VC_seq ?_
  refine VC_region ?_
  refine VL_val rfl rfl rfl (yd_assign rfl) ?_
  refine VL_nil ?_
  refine VE_then ?_
  refine VC_seq ?_
  refine VC_seq ?_
  refine VC_region ?_
  refine VL_val rfl rfl rfl (yd_move rfl) ?_
  refine VL_call rfl rfl rfl rfl T.call12 rfl (zzFits1_ok (hS.rows hR)) ?_
  rintro _ _ ⟨rfl, bz, rfl, hz⟩
  refine VL_val rfl rfl rfl (yd_not rfl) ?_
  refine VL_nil ?_
  refine VE_then ?_
  refine VC_cond rfl (fun h15 => ?_) (fun h15 => ?_)
  · replace h15 := V.nt h15
    refine VC_seq ?_
    refine VC_region ?_
    refine VL_val rfl rfl rfl (yd_assign rfl) ?_
    refine VL_nil ?_
    refine VE_then ?_
    refine VC_ret ?_
    refine VE_then_ret (?_)
    refine VE_ret1 (rfl) rfl ?_
    exact ⟨rfl, hS.below⟩
  · replace h15 := V.nf h15
    have hzt := h15
    refine VC_skip ?_
    refine VE_then ?_
    refine VC_seq ?_
    refine VC_region ?_
    refine VL_val rfl rfl rfl (yd_move rfl) ?_
    refine VL_call rfl rfl rfl rfl T.call23 rfl (lwhole_ok (hS.rows hR) (Nat.le_trans (hz hzt) (by decide))) ?_
    rintro _ w ⟨c1, c2, c3, ok, η, rfl, hone, hR2, hwh⟩
    have hS : St w0 M0 [bundle η] w := St_bundle (hS.call0 hR2)
    refine VL_val rfl rfl rfl (yd_move rfl) ?_
    refine VL_val rfl rfl rfl (yd_extract rfl rfl) ?_
    refine VL_val rfl rfl rfl (yd_extract rfl rfl) ?_
    refine VL_alloc rfl rfl rfl rfl T.e37 hS ?_
    clear hS; intro b5 w hS
    refine VL_storeN (cs := [c1, c2, c3]) rfl rfl rfl rfl rfl T.agg37 hone hS 1 rfl (by simp [Value.cells]) ?_
    clear hS; intro w hS
    refine VL_val rfl rfl rfl (yd_assign rfl) ?_
    refine VL_nil ?_
    refine VE_then ?_
    refine VC_seq ?_
    refine VC_seq ?_
    refine VC_region ?_
    refine VL_val rfl rfl rfl (yd_move rfl) ?_
    refine VL_val rfl rfl rfl (yd_not rfl) ?_
    refine VL_val rfl rfl rfl (yd_move rfl) ?_
    refine VL_split 23 rfl (fun h23 => ?_) (fun h23 => ?_)
    · replace h23 := V.nt h23
      refine VL_no rfl rfl rfl rfl rfl rfl rfl ?_
      refine VL_no rfl rfl rfl rfl rfl rfl rfl ?_
      refine VL_no rfl rfl rfl rfl rfl rfl rfl ?_
      refine VL_no rfl rfl rfl rfl rfl rfl rfl ?_
      refine VL_val rfl rfl rfl (yd_pick_t rfl rfl) ?_
      refine VL_nil ?_
      refine VE_then ?_
      refine VC_cond_t rfl ?_
      refine VC_seq ?_
      refine VC_region ?_
      refine VL_val rfl rfl rfl (yd_assign rfl) ?_
      refine VL_nil ?_
      refine VE_then ?_
      refine VC_ret ?_
      refine VE_then_ret (?_)
      refine VE_ret1 (rfl) rfl ?_
      exact ⟨rfl, hS.below⟩
    · replace h23 := V.nf h23
      obtain ⟨G, s, hG, hg, hok, rfl, rfl, rfl, hw, hRed, rfl⟩ := hwh h23
      have hle := hg.le
      have hpos := hg.pos
      have hG0 := hG
      obtain ⟨ga, gc, gb, go, rfl, hga, hrow⟩ := hG
      obtain rfl := hga (by omega)
      refine VL_yes rfl rfl rfl rfl ?_
      refine VL_val rfl rfl rfl (yd_move rfl) ?_
      refine VL_yes rfl rfl rfl rfl ?_
      refine VL_val rfl rfl rfl (yd_move rfl) ?_
      refine VL_yes rfl rfl rfl rfl ?_
      refine VL_call rfl rfl rfl rfl T.call14 rfl (block_ok (hS.graph hG0)) ?_
      rintro _ _ ⟨rfl, bx, rfl, hbx⟩
      refine VL_yes rfl rfl rfl rfl ?_
      refine VL_val rfl rfl rfl (yd_not rfl) ?_
      refine VL_val rfl rfl rfl (yd_pick_f rfl rfl) ?_
      refine VL_nil ?_
      refine VE_then ?_
      refine VC_cond rfl (fun h28 => ?_) (fun h28 => ?_)
      · replace h28 := V.nt h28
        refine VC_seq ?_
        refine VC_region ?_
        refine VL_val rfl rfl rfl (yd_assign rfl) ?_
        refine VL_nil ?_
        refine VE_then ?_
        refine VC_ret ?_
        refine VE_then_ret (?_)
        refine VE_ret1 (rfl) rfl ?_
        exact ⟨rfl, hS.below⟩
      · replace h28 := V.nf h28
        have hx := hbx.1 h28
        obtain ⟨xn, rfl⟩ : ∃ xn : Nat, x = xn := ⟨x.toNat, by omega⟩
        have hxn : xn < G.length := by omega
        refine VC_skip ?_
        refine VE_then ?_
        refine VC_seq ?_
        refine VC_region ?_
        refine VL_val rfl rfl rfl (yd_move rfl) ?_
        refine VL_call rfl rfl rfl rfl T.call24 rfl (implLoops_ok (hS.graph hG0) hg hw) ?_
        rintro _ w ⟨hs, s2, B, irr, v1, v2, v3, rfl, hN, hR3⟩
        have hS := hS.call0 hR3
        have hNe := hN.nest hRed
        have hhl : hs.length ≤ 13 := Nat.le_trans (nodup_len _ hN.nd hN.lt) hg.le
        obtain ⟨va, vc, rfl, hvb⟩ := row_slice (hS.get 2 rfl)
        obtain ⟨ib, ic, rfl, -⟩ := row_form (hS.get 3 rfl) (.inr (by omega))
        obtain ⟨db, dc, rfl, -⟩ := row_form (hS.get 4 rfl) (.inr (by omega))
        refine VL_val rfl rfl rfl (yd_move rfl) ?_
        refine VL_val rfl rfl rfl (yd_extract rfl rfl) ?_
        refine VL_val rfl rfl rfl (yd_extract rfl rfl) ?_
        refine VL_val rfl rfl rfl (yd_extract rfl rfl) ?_
        refine VL_val rfl rfl rfl (yd_extract rfl rfl) ?_
        refine VL_val rfl rfl rfl (yd_assign rfl) ?_
        refine VL_val rfl rfl rfl (yd_assign rfl) ?_
        refine VL_val rfl rfl rfl (yd_assign rfl) ?_
        refine VL_val rfl rfl rfl (yd_assign rfl) ?_
        refine VL_nil ?_
        refine VE_then ?_
        refine VC_seq ?_
        refine VC_seq ?_
        refine VC_region ?_
        refine VL_val rfl rfl rfl (yd_move rfl) ?_
        refine VL_val rfl rfl rfl (yd_len rfl Try.underlying29) ?_
        refine VL_val rfl rfl rfl (yd_move rfl) ?_
        refine VL_val rfl rfl rfl (yd_len rfl Try.underlying22) ?_
        refine VL_val rfl rfl rfl (yd_neq rfl rfl) ?_
        refine VL_val rfl rfl rfl (yd_move rfl) ?_
        refine VL_split 41 rfl (fun h41 => ?_) (fun h41 => ?_)
        · replace h41 := of_decide_eq_true h41
          exact absurd rfl h41
        · replace h41 := Decidable.not_not.1 (of_decide_eq_false h41)
          refine VL_yes rfl rfl rfl rfl ?_
          refine VL_val rfl rfl rfl (yd_move rfl) ?_
          refine VL_yes rfl rfl rfl rfl ?_
          refine VL_val rfl rfl rfl (yd_len rfl Try.underlying29) ?_
          refine VL_yes rfl rfl rfl rfl ?_
          refine VL_val rfl rfl rfl (yd_move rfl) ?_
          refine VL_yes rfl rfl rfl rfl ?_
          refine VL_val rfl rfl rfl (yd_len rfl Try.underlying22) ?_
          refine VL_yes rfl rfl rfl rfl ?_
          refine VL_val rfl rfl rfl (yd_neq rfl rfl) ?_
          refine VL_val rfl rfl rfl (yd_pick_f rfl rfl) ?_
          refine VL_nil ?_
          refine VE_then ?_
          refine VC_cond rfl (fun h47 => ?_) (fun h47 => ?_)
          · replace h47 := of_decide_eq_true h47
            exact absurd rfl h47
          · replace h47 := Decidable.not_not.1 (of_decide_eq_false h47)
            refine VC_skip ?_
            refine VE_then ?_
            refine VC_seq ?_
            refine VC_region ?_
            refine VL_val rfl rfl rfl (yd_assign rfl) ?_
            refine VL_nil ?_
            refine VE_then ?_
            refine VC_seq ?_
            refine VC_seq ?_
            refine VC_region ?_
            refine VL_val rfl rfl rfl (yd_move rfl) ?_
            refine VL_val rfl rfl rfl (yd_move rfl) ?_
            refine VL_val rfl rfl rfl (yd_index0 rfl rfl Try.underlying29 T.sz3 (i := xn) (by omega)) ?_
            refine VL_val rfl rfl rfl (yd_load rfl T.one3 (show _ = some (Value.int .i64 (ixO hs (B xn))) from row_cell (hS.get 3 rfl) (by simp [*]))) ?_
            refine VL_val rfl rfl rfl (yd_assign rfl) ?_
            refine VL_nil ?_
            refine VE_then ?_
            refine VC_block ?_
            refine VC_loop2 [1, 5, 7, 9] [_, _, _, _] rfl (fun (k : Nat) (o : Option Nat) => [(11, .int .i64 ((k : Nat) : Int)), (12, .int .i64 (ixO hs o))]) (fun (k : Nat) (o : Option Nat) w => (∀ h, o = some h → h ∈ hs) ∧ (∀ h, o = some h → Lp G h xn) ∧ k + cO s2.O G.length o = dpO s2 (B xn) ∧ St w0 M0 [bundle [shapeR s G], blk b5 37 [.slice (some ⟨gb, go, none⟩) G.length gc, s.live G, s.dom G], row (.slice va hs.length vc) 45 5 hs.length (loopC hs s2 hs), row (.slice (some ⟨ib, 0, none⟩) G.length ic) 3 1 G.length (((List.range G.length).map fun x => ixO hs (B x)).map (Value.int .i64)), row (.slice (some ⟨db, 0, none⟩) G.length dc) 3 1 G.length (((List.range G.length).map fun x => ((dpO s2 (B x) : Nat) : Int)).map (Value.int .i64))] w) (fun (k : Nat) (o : Option Nat) => cO s2.O G.length o) 0 (B xn) ⟨rfl, rfl, trivial⟩ (⟨hN.bm xn, fun h e => (hNe.inn xn h hxn e).1, by rw [dpO_cO hN, Nat.zero_add], hS⟩) ?_
            clear hS; rintro k o w ⟨hom, hol, hko, hS⟩
            have hcb := cO_le hN (hN.bm xn)
            rw [← dpO_cO hN] at hcb
            refine VC_seq ?_
            refine VC_seq ?_
            refine VC_region ?_
            refine VL_val rfl rfl rfl (yd_move rfl) ?_
            refine VL_val rfl rfl rfl (yd_neq rfl rfl) ?_
            refine VL_nil ?_
            refine VE_then ?_
            refine VC_cond rfl (fun h53 => ?_) (fun h53 => ?_)
            · replace h53 := of_decide_eq_true h53
              obtain ⟨p, rfl⟩ : ∃ p, o = some p := by
                cases o with
                | none => exact absurd rfl h53
                | some p => exact ⟨p, rfl⟩
              have hpm := hom p rfl
              obtain ⟨hil, hget⟩ := idx_get hpm
              obtain ⟨vb, rfl⟩ := hvb (by omega)
              have hpn := hN.lt p hpm
              have hup := cO_up hg hN hpm
              have hlt1 : ¬ ixO hs (some p) < 0 := by show ¬ ((hs.idxOf p : Nat) : Int) < 0; omega
              have hlt2 : ¬ ixO hs (some p) ≥ (hs.length : Int) := by show ¬ ((hs.idxOf p : Nat) : Int) ≥ _; omega
              refine VC_skip ?_
              refine VE_then ?_
              refine VC_seq ?_
              refine VC_block ?_
              refine VC_seq ?_
              refine VC_seq ?_
              refine VC_draw T.mixed hS ?_
              clear hS; intro w hS
              refine VA_take (i := 0) rfl rfl rfl rfl (by kernel_rfl) (by kernel_rfl) (by kernel_rfl) #[true, false, false, false, false, false, false, false, false, false, false, false, false, false, false, false, false, false, false, false, false, false, false, false, false, false, false, false, false, false, false, false, false, false, false] (by kernel_rfl) (fun _ _ _ _ h => h) (fun w hS => yd_move rfl) ?_
              refine VA_take (i := 1) rfl rfl rfl rfl (by kernel_rfl) (by kernel_rfl) (by kernel_rfl) #[true, true, false, false, false, false, false, false, false, false, false, false, false, false, false, false, false, false, false, false, false, false, false, false, false, false, false, false, false, false, false, false, false, false, false] (by kernel_rfl) (fun _ _ _ _ h => h) (fun w hS => yd_lss rfl rfl) ?_
              refine VA_take (i := 2) rfl rfl rfl rfl (by kernel_rfl) (by kernel_rfl) (by kernel_rfl) #[true, true, true, false, false, false, false, false, false, false, false, false, false, false, false, false, false, false, false, false, false, false, false, false, false, false, false, false, false, false, false, false, false, false, false] (by kernel_rfl) (fun _ _ _ _ h => h) (fun w hS => yd_move rfl) ?_
              refine VA_split 61 rfl (fun h61 => ?_) (fun h61 => ?_)
              · replace h61 := of_decide_eq_true h61
                exact absurd h61 hlt1
              · replace h61 := Int.not_lt.1 (of_decide_eq_false h61)
                refine VA_takeG (i := 3) rfl rfl rfl rfl rfl rfl rfl (by kernel_rfl) (by kernel_rfl) (by kernel_rfl) #[true, true, true, true, false, false, false, false, false, false, false, false, false, false, false, false, false, false, false, false, false, false, false, false, false, false, false, false, false, false, false, false, false, false, false] (by kernel_rfl) (fun _ _ _ _ h => h) (fun w hS => yd_move rfl) ?_
                refine VA_takeG (i := 4) rfl rfl rfl rfl rfl rfl rfl (by kernel_rfl) (by kernel_rfl) (by kernel_rfl) #[true, true, true, true, true, false, false, false, false, false, false, false, false, false, false, false, false, false, false, false, false, false, false, false, false, false, false, false, false, false, false, false, false, false, false] (by kernel_rfl) (fun _ _ _ _ h => h) (fun w hS => yd_move rfl) ?_
                refine VA_takeG (i := 5) rfl rfl rfl rfl rfl rfl rfl (by kernel_rfl) (by kernel_rfl) (by kernel_rfl) #[true, true, true, true, true, true, false, false, false, false, false, false, false, false, false, false, false, false, false, false, false, false, false, false, false, false, false, false, false, false, false, false, false, false, false] (by kernel_rfl) (fun _ _ _ _ h => h) (fun w hS => yd_len rfl Try.underlying40) ?_
                refine VA_takeG (i := 6) rfl rfl rfl rfl rfl rfl rfl (by kernel_rfl) (by kernel_rfl) (by kernel_rfl) #[true, true, true, true, true, true, true, false, false, false, false, false, false, false, false, false, false, false, false, false, false, false, false, false, false, false, false, false, false, false, false, false, false, false, false] (by kernel_rfl) (fun _ _ _ _ h => h) (fun w hS => yd_geq rfl rfl) ?_
                refine VA_take (i := 7) rfl rfl rfl rfl (by kernel_rfl) (by kernel_rfl) (by kernel_rfl) #[true, true, true, true, true, true, true, true, false, false, false, false, false, false, false, false, false, false, false, false, false, false, false, false, false, false, false, false, false, false, false, false, false, false, false] (by kernel_rfl) (fun _ _ _ _ h => h) (fun w hS => yd_pick_f rfl rfl) ?_
                refine VA_take (i := 8) rfl rfl rfl rfl (by kernel_rfl) (by kernel_rfl) (by kernel_rfl) #[true, true, true, true, true, true, true, true, true, false, false, false, false, false, false, false, false, false, false, false, false, false, false, false, false, false, false, false, false, false, false, false, false, false, false] (by kernel_rfl) (fun _ _ _ _ h => h) (fun w hS => yd_move rfl) ?_
                refine VA_split 67 rfl (fun h67 => ?_) (fun h67 => ?_)
                · replace h67 := of_decide_eq_true h67
                  exact absurd h67 hlt2
                · replace h67 := Int.not_le.1 (of_decide_eq_false h67)
                  refine VA_takeG (i := 9) rfl rfl rfl rfl rfl rfl rfl (by kernel_rfl) (by kernel_rfl) (by kernel_rfl) #[true, true, true, true, true, true, true, true, true, true, false, false, false, false, false, false, false, false, false, false, false, false, false, false, false, false, false, false, false, false, false, false, false, false, false] (by kernel_rfl) (fun _ _ _ _ h => h) (fun w hS => yd_move rfl) ?_
                  refine VA_takeG (i := 10) rfl rfl rfl rfl rfl rfl rfl (by kernel_rfl) (by kernel_rfl) (by kernel_rfl) #[true, true, true, true, true, true, true, true, true, true, true, false, false, false, false, false, false, false, false, false, false, false, false, false, false, false, false, false, false, false, false, false, false, false, false] (by kernel_rfl) (fun _ _ _ _ h => h) (fun w hS => yd_move rfl) ?_
                  refine VA_takeG (i := 11) rfl rfl rfl rfl rfl rfl rfl (by kernel_rfl) (by kernel_rfl) (by kernel_rfl) #[true, true, true, true, true, true, true, true, true, true, true, true, false, false, false, false, false, false, false, false, false, false, false, false, false, false, false, false, false, false, false, false, false, false, false] (by kernel_rfl) (fun _ _ _ _ h => h) (fun w hS => yd_len rfl Try.underlying40) ?_
                  refine VA_takeG (i := 12) rfl rfl rfl rfl rfl rfl rfl (by kernel_rfl) (by kernel_rfl) (by kernel_rfl) #[true, true, true, true, true, true, true, true, true, true, true, true, true, false, false, false, false, false, false, false, false, false, false, false, false, false, false, false, false, false, false, false, false, false, false] (by kernel_rfl) (fun _ _ _ _ h => h) (fun w hS => yd_gtr rfl rfl) ?_
                  refine VA_take (i := 13) rfl rfl rfl rfl (by kernel_rfl) (by kernel_rfl) (by kernel_rfl) #[true, true, true, true, true, true, true, true, true, true, true, true, true, true, false, false, false, false, false, false, false, false, false, false, false, false, false, false, false, false, false, false, false, false, false] (by kernel_rfl) (fun _ _ _ _ h => h) (fun w hS => yd_pick_f rfl rfl) ?_
                  refine VA_take (i := 14) rfl rfl rfl rfl (by kernel_rfl) (by kernel_rfl) (by kernel_rfl) #[true, true, true, true, true, true, true, true, true, true, true, true, true, true, true, false, false, false, false, false, false, false, false, false, false, false, false, false, false, false, false, false, false, false, false] (by kernel_rfl) (fun _ _ _ _ h => h) (fun w hS => yd_move rfl) ?_
                  refine VA_split 73 rfl (fun h73 => ?_) (fun h73 => ?_)
                  · replace h73 := of_decide_eq_true h73
                    exact absurd h73 (by omega)
                  · replace h73 := Int.not_lt.1 (of_decide_eq_false h73)
                    refine VA_takeG (i := 15) rfl rfl rfl rfl rfl rfl rfl (by kernel_rfl) (by kernel_rfl) (by kernel_rfl) #[true, true, true, true, true, true, true, true, true, true, true, true, true, true, true, true, false, false, false, false, false, false, false, false, false, false, false, false, false, false, false, false, false, false, false] (by kernel_rfl) (fun _ _ _ _ h => h) (fun w hS => yd_move rfl) ?_
                    refine VA_takeG (i := 16) rfl rfl rfl rfl rfl rfl rfl (by kernel_rfl) (by kernel_rfl) (by kernel_rfl) #[true, true, true, true, true, true, true, true, true, true, true, true, true, true, true, true, true, false, false, false, false, false, false, false, false, false, false, false, false, false, false, false, false, false, false] (by kernel_rfl) (fun _ _ _ _ h => h) (fun w hS => yd_move rfl) ?_
                    refine VA_only (i := 17) (by kernel_rfl) hS ?_
                    refine VS_call rfl (wanted_yes rfl rfl rfl rfl) #[true, true, true, true, true, true, true, true, true, true, true, true, true, true, true, true, true, true, false, false, false, false, false, false, false, false, false, false, false, false, false, false, false, false, false] (by kernel_rfl) rfl rfl rfl T.call29 rfl (lheader_ok (hS.get 2 rfl) hvb hom) ?_
                    rintro _ _ ⟨rfl, rfl⟩
                    refine VA_takeG (i := 18) rfl rfl rfl rfl rfl rfl rfl (by kernel_rfl) (by kernel_rfl) (by kernel_rfl) #[true, true, true, true, true, true, true, true, true, true, true, true, true, true, true, true, true, true, true, false, false, false, false, false, false, false, false, false, false, false, false, false, false, false, false] (by kernel_rfl) (fun _ _ _ _ h => h) (fun w hS => yd_lss rfl rfl) ?_
                    refine VA_take (i := 19) rfl rfl rfl rfl (by kernel_rfl) (by kernel_rfl) (by kernel_rfl) #[true, true, true, true, true, true, true, true, true, true, true, true, true, true, true, true, true, true, true, true, false, false, false, false, false, false, false, false, false, false, false, false, false, false, false] (by kernel_rfl) (fun _ _ _ _ h => h) (fun w hS => yd_pick_f rfl rfl) ?_
                    refine VA_take (i := 20) rfl rfl rfl rfl (by kernel_rfl) (by kernel_rfl) (by kernel_rfl) #[true, true, true, true, true, true, true, true, true, true, true, true, true, true, true, true, true, true, true, true, true, false, false, false, false, false, false, false, false, false, false, false, false, false, false] (by kernel_rfl) (fun _ _ _ _ h => h) (fun w hS => yd_move rfl) ?_
                    refine VA_split 79 rfl (fun h79 => ?_) (fun h79 => ?_)
                    · replace h79 := of_decide_eq_true h79
                      exact absurd h79 (by show ¬ ((p : Nat) : Int) < 0; omega)
                    · replace h79 := Int.not_lt.1 (of_decide_eq_false h79)
                      refine VA_takeG (i := 21) rfl rfl rfl rfl rfl rfl rfl (by kernel_rfl) (by kernel_rfl) (by kernel_rfl) #[true, true, true, true, true, true, true, true, true, true, true, true, true, true, true, true, true, true, true, true, true, true, false, false, false, false, false, false, false, false, false, false, false, false, false] (by kernel_rfl) (fun _ _ _ _ h => h) (fun w hS => yd_field rfl T.fld37_2) ?_
                      refine VA_takeG (i := 22) rfl rfl rfl rfl rfl rfl rfl (by kernel_rfl) (by kernel_rfl) (by kernel_rfl) #[true, true, true, true, true, true, true, true, true, true, true, true, true, true, true, true, true, true, true, true, true, true, true, false, false, false, false, false, false, false, false, false, false, false, false] (by kernel_rfl) (fun _ _ _ _ h => h) (fun w hS => yd_load rfl T.one35 (blk_cell (hS.get 1 rfl) rfl)) ?_
                      refine VA_takeG (i := 23) rfl rfl rfl rfl rfl rfl rfl (by kernel_rfl) (by kernel_rfl) (by kernel_rfl) #[true, true, true, true, true, true, true, true, true, true, true, true, true, true, true, true, true, true, true, true, true, true, true, true, false, false, false, false, false, false, false, false, false, false, false] (by kernel_rfl) (fun _ _ _ _ h => h) (fun w hS => yd_move rfl) ?_
                      refine VA_takeG (i := 24) rfl rfl rfl rfl rfl rfl rfl (by kernel_rfl) (by kernel_rfl) (by kernel_rfl) #[true, true, true, true, true, true, true, true, true, true, true, true, true, true, true, true, true, true, true, true, true, true, true, true, true, false, false, false, false, false, false, false, false, false, false] (by kernel_rfl) (fun _ _ _ _ h => h) (fun w hS => yd_move rfl) ?_
                      refine VA_takeG (i := 25) rfl rfl rfl rfl rfl rfl rfl (by kernel_rfl) (by kernel_rfl) (by kernel_rfl) #[true, true, true, true, true, true, true, true, true, true, true, true, true, true, true, true, true, true, true, true, true, true, true, true, true, true, false, false, false, false, false, false, false, false, false] (by kernel_rfl) (fun _ _ _ _ h => h) (fun w hS => yd_index rfl rfl Try.underlying40 T.sz45 (i := hs.idxOf p) hil (hs.idxOf p * 5) (Nat.zero_add _)) ?_
                      refine VA_takeG (i := 26) rfl rfl rfl rfl rfl rfl rfl (by kernel_rfl) (by kernel_rfl) (by kernel_rfl) #[true, true, true, true, true, true, true, true, true, true, true, true, true, true, true, true, true, true, true, true, true, true, true, true, true, true, true, false, false, false, false, false, false, false, false] (by kernel_rfl) (fun _ _ _ _ h => h) (fun w hS => yd_field rfl T.fld45_0) ?_
                      refine VA_takeG (i := 27) rfl rfl rfl rfl rfl rfl rfl (by kernel_rfl) (by kernel_rfl) (by kernel_rfl) #[true, true, true, true, true, true, true, true, true, true, true, true, true, true, true, true, true, true, true, true, true, true, true, true, true, true, true, true, false, false, false, false, false, false, false] (by kernel_rfl) (fun _ _ _ _ h => h) (fun w hS => yd_load rfl T.one3 (show _ = some (Value.int .i64 ((p : Nat) : Int)) by have := l5_cell (hS.get 2 rfl) hil 0 _ rfl; rw [hget] at this; exact this)) ?_
                      refine VA_takeG (i := 28) rfl rfl rfl rfl rfl rfl rfl (by kernel_rfl) (by kernel_rfl) (by kernel_rfl) #[true, true, true, true, true, true, true, true, true, true, true, true, true, true, true, true, true, true, true, true, true, true, true, true, true, true, true, true, true, false, false, false, false, false, false] (by kernel_rfl) (fun _ _ _ _ h => h) (fun w hS => yd_index0 rfl rfl Try.underlying35 T.sz25 (i := p) (by omega)) ?_
                      refine VA_takeG (i := 29) rfl rfl rfl rfl rfl rfl rfl (by kernel_rfl) (by kernel_rfl) (by kernel_rfl) #[true, true, true, true, true, true, true, true, true, true, true, true, true, true, true, true, true, true, true, true, true, true, true, true, true, true, true, true, true, true, false, false, false, false, false] (by kernel_rfl) (fun _ _ _ _ h => h) (fun w hS => yd_load rfl T.one25 ((shapeAt (hS.graph hG0) hok ((hS.get 0 rfl).1 _ (List.mem_singleton.2 rfl))).row p hpn)) ?_
                      refine VA_takeG (i := 30) rfl rfl rfl rfl rfl rfl rfl (by kernel_rfl) (by kernel_rfl) (by kernel_rfl) #[true, true, true, true, true, true, true, true, true, true, true, true, true, true, true, true, true, true, true, true, true, true, true, true, true, true, true, true, true, true, true, false, false, false, false] (by kernel_rfl) (fun _ _ _ _ h => h) (fun w hS => yd_move rfl) ?_
                      refine VA_takeG (i := 31) rfl rfl rfl rfl rfl rfl rfl (by kernel_rfl) (by kernel_rfl) (by kernel_rfl) #[true, true, true, true, true, true, true, true, true, true, true, true, true, true, true, true, true, true, true, true, true, true, true, true, true, true, true, true, true, true, true, true, false, false, false] (by kernel_rfl) (fun _ _ _ _ h => h) (fun w hS => yd_index0 rfl rfl Try.underlying25 T.sz4 (i := xn) (by omega)) ?_
                      refine VA_takeG (i := 32) rfl rfl rfl rfl rfl rfl rfl (by kernel_rfl) (by kernel_rfl) (by kernel_rfl) #[true, true, true, true, true, true, true, true, true, true, true, true, true, true, true, true, true, true, true, true, true, true, true, true, true, true, true, true, true, true, true, true, true, false, false] (by kernel_rfl) (fun _ _ _ _ h => h) (fun w hS => yd_load rfl T.one4 ((shapeAt (hS.graph hG0) hok ((hS.get 0 rfl).1 _ (List.mem_singleton.2 rfl))).dom p xn hpn hxn)) ?_
                      refine VA_takeG (i := 33) rfl rfl rfl rfl rfl rfl rfl (by kernel_rfl) (by kernel_rfl) (by kernel_rfl) #[true, true, true, true, true, true, true, true, true, true, true, true, true, true, true, true, true, true, true, true, true, true, true, true, true, true, true, true, true, true, true, true, true, true, false] (by kernel_rfl) (fun _ _ _ _ h => h) (fun w hS => yd_not rfl) ?_
                      refine VA_take (i := 34) rfl rfl rfl rfl (by kernel_rfl) (by kernel_rfl) (by kernel_rfl) #[true, true, true, true, true, true, true, true, true, true, true, true, true, true, true, true, true, true, true, true, true, true, true, true, true, true, true, true, true, true, true, true, true, true, true] (by kernel_rfl) (fun _ _ _ _ h => h) (fun w hS => yd_pick_f rfl rfl) ?_
                      refine VA_done (by kernel_rfl) hS ?_
                      refine VE_then ?_
                      refine VC_cond rfl (fun h93 => ?_) (fun h93 => ?_)
                      · replace h93 := V.nt h93
                        exact absurd ((hok.dm p xn).2 (hol p rfl).dm) (by rw [h93]; simp)
                      · replace h93 := V.nf h93
                        refine VC_skip ?_
                        refine VE_then ?_
                        refine VC_region ?_
                        refine VL_val rfl rfl rfl (yd_move rfl) ?_
                        refine VL_val rfl rfl rfl (yd_add rfl rfl ((k + 1 : Nat) : Int) (by rw [wi64 (by omega) (by omega)]; omega)) ?_
                        refine VL_val rfl rfl rfl (yd_assign rfl) ?_
                        refine VL_nil ?_
                        refine VE_block_normal ?_
                        refine VE_then ?_
                        refine VC_region ?_
                        refine VL_val rfl rfl rfl (yd_move rfl) ?_
                        refine VL_val rfl rfl rfl (yd_move rfl) ?_
                        refine VL_val rfl rfl rfl (yd_index rfl rfl Try.underlying40 T.sz45 (i := hs.idxOf p) hil (hs.idxOf p * 5) (Nat.zero_add _)) ?_
                        refine VL_val rfl rfl rfl (yd_field rfl T.fld45_1) ?_
                        refine VL_val rfl rfl rfl (yd_load rfl T.one3 (show _ = some (Value.int .i64 (ixO hs (s2.O p))) by have := l5_cell (hS.get 2 rfl) hil 1 _ rfl; rw [hget] at this; exact this)) ?_
                        refine VL_val rfl rfl rfl (yd_assign rfl) ?_
                        refine VL_nil ?_
                        exact VE_round2 (k + 1) (s2.O p) ⟨rfl, rfl, rfl, rfl, rfl, rfl, trivial⟩ ⟨oi_mem hN, fun h e => (hol p rfl).trans ((hNe.up h p hpm).1 (.step e (.refl _))), by omega, hS⟩ (by omega)
            · replace h53 := Decidable.not_not.1 (of_decide_eq_false h53)
              obtain rfl : o = none := by
                cases o with
                | none => rfl
                | some p => have h53 : ((hs.idxOf p : Nat) : Int) = -1 := h53; omega
              refine VC_exit ?_
              refine VE_then_exit (VE_then_exit (VE_block_exit ?_))
              refine VE_then ?_
              refine VC_seq ?_
              refine VC_region ?_
              refine VL_val rfl rfl rfl (yd_move rfl) ?_
              refine VL_val rfl rfl rfl (yd_move rfl) ?_
              refine VL_val rfl rfl rfl (yd_move rfl) ?_
              refine VL_val rfl rfl rfl (yd_index0 rfl rfl Try.underlying29 T.sz3 (i := xn) (by omega)) ?_
              refine VL_val rfl rfl rfl (yd_load rfl T.one3 (show _ = some (Value.int .i64 ((dpO s2 (B xn) : Nat) : Int)) from row_cell (hS.get 4 rfl) (by simp [*]))) ?_
              refine VL_val rfl rfl rfl (yd_eql rfl rfl) ?_
              refine VL_val rfl rfl rfl (yd_assign rfl) ?_
              refine VL_nil ?_
              refine VE_then ?_
              refine VC_ret ?_
              refine VE_ret1 (rfl) rfl ?_
              have hko : k + 0 = _ := hko
              exact ⟨congrArg Value.bool (decide_eq_true (by rw [← hko]; rfl)), hS.below⟩

end Go.Proofs.Ytmoooaaiohplhac
