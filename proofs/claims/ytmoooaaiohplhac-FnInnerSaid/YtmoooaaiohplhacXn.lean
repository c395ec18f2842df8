/- The law on loops with none within. -/
import Derived.Test.YtmoooaaiohplhacYd
namespace Go.Proofs.Ytmoooaaiohplhac
open Go Go.V
set_option linter.unusedVariables false
set_option maxRecDepth 100000

theorem T.agg45 : AggT Try.prog 45 5 := ⟨⟨_, Try.underlying45, rfl⟩, by kernel_rfl⟩
theorem T.fld45_4 : FieldT Try.prog 45 4 4 := FieldT.of (by kernel_rfl)
theorem T.call12 : CallT Try.prog 12 := CallT.of Try.func12 (by kernel_rfl) (by kernel_rfl)
theorem T.call23 : CallT Try.prog 23 := CallT.of Try.func23 (by kernel_rfl) (by kernel_rfl)
theorem T.call24 : CallT Try.prog 24 := CallT.of Try.func24 (by kernel_rfl) (by kernel_rfl)
theorem T.call25 : CallT Try.prog 25 := CallT.of Try.func25 (by kernel_rfl) (by kernel_rfl)

open Go.PL
section
variable {G : Graph} {hs : List Nat} {O B : Nat → Option Nat} {q : QRep} {s : LRep} {irr : Bool} {x : Nat}
theorem inner_is (h : Nest G hs O B) (hx : x < G.length) : IsInner G x (-1) (B x) :=
  ⟨fun b e => ⟨(h.inn x b hx e).1, by omega, fun q l _ => ((h.inn x b hx e).2 q l).dm⟩, fun e q l => absurd l (h.non x hx e q)⟩
theorem outer_is (h : Nest G hs O B) (ho : OI (phi G) hs O) (hx : x ∈ hs) : IsInner G x (x : Int) (O x) := by
  constructor
  · intro p e
    have hp := ho.ok x p e
    refine ⟨(h.up p x hx).1 (.step e (.refl _)), fun e2 => hp.2.2.1 (by omega), fun q l hne => ?_⟩
    have ha := (h.up q x hx).2 l
    cases ha with
    | refl => exact absurd rfl hne
    | step e2 ha => rw [e] at e2; cases e2; exact ((h.up q p hp.2.1).1 ha).dm
  · intro e q l
    have ha := (h.up q x hx).2 l
    cases ha with
    | refl => rfl
    | step e2 _ => rw [e] at e2; cases e2
theorem depth_is (h : Nest G hs O B) (hq : QOK q G) (hx : x ∈ hs) (hxl : x < G.length) : (List.range G.length).countP (fun h => q.lp h x) = clv O G.length x := by
  unfold clv
  refine List.countP_congr fun a ha => ?_
  have hal := List.mem_range.1 ha
  simp only [decide_eq_true_eq]
  exact (hq a x hal hxl).trans (h.up a x hx).symm
theorem depth_x (hN : NestOK G hs s B irr) (h : Nest G hs s.O B) (hq : QOK q G) (hxl : x < G.length) : (List.range G.length).countP (fun h => q.lp h x) = dpO s (B x) := by
  cases e : B x with
  | none =>
    refine List.countP_eq_zero.2 fun a ha hl => ?_
    exact h.non x hxl e a ((hq a x (List.mem_range.1 ha) hxl).1 hl)
  | some b =>
    have hb := hN.bm x b e
    have hbl := hN.lt b hb
    obtain ⟨h1, h2⟩ := h.inn x b hxl e
    show _ = s.dp b
    rw [hN.dp b hb, ← depth_is h hq hb hbl]
    refine List.countP_congr fun a ha => ?_
    have hal := List.mem_range.1 ha
    exact (hq a x hal hxl).trans ((⟨h2 a, fun l => h1.trans l⟩ : Lp G a x ↔ Lp G a b).trans (hq a b hal hbl).symm)
theorem nb_is (hg : Gd G) (hw : ∀ x, x < G.length → Rc G 0 x) (hN : NestOK G hs s B irr) (hr : Red G) (h : Nat) : s.nb h = (List.range G.length).countP fun y => B y == some h := by
  rw [hN.nbc hr h]
  have hP := postL_ok hg
  refine List.Perm.countP_eq _ (List.perm_iff_count.2 fun a => ?_)
  rw [hP.nd.count, List.nodup_range.count]
  have e : (a ∈ postL G) = (a ∈ List.range G.length) := propext ((hP.mem a).trans ⟨fun r => List.mem_range.2 (Rch.lt hg hg.pos r), fun r => hw a (List.mem_range.1 r)⟩)
  simp only [e]
theorem inn_iff (hN : NestOK G hs s B irr) (h : Nest G hs s.O B) (hr : Red G) {p : Nat} (hp : p ∈ hs) : s.inn p = true ↔ ∀ x, x < G.length → ¬ (x ≠ p ∧ Lp G p x ∧ Hdr G x) := by
  constructor
  · intro hi x _ ⟨hne, hl, hd⟩
    have ha := (h.up p x ((h.hdr x).2 hd)).2 hl
    rcases abv_child ha with e | ⟨c, e, _⟩
    · exact hne e
    · rw [hN.ii c p e] at hi; cases hi
  · intro hn
    cases hb : s.inn p with
    | true => rfl
    | false =>
      obtain ⟨_, x, hx, h1, _, h3⟩ := hN.i0 p hb
      exact absurd ⟨fun e => h1 e.symm, h3 hr, (h.hdr x).1 hx⟩ (hn x (hN.lt x hx))
noncomputable def cO (O : Nat → Option Nat) (n : Nat) : Option Nat → Nat
  | none => 0
  | some h => clv O n h
theorem cO_up (hg : Gd G) (hN : NestOK G hs s B irr) {p : Nat} (hp : p ∈ hs) : cO s.O G.length (some p) = cO s.O G.length (s.O p) + 1 := by
  have hl := hN.lt p hp
  cases e : s.O p with
  | none => exact clv_none hl e
  | some b => exact clv_some (hN.oi.rank hg (phi_ok hg)) hl e
theorem cO_le (hN : NestOK G hs s B irr) {o : Option Nat} (ho : ∀ h, o = some h → h ∈ hs) : cO s.O G.length o ≤ hs.length := by
  cases o with
  | none => exact Nat.zero_le _
  | some p =>
    show clv s.O G.length p ≤ _
    unfold clv
    rw [List.countP_eq_length_filter]
    refine List.Nodup.length_le_of_subset (List.Nodup.sublist List.filter_sublist List.nodup_range) fun a ha => ?_
    have := (List.mem_filter.1 ha).2
    simp only [decide_eq_true_eq] at this
    exact hN.oi.mem this (ho p rfl)
theorem dpO_cO (hN : NestOK G hs s B irr) : dpO s (B x) = cO s.O G.length (B x) := by
  cases e : B x with
  | none => rfl
  | some b => exact hN.dp b (hN.bm x b e)
theorem oi_mem (hN : NestOK G hs s B irr) {p : Nat} : ∀ h, s.O p = some h → h ∈ hs := fun h e => (hN.oi.ok p h e).2.1
theorem ixO_inj {o o' : Option Nat} (h1 : ∀ h, o = some h → h ∈ hs) (h2 : ∀ h, o' = some h → h ∈ hs) (e : ixO hs o = ixO hs o') : o = o' := by
  cases o with
  | none => cases o' with
    | none => rfl
    | some b => have e : (-1 : Int) = ((hs.idxOf b : Nat) : Int) := e; omega
  | some a => cases o' with
    | none => have e : ((hs.idxOf a : Nat) : Int) = (-1 : Int) := e; omega
    | some b =>
      have e : ((hs.idxOf a : Nat) : Int) = ((hs.idxOf b : Nat) : Int) := e
      have e : hs.idxOf a = hs.idxOf b := by omega
      have ha := (idx_get (h1 a rfl)).2
      rw [e, (idx_get (h2 b rfl)).2] at ha
      rw [ha]
end

set_option maxHeartbeats 1000000 in
theorem fnInner_calls {w0 : World} {v : Value} {G0 : List (List Int)} (hR : RowsAt w0 v G0) : Calls Try.prog 9 #[v] w0 (Ret fun u w' => u = .bool true ∧ RowKit.Below w0.heap.size w0 w') := by
  have hS := St.refl w0
  refine V_enter (N := 89) Try.func9 rfl Try.ntmps9 rfl ?_
  refine VC.sub (τ := [(0, _)]) ⟨rfl, trivial⟩ ?_
  refine VC_seq ?_
  refine VC_region ?_
  refine VL_val rfl rfl rfl (yd_assign rfl) ?_
  refine VL_nil ?_
  refine VE_then ?_
  refine VC_seq ?_
  refine VC_seq ?_
  refine VC_region ?_
  refine VL_val rfl rfl rfl (yd_move rfl) ?_
  refine VL_call rfl rfl rfl rfl T.call12 rfl (zzFits1_ok (hS.rows hR)) ?_
  rintro _ _ ⟨rfl, bz, rfl, hz⟩
  refine VL_val rfl rfl rfl (yd_not rfl) ?_
  refine VL_nil ?_
  refine VE_then ?_
  refine VC_cond rfl (fun h16 => ?_) (fun h16 => ?_)
  · replace h16 := V.nt h16
    refine VC_seq ?_
    refine VC_region ?_
    refine VL_val rfl rfl rfl (yd_assign rfl) ?_
    refine VL_nil ?_
    refine VE_then ?_
    refine VC_ret ?_
    refine VE_then_ret (?_)
    refine VE_ret1 (rfl) rfl ?_
    exact ⟨rfl, hS.below⟩
  · replace h16 := V.nf h16
    have hzt := h16
    refine VC_skip ?_
    refine VE_then ?_
    refine VC_seq ?_
    refine VC_region ?_
    refine VL_val rfl rfl rfl (yd_move rfl) ?_
    refine VL_call rfl rfl rfl rfl T.call23 rfl (lwhole_ok (hS.rows hR) (Nat.le_trans (hz hzt) (by decide))) ?_
    rintro _ w ⟨c1, c2, c3, ok, η, rfl, hone, hR2, hwh⟩
    have hS : St w0 M0 [bundle η] w := St_bundle (hS.call0 hR2)
    refine VL_val rfl rfl rfl (yd_move rfl) ?_
    refine VL_val rfl rfl rfl (yd_extract rfl rfl) ?_
    refine VL_val rfl rfl rfl (yd_extract rfl rfl) ?_
    refine VL_alloc rfl rfl rfl rfl T.e37 hS ?_
    clear hS; intro b3 w hS
    refine VL_storeN (cs := [c1, c2, c3]) rfl rfl rfl rfl rfl T.agg37 hone hS 1 rfl (by simp [Value.cells]) ?_
    clear hS; intro w hS
    refine VL_val rfl rfl rfl (yd_assign rfl) ?_
    refine VL_nil ?_
    refine VE_then ?_
    refine VC_seq ?_
    refine VC_seq ?_
    refine VC_region ?_
    refine VL_val rfl rfl rfl (yd_move rfl) ?_
    refine VL_val rfl rfl rfl (yd_not rfl) ?_
    refine VL_nil ?_
    refine VE_then ?_
    refine VC_cond rfl (fun h23 => ?_) (fun h23 => ?_)
    · replace h23 := V.nt h23
      refine VC_seq ?_
      refine VC_region ?_
      refine VL_val rfl rfl rfl (yd_assign rfl) ?_
      refine VL_nil ?_
      refine VE_then ?_
      refine VC_ret ?_
      refine VE_then_ret (?_)
      refine VE_ret1 (rfl) rfl ?_
      exact ⟨rfl, hS.below⟩
    · replace h23 := V.nf h23
      obtain ⟨G, s, hG, hg, hok, rfl, rfl, rfl, hw, hRed, rfl⟩ := hwh h23
      have hle := hg.le
      have hpos := hg.pos
      have hG0 := hG
      obtain ⟨ga, gc, gb, go, rfl, hga, hrow⟩ := hG
      obtain rfl := hga (by omega)
      refine VC_skip ?_
      refine VE_then ?_
      refine VC_seq ?_
      refine VC_region ?_
      refine VL_val rfl rfl rfl (yd_move rfl) ?_
      refine VL_call rfl rfl rfl rfl T.call24 rfl (implLoops_ok (hS.graph hG0) hg hw) ?_
      rintro _ w ⟨hs, s2, B, irr, v1, v2, v3, rfl, hN, hR3⟩
      have hS := hS.call0 hR3
      have hNe := hN.nest hRed
      have hhl : hs.length ≤ 13 := Nat.le_trans (nodup_len _ hN.nd hN.lt) hg.le
      obtain ⟨va, vc, rfl, hvb⟩ := row_slice (hS.get 2 rfl)
      obtain ⟨ib, ic, rfl, -⟩ := row_form (hS.get 3 rfl) (.inr (by omega))
      obtain ⟨db, dc, rfl, -⟩ := row_form (hS.get 4 rfl) (.inr (by omega))
      refine VL_val rfl rfl rfl (yd_move rfl) ?_
      refine VL_val rfl rfl rfl (yd_extract rfl rfl) ?_
      refine VL_val rfl rfl rfl (yd_extract rfl rfl) ?_
      refine VL_val rfl rfl rfl (yd_extract rfl rfl) ?_
      refine VL_val rfl rfl rfl (yd_extract rfl rfl) ?_
      refine VL_val rfl rfl rfl (yd_assign rfl) ?_
      refine VL_val rfl rfl rfl (yd_assign rfl) ?_
      refine VL_val rfl rfl rfl (yd_assign rfl) ?_
      refine VL_val rfl rfl rfl (yd_assign rfl) ?_
      refine VL_nil ?_
      refine VE_then ?_
      refine VC_seq ?_
      refine VC_region ?_
      refine VL_val rfl rfl rfl (yd_loadn [.slice (some ⟨gb, go, none⟩) G.length gc, s.live G, s.dom G] rfl T.agg37 (fun j u hj => by rw [Nat.zero_add]; exact blk_cell (hS.get 1 rfl) hj)) ?_
      refine VL_call rfl rfl rfl rfl T.call25 rfl (loops_ok (shapeAt (hS.graph hG0) hok ((hS.get 0 rfl).1 _ (List.mem_singleton.2 rfl))) hg hw) ?_
      rintro _ w ⟨q, rfl, hQ, hR5⟩
      have hS := hS.call0 hR5
      refine VL_val rfl rfl rfl (yd_assign rfl) ?_
      refine VL_nil ?_
      refine VE_then ?_
      refine VC_seq ?_
      refine VC_seq ?_
      refine VC_region ?_
      refine VL_val rfl rfl rfl (yd_move rfl) ?_
      refine VL_val rfl rfl rfl (yd_len rfl Try.underlying40) ?_
      refine VL_val rfl rfl rfl (yd_move rfl) ?_
      refine VL_nil ?_
      refine VE_then ?_
      refine VC_block ?_
      refine VC_loop1 [0, 3, 6, 9, 33, 34] [_, _, _, _, _, _] rfl (fun (k : Nat) => [(35, .int .i64 ((k : Nat) : Int))]) (fun (k : Nat) w => k ≤ hs.length ∧ St w0 M0 [bundle [shapeR s G], blk b3 37 [.slice (some ⟨gb, go, none⟩) G.length gc, s.live G, s.dom G], row (.slice va hs.length vc) 45 5 hs.length (loopC hs s2 hs), row (.slice (some ⟨ib, 0, none⟩) G.length ic) 3 1 G.length (((List.range G.length).map fun x => ixO hs (B x)).map (Value.int .i64)), row (.slice (some ⟨db, 0, none⟩) G.length dc) 3 1 G.length (((List.range G.length).map fun x => ((dpO s2 (B x) : Nat) : Int)).map (Value.int .i64)), allR q G.length] w) (fun (k : Nat) => hs.length - k) 0 ⟨rfl, trivial⟩ (⟨Nat.zero_le _, hS⟩) ?_
      clear hS; rintro k w ⟨hk, hS⟩
      refine VC_seq ?_
      refine VC_region ?_
      refine VL_val rfl rfl rfl (yd_lss rfl rfl) ?_
      refine VL_nil ?_
      refine VE_then ?_
      refine VC_seq ?_
      refine VC_cond rfl (fun h36 => ?_) (fun h36 => ?_)
      · replace h36 := of_decide_eq_true h36
        refine VC_skip ?_
        refine VE_then ?_
        refine VC_seq ?_
        refine VC_block ?_
        refine VC_seq ?_
        refine VC_region ?_
        have hkl : k < hs.length := by omega
        obtain ⟨vb, rfl⟩ := hvb (by omega)
        have hkm : hs[k]! ∈ hs := by rw [getElem!_pos hs k hkl]; exact List.getElem_mem _
        have hkn := hN.lt _ hkm
        refine VL_val rfl rfl rfl (yd_index rfl rfl Try.underlying40 T.sz45 (by omega) (k * 5) (Nat.zero_add _)) ?_
        refine VL_val rfl rfl rfl (yd_loadn (l5 hs s2 hs[k]!) rfl T.agg45 (l5_cell (hS.get 2 rfl) hkl)) ?_
        refine VL_alloc rfl rfl rfl rfl T.e45 hS ?_
        clear hS; intro b11 w hS
        refine VL_storeN (cs := l5 hs s2 hs[k]!) rfl rfl rfl rfl rfl T.agg45 l5_one hS 6 rfl (by simp [Value.cells, l5]) ?_
        clear hS; intro w hS
        refine VL_nil ?_
        refine VE_then ?_
        refine VC_seq ?_
        refine VC_seq ?_
        refine VC_region ?_
        refine VL_val rfl rfl rfl (yd_field rfl T.fld45_0) ?_
        refine VL_val rfl rfl rfl (yd_load rfl T.one3 (blk_cell (hS.get 6 rfl) rfl)) ?_
        refine VL_val rfl rfl rfl (yd_lss rfl rfl) ?_
        refine VL_val rfl rfl rfl (yd_move rfl) ?_
        refine VL_split 42 rfl (fun h42 => ?_) (fun h42 => ?_)
        · replace h42 := of_decide_eq_true h42
          exact absurd h42 (by omega)
        · replace h42 := Int.not_lt.1 (of_decide_eq_false h42)
          refine VL_yes rfl rfl rfl rfl ?_
          refine VL_val rfl rfl rfl (yd_field rfl T.fld45_0) ?_
          refine VL_yes rfl rfl rfl rfl ?_
          refine VL_val rfl rfl rfl (yd_load rfl T.one3 (blk_cell (hS.get 6 rfl) rfl)) ?_
          refine VL_yes rfl rfl rfl rfl ?_
          refine VL_val rfl rfl rfl (yd_move rfl) ?_
          refine VL_yes rfl rfl rfl rfl ?_
          refine VL_val rfl rfl rfl (yd_len rfl Try.underlying22) ?_
          refine VL_yes rfl rfl rfl rfl ?_
          refine VL_val rfl rfl rfl (yd_geq rfl rfl) ?_
          refine VL_val rfl rfl rfl (yd_pick_f rfl rfl) ?_
          refine VL_nil ?_
          refine VE_then ?_
          refine VC_cond rfl (fun h48 => ?_) (fun h48 => ?_)
          · replace h48 := of_decide_eq_true h48
            exact absurd h48 (by omega)
          · replace h48 := Int.not_le.1 (of_decide_eq_false h48)
            refine VC_skip ?_
            refine VE_then ?_
            refine VC_seq ?_
            refine VC_region ?_
            refine VL_val rfl rfl rfl (yd_assign rfl) ?_
            refine VL_nil ?_
            refine VE_then ?_
            refine VC_seq ?_
            refine VC_seq ?_
            refine VC_region ?_
            refine VL_val rfl rfl rfl (yd_move rfl) ?_
            refine VL_val rfl rfl rfl (yd_len rfl Try.underlying22) ?_
            refine VL_val rfl rfl rfl (yd_move rfl) ?_
            refine VL_nil ?_
            refine VE_then ?_
            refine VC_block ?_
            refine VC_loop2 [0, 3, 6, 9, 11, 33, 34, 35, 36, 37, 38, 39, 40, 41, 42, 43, 44, 45, 46, 47, 48, 49, 50] [_, _, _, _, _, _, _, _, _, _, _, _, _, _, _, _, _, _, _, _, _, _, _] rfl (fun (x : Nat) (t : Bool) => [(51, .int .i64 ((x : Nat) : Int)), (12, .bool t)]) (fun (x : Nat) (t : Bool) w => x ≤ G.length ∧ (t = true ↔ ∀ y, y < x → ¬ (y ≠ hs[k]! ∧ Lp G hs[k]! y ∧ Hdr G y)) ∧ St w0 M0 [bundle [shapeR s G], blk b3 37 [.slice (some ⟨gb, go, none⟩) G.length gc, s.live G, s.dom G], row (.slice (some ⟨vb, 0, none⟩) hs.length vc) 45 5 hs.length (loopC hs s2 hs), row (.slice (some ⟨ib, 0, none⟩) G.length ic) 3 1 G.length (((List.range G.length).map fun x => ixO hs (B x)).map (Value.int .i64)), row (.slice (some ⟨db, 0, none⟩) G.length dc) 3 1 G.length (((List.range G.length).map fun x => ((dpO s2 (B x) : Nat) : Int)).map (Value.int .i64)), allR q G.length, blk b11 45 (l5 hs s2 hs[k]!)] w) (fun (x : Nat) (t : Bool) => G.length - x) 0 true ⟨rfl, rfl, trivial⟩ (⟨Nat.zero_le _, ⟨fun _ y hy => absurd hy (Nat.not_lt_zero _), fun _ => rfl⟩, hS⟩) ?_
            clear hS; rintro x t w ⟨hx, ht, hS⟩
            refine VC_seq ?_
            refine VC_region ?_
            refine VL_val rfl rfl rfl (yd_lss rfl rfl) ?_
            refine VL_nil ?_
            refine VE_then ?_
            refine VC_seq ?_
            refine VC_cond rfl (fun h52 => ?_) (fun h52 => ?_)
            · replace h52 := of_decide_eq_true h52
              refine VC_skip ?_
              refine VE_then ?_
              refine VC_seq ?_
              refine VC_block ?_
              refine VC_seq ?_
              refine VC_region ?_
              have hxl : x < G.length := by omega
              refine VL_val rfl rfl rfl (yd_move rfl) ?_
              refine VL_val rfl rfl rfl (yd_assign rfl) ?_
              refine VL_nil ?_
              refine VE_then ?_
              refine VC_region ?_
              refine VL_val rfl rfl rfl (yd_move rfl) ?_
              refine VL_val rfl rfl rfl (yd_move rfl) ?_
              refine VL_split 55 rfl (fun h55 => ?_) (fun h55 => ?_)
              · skip
                have hta := ht.1 h55
                refine VL_yes rfl rfl rfl rfl ?_
                refine VL_val rfl rfl rfl (yd_move rfl) ?_
                refine VL_yes rfl rfl rfl rfl ?_
                refine VL_val rfl rfl rfl (yd_field rfl T.fld45_0) ?_
                refine VL_yes rfl rfl rfl rfl ?_
                refine VL_val rfl rfl rfl (yd_load rfl T.one3 (blk_cell (hS.get 6 rfl) rfl)) ?_
                refine VL_yes rfl rfl rfl rfl ?_
                refine VL_val rfl rfl rfl (yd_eql rfl rfl) ?_
                refine VL_yes rfl rfl rfl rfl ?_
                refine VL_val rfl rfl rfl (yd_move rfl) ?_
                refine VL_split 60 rfl (fun h60 => ?_) (fun h60 => ?_)
                · replace h60 := of_decide_eq_true h60
                  have hno : ¬ (x ≠ hs[k]! ∧ Lp G hs[k]! x ∧ Hdr G x) := fun e => e.1 (by omega)
                  refine VL_no rfl rfl rfl rfl rfl rfl rfl ?_
                  refine VL_no rfl rfl rfl rfl rfl rfl rfl ?_
                  refine VL_no rfl rfl rfl rfl rfl rfl rfl ?_
                  refine VL_no rfl rfl rfl rfl rfl rfl rfl ?_
                  refine VL_no rfl rfl rfl rfl rfl rfl rfl ?_
                  refine VL_no rfl rfl rfl rfl rfl rfl rfl ?_
                  refine VL_no rfl rfl rfl rfl rfl rfl rfl ?_
                  refine VL_no rfl rfl rfl rfl rfl rfl rfl ?_
                  refine VL_no rfl rfl rfl rfl rfl rfl rfl ?_
                  refine VL_yes rfl rfl rfl rfl ?_
                  refine VL_val rfl rfl rfl (yd_pick_t rfl rfl) ?_
                  refine VL_yes rfl rfl rfl rfl ?_
                  refine VL_val rfl rfl rfl (yd_move rfl) ?_
                  refine VL_no rfl rfl rfl rfl rfl rfl rfl ?_
                  refine VL_no rfl rfl rfl rfl rfl rfl rfl ?_
                  refine VL_no rfl rfl rfl rfl rfl rfl rfl ?_
                  refine VL_no rfl rfl rfl rfl rfl rfl rfl ?_
                  refine VL_yes rfl rfl rfl rfl ?_
                  refine VL_val rfl rfl rfl (yd_pick_t rfl rfl) ?_
                  refine VL_val rfl rfl rfl (yd_pick_t rfl rfl) ?_
                  refine VL_val rfl rfl rfl (yd_assign rfl) ?_
                  refine VL_nil ?_
                  refine VE_block_normal ?_
                  refine VE_then ?_
                  refine VC_region ?_
                  refine VL_val rfl rfl rfl (yd_add rfl rfl ((x + 1 : Nat) : Int) (by rw [wi64 (by omega) (by omega)]; omega)) ?_
                  refine VL_val rfl rfl rfl (yd_move rfl) ?_
                  refine VL_nil ?_
                  first
                  | exact VE_round2 (x + 1) true ⟨rfl, rfl, rfl, rfl, rfl, rfl, rfl, rfl, rfl, rfl, rfl, rfl, rfl, rfl, rfl, rfl, rfl, rfl, rfl, rfl, rfl, rfl, rfl, rfl, rfl, trivial⟩ ⟨by omega, ⟨fun _ => all_succ hta hno, fun _ => rfl⟩, hS⟩ (by omega)
                  | exact VE_round2 (x + 1) false ⟨rfl, rfl, rfl, rfl, rfl, rfl, rfl, rfl, rfl, rfl, rfl, rfl, rfl, rfl, rfl, rfl, rfl, rfl, rfl, rfl, rfl, rfl, rfl, rfl, rfl, trivial⟩ ⟨by omega, hnt true, hS⟩ (by omega)
                  | exact VE_round2 (x + 1) _ ⟨rfl, rfl, rfl, rfl, rfl, rfl, rfl, rfl, rfl, rfl, rfl, rfl, rfl, rfl, rfl, rfl, rfl, rfl, rfl, rfl, rfl, rfl, rfl, rfl, rfl, trivial⟩ ⟨by omega, hnt true, hS⟩ (by omega)
                  | exact VE_round2 (x + 1) (!bh) ⟨rfl, rfl, rfl, rfl, rfl, rfl, rfl, rfl, rfl, rfl, rfl, rfl, rfl, rfl, rfl, rfl, rfl, rfl, rfl, rfl, rfl, rfl, rfl, rfl, rfl, trivial⟩ ⟨by omega, ⟨fun e => all_succ hta (fun e2 => by have := hbh.2 e2.2.2; rw [this] at e; cases e), fun e => by (cases bh with | false => rfl | true => exact absurd ⟨fun e2 => h60 (by omega), hlx, hbh.1 rfl⟩ (e x (by omega)))⟩, hS⟩ (by omega)
                · replace h60 := of_decide_eq_false h60
                  refine VL_yes rfl rfl rfl rfl ?_
                  refine VL_val rfl rfl rfl (yd_move rfl) ?_
                  refine VL_yes rfl rfl rfl rfl ?_
                  refine VL_val rfl rfl rfl (yd_field rfl T.fld45_0) ?_
                  refine VL_yes rfl rfl rfl rfl ?_
                  refine VL_val rfl rfl rfl (yd_load rfl T.one3 (blk_cell (hS.get 6 rfl) rfl)) ?_
                  refine VL_yes rfl rfl rfl rfl ?_
                  refine VL_val rfl rfl rfl (yd_index0 rfl rfl Try.underlying35 T.sz25 (by omega)) ?_
                  refine VL_yes rfl rfl rfl rfl ?_
                  refine VL_val rfl rfl rfl (yd_load rfl T.one25 (q_row (hS.get 5 rfl) hkn)) ?_
                  refine VL_yes rfl rfl rfl rfl ?_
                  refine VL_val rfl rfl rfl (yd_move rfl) ?_
                  refine VL_yes rfl rfl rfl rfl ?_
                  refine VL_val rfl rfl rfl (yd_index0 rfl rfl Try.underlying25 T.sz4 (by omega)) ?_
                  refine VL_yes rfl rfl rfl rfl ?_
                  refine VL_val rfl rfl rfl (yd_load rfl T.one4 (q_cell (hS.get 5 rfl) hkn hxl)) ?_
                  refine VL_yes rfl rfl rfl rfl ?_
                  refine VL_val rfl rfl rfl (yd_not rfl) ?_
                  refine VL_yes rfl rfl rfl rfl ?_
                  refine VL_val rfl rfl rfl (yd_pick_f rfl rfl) ?_
                  refine VL_yes rfl rfl rfl rfl ?_
                  refine VL_val rfl rfl rfl (yd_move rfl) ?_
                  refine VL_split 71 rfl (fun h71 => ?_) (fun h71 => ?_)
                  · replace h71 := V.nt h71
                    have hno : ¬ (x ≠ hs[k]! ∧ Lp G hs[k]! x ∧ Hdr G x) := fun e => by have := (hQ _ _ hkn hxl).2 e.2.1; rw [h71] at this; cases this
                    refine VL_no rfl rfl rfl rfl rfl rfl rfl ?_
                    refine VL_no rfl rfl rfl rfl rfl rfl rfl ?_
                    refine VL_no rfl rfl rfl rfl rfl rfl rfl ?_
                    refine VL_no rfl rfl rfl rfl rfl rfl rfl ?_
                    refine VL_yes rfl rfl rfl rfl ?_
                    refine VL_val rfl rfl rfl (yd_pick_t rfl rfl) ?_
                    refine VL_val rfl rfl rfl (yd_pick_t rfl rfl) ?_
                    refine VL_val rfl rfl rfl (yd_assign rfl) ?_
                    refine VL_nil ?_
                    refine VE_block_normal ?_
                    refine VE_then ?_
                    refine VC_region ?_
                    refine VL_val rfl rfl rfl (yd_add rfl rfl ((x + 1 : Nat) : Int) (by rw [wi64 (by omega) (by omega)]; omega)) ?_
                    refine VL_val rfl rfl rfl (yd_move rfl) ?_
                    refine VL_nil ?_
                    first
                    | exact VE_round2 (x + 1) true ⟨rfl, rfl, rfl, rfl, rfl, rfl, rfl, rfl, rfl, rfl, rfl, rfl, rfl, rfl, rfl, rfl, rfl, rfl, rfl, rfl, rfl, rfl, rfl, rfl, rfl, trivial⟩ ⟨by omega, ⟨fun _ => all_succ hta hno, fun _ => rfl⟩, hS⟩ (by omega)
                    | exact VE_round2 (x + 1) false ⟨rfl, rfl, rfl, rfl, rfl, rfl, rfl, rfl, rfl, rfl, rfl, rfl, rfl, rfl, rfl, rfl, rfl, rfl, rfl, rfl, rfl, rfl, rfl, rfl, rfl, trivial⟩ ⟨by omega, hnt true, hS⟩ (by omega)
                    | exact VE_round2 (x + 1) _ ⟨rfl, rfl, rfl, rfl, rfl, rfl, rfl, rfl, rfl, rfl, rfl, rfl, rfl, rfl, rfl, rfl, rfl, rfl, rfl, rfl, rfl, rfl, rfl, rfl, rfl, trivial⟩ ⟨by omega, hnt true, hS⟩ (by omega)
                    | exact VE_round2 (x + 1) (!bh) ⟨rfl, rfl, rfl, rfl, rfl, rfl, rfl, rfl, rfl, rfl, rfl, rfl, rfl, rfl, rfl, rfl, rfl, rfl, rfl, rfl, rfl, rfl, rfl, rfl, rfl, trivial⟩ ⟨by omega, ⟨fun e => all_succ hta (fun e2 => by have := hbh.2 e2.2.2; rw [this] at e; cases e), fun e => by (cases bh with | false => rfl | true => exact absurd ⟨fun e2 => h60 (by omega), hlx, hbh.1 rfl⟩ (e x (by omega)))⟩, hS⟩ (by omega)
                  · replace h71 := V.nf h71
                    have hlx := (hQ _ _ hkn hxl).1 h71
                    refine VL_yes rfl rfl rfl rfl ?_
                    refine VL_val rfl rfl rfl (yd_loadn [.slice (some ⟨gb, go, none⟩) G.length gc, s.live G, s.dom G] rfl T.agg37 (fun j u hj => by rw [Nat.zero_add]; exact blk_cell (hS.get 1 rfl) hj)) ?_
                    refine VL_yes rfl rfl rfl rfl ?_
                    refine VL_val rfl rfl rfl (yd_move rfl) ?_
                    refine VL_yes rfl rfl rfl rfl ?_
                    refine VL_call rfl rfl rfl rfl T.call30 rfl (header_ok (shapeAt (hS.graph hG0) hok ((hS.get 0 rfl).1 _ (List.mem_singleton.2 rfl))) hg hxl) ?_
                    rintro _ w ⟨bh, rfl, hbh, hR7⟩
                    have hS := hS.call0 hR7
                    refine VL_yes rfl rfl rfl rfl ?_
                    refine VL_val rfl rfl rfl (yd_not rfl) ?_
                    refine VL_yes rfl rfl rfl rfl ?_
                    refine VL_val rfl rfl rfl (yd_pick_f rfl rfl) ?_
                    refine VL_val rfl rfl rfl (yd_pick_t rfl rfl) ?_
                    refine VL_val rfl rfl rfl (yd_assign rfl) ?_
                    refine VL_nil ?_
                    refine VE_block_normal ?_
                    refine VE_then ?_
                    refine VC_region ?_
                    refine VL_val rfl rfl rfl (yd_add rfl rfl ((x + 1 : Nat) : Int) (by rw [wi64 (by omega) (by omega)]; omega)) ?_
                    refine VL_val rfl rfl rfl (yd_move rfl) ?_
                    refine VL_nil ?_
                    first
                    | exact VE_round2 (x + 1) true ⟨rfl, rfl, rfl, rfl, rfl, rfl, rfl, rfl, rfl, rfl, rfl, rfl, rfl, rfl, rfl, rfl, rfl, rfl, rfl, rfl, rfl, rfl, rfl, rfl, rfl, trivial⟩ ⟨by omega, ⟨fun _ => all_succ hta hno, fun _ => rfl⟩, hS⟩ (by omega)
                    | exact VE_round2 (x + 1) false ⟨rfl, rfl, rfl, rfl, rfl, rfl, rfl, rfl, rfl, rfl, rfl, rfl, rfl, rfl, rfl, rfl, rfl, rfl, rfl, rfl, rfl, rfl, rfl, rfl, rfl, trivial⟩ ⟨by omega, hnt true, hS⟩ (by omega)
                    | exact VE_round2 (x + 1) _ ⟨rfl, rfl, rfl, rfl, rfl, rfl, rfl, rfl, rfl, rfl, rfl, rfl, rfl, rfl, rfl, rfl, rfl, rfl, rfl, rfl, rfl, rfl, rfl, rfl, rfl, trivial⟩ ⟨by omega, hnt true, hS⟩ (by omega)
                    | exact VE_round2 (x + 1) (!bh) ⟨rfl, rfl, rfl, rfl, rfl, rfl, rfl, rfl, rfl, rfl, rfl, rfl, rfl, rfl, rfl, rfl, rfl, rfl, rfl, rfl, rfl, rfl, rfl, rfl, rfl, trivial⟩ ⟨by omega, ⟨fun e => all_succ hta (fun e2 => by have := hbh.2 e2.2.2; rw [this] at e; cases e), fun e => by (cases bh with | false => rfl | true => exact absurd ⟨fun e2 => h60 (by omega), hlx, hbh.1 rfl⟩ (e x (by omega)))⟩, hS⟩ (by omega)
              · skip
                have hnt : ∀ c : Bool, (false = true ↔ ∀ y, y < x + 1 → ¬ (y ≠ hs[k]! ∧ Lp G hs[k]! y ∧ Hdr G y)) := fun _ => ⟨fun e => (by cases e), fun h => by have := ht.2 (fun y hy => h y (by omega)); rw [h55] at this; cases this⟩
                refine VL_no rfl rfl rfl rfl rfl rfl rfl ?_
                refine VL_no rfl rfl rfl rfl rfl rfl rfl ?_
                refine VL_no rfl rfl rfl rfl rfl rfl rfl ?_
                refine VL_no rfl rfl rfl rfl rfl rfl rfl ?_
                refine VL_no rfl rfl rfl rfl rfl rfl rfl ?_
                refine VL_noU rfl rfl rfl rfl rfl rfl ?_
                refine VL_noU rfl rfl rfl rfl rfl rfl ?_
                refine VL_noU rfl rfl rfl rfl rfl rfl ?_
                refine VL_noU rfl rfl rfl rfl rfl rfl ?_
                refine VL_noU rfl rfl rfl rfl rfl rfl ?_
                refine VL_noU rfl rfl rfl rfl rfl rfl ?_
                refine VL_noU rfl rfl rfl rfl rfl rfl ?_
                refine VL_noU rfl rfl rfl rfl rfl rfl ?_
                refine VL_noU rfl rfl rfl rfl rfl rfl ?_
                refine VL_no rfl rfl rfl rfl rfl rfl rfl ?_
                refine VL_no rfl rfl rfl rfl rfl rfl rfl ?_
                refine VL_noU rfl rfl rfl rfl rfl rfl ?_
                refine VL_noU rfl rfl rfl rfl rfl rfl ?_
                refine VL_noU rfl rfl rfl rfl rfl rfl ?_
                refine VL_noU rfl rfl rfl rfl rfl rfl ?_
                refine VL_no rfl rfl rfl rfl rfl rfl rfl ?_
                refine VL_val rfl rfl rfl (yd_pick_f rfl rfl) ?_
                refine VL_val rfl rfl rfl (yd_assign rfl) ?_
                refine VL_nil ?_
                refine VE_block_normal ?_
                refine VE_then ?_
                refine VC_region ?_
                refine VL_val rfl rfl rfl (yd_add rfl rfl ((x + 1 : Nat) : Int) (by rw [wi64 (by omega) (by omega)]; omega)) ?_
                refine VL_val rfl rfl rfl (yd_move rfl) ?_
                refine VL_nil ?_
                first
                | exact VE_round2 (x + 1) true ⟨rfl, rfl, rfl, rfl, rfl, rfl, rfl, rfl, rfl, rfl, rfl, rfl, rfl, rfl, rfl, rfl, rfl, rfl, rfl, rfl, rfl, rfl, rfl, rfl, rfl, trivial⟩ ⟨by omega, ⟨fun _ => all_succ hta hno, fun _ => rfl⟩, hS⟩ (by omega)
                | exact VE_round2 (x + 1) false ⟨rfl, rfl, rfl, rfl, rfl, rfl, rfl, rfl, rfl, rfl, rfl, rfl, rfl, rfl, rfl, rfl, rfl, rfl, rfl, rfl, rfl, rfl, rfl, rfl, rfl, trivial⟩ ⟨by omega, hnt true, hS⟩ (by omega)
                | exact VE_round2 (x + 1) _ ⟨rfl, rfl, rfl, rfl, rfl, rfl, rfl, rfl, rfl, rfl, rfl, rfl, rfl, rfl, rfl, rfl, rfl, rfl, rfl, rfl, rfl, rfl, rfl, rfl, rfl, trivial⟩ ⟨by omega, hnt true, hS⟩ (by omega)
                | exact VE_round2 (x + 1) (!bh) ⟨rfl, rfl, rfl, rfl, rfl, rfl, rfl, rfl, rfl, rfl, rfl, rfl, rfl, rfl, rfl, rfl, rfl, rfl, rfl, rfl, rfl, rfl, rfl, rfl, rfl, trivial⟩ ⟨by omega, ⟨fun e => all_succ hta (fun e2 => by have := hbh.2 e2.2.2; rw [this] at e; cases e), fun e => by (cases bh with | false => rfl | true => exact absurd ⟨fun e2 => h60 (by omega), hlx, hbh.1 rfl⟩ (e x (by omega)))⟩, hS⟩ (by omega)
            · replace h52 := Int.not_lt.1 (of_decide_eq_false h52)
              refine VC_exit ?_
              refine VE_then_exit (VE_then_exit (VE_block_exit ?_))
              refine VE_then ?_
              refine VC_seq ?_
              refine VC_region ?_
              obtain rfl : x = G.length := by omega
              refine VL_val rfl rfl rfl (yd_field rfl T.fld45_4) ?_
              refine VL_val rfl rfl rfl (yd_load rfl T.one4 (blk_cell (hS.get 6 rfl) rfl)) ?_
              refine VL_val rfl rfl rfl (yd_move rfl) ?_
              refine VL_val rfl rfl rfl (yd_neqb rfl rfl Try.underlying4) ?_
              refine VL_nil ?_
              refine VE_then ?_
              refine VC_cond rfl (fun h82 => ?_) (fun h82 => ?_)
              · replace h82 := of_decide_eq_true h82
                exact absurd (Bool.eq_iff_iff.2 ((inn_iff hN hNe hRed hkm).trans ht.symm)) h82
              · replace h82 := Decidable.not_not.1 (of_decide_eq_false h82)
                refine VC_skip ?_
                refine VE_block_normal ?_
                refine VE_then ?_
                refine VC_region ?_
                refine VL_val rfl rfl rfl (yd_add rfl rfl ((k + 1 : Nat) : Int) (by rw [wi64 (by omega) (by omega)]; omega)) ?_
                refine VL_val rfl rfl rfl (yd_move rfl) ?_
                refine VL_nil ?_
                have hS := hS.sub (η' := _) (List.take_sublist 6 _)
                exact VE_round1 (k + 1) ⟨rfl, rfl, rfl, rfl, rfl, rfl, rfl, trivial⟩ ⟨by omega, hS⟩ (by omega)
      · replace h36 := Int.not_lt.1 (of_decide_eq_false h36)
        refine VC_exit ?_
        refine VE_then_exit (VE_then_exit (VE_block_exit ?_))
        refine VE_then ?_
        refine VC_seq ?_
        refine VC_region ?_
        refine VL_val rfl rfl rfl (yd_move rfl) ?_
        refine VL_val rfl rfl rfl (yd_len rfl Try.underlying29) ?_
        refine VL_val rfl rfl rfl (yd_move rfl) ?_
        refine VL_val rfl rfl rfl (yd_len rfl Try.underlying22) ?_
        refine VL_val rfl rfl rfl (yd_eql rfl rfl) ?_
        refine VL_val rfl rfl rfl (yd_assign rfl) ?_
        refine VL_nil ?_
        refine VE_then ?_
        refine VC_ret ?_
        refine VE_ret1 (rfl) rfl ?_
        exact ⟨congrArg Value.bool (decide_eq_true rfl), hS.below⟩

end Go.Proofs.Ytmoooaaiohplhac
