/- The law on the loop around. -/
import Derived.Test.YtmoooaaiohplhabYd
namespace Go.Proofs.Ytmoooaaiohplhab
open Go Go.V
set_option linter.unusedVariables false
set_option maxRecDepth 100000

theorem T.agg36 : AggT Try.prog 36 5 := ⟨⟨_, Try.underlying36, rfl⟩, by kernel_rfl⟩
theorem T.fld36_1 : FieldT Try.prog 36 1 1 := FieldT.of (by kernel_rfl)
theorem T.fld36_3 : FieldT Try.prog 36 3 3 := FieldT.of (by kernel_rfl)
theorem T.call16 : CallT Try.prog 16 := CallT.of Try.func16 (by kernel_rfl) (by kernel_rfl)
theorem T.call17 : CallT Try.prog 17 := CallT.of Try.func17 (by kernel_rfl) (by kernel_rfl)
theorem T.call18 : CallT Try.prog 18 := CallT.of Try.func18 (by kernel_rfl) (by kernel_rfl)
theorem T.call19 : CallT Try.prog 19 := CallT.of Try.func19 (by kernel_rfl) (by kernel_rfl)
theorem T.call20 : CallT Try.prog 20 := CallT.of Try.func20 (by kernel_rfl) (by kernel_rfl)
theorem T.call21 : CallT Try.prog 21 := CallT.of Try.func21 (by kernel_rfl) (by kernel_rfl)

open Go.PL
section
variable {G : Graph} {hs : List Nat} {O B : Nat → Option Nat} {q : QRep} {s : LRep} {irr : Bool} {x : Nat}
theorem inner_is (h : Nest G hs O B) (hx : x < G.length) : IsInner G x (-1) (B x) :=
  ⟨fun b e => ⟨(h.inn x b hx e).1, by omega, fun q l _ => ((h.inn x b hx e).2 q l).dm⟩, fun e q l => absurd l (h.non x hx e q)⟩
theorem outer_is (h : Nest G hs O B) (ho : OI (phi G) hs O) (hx : x ∈ hs) : IsInner G x (x : Int) (O x) := by
  constructor
  · intro p e
    have hp := ho.ok x p e
    refine ⟨(h.up p x hx).1 (.step e (.refl _)), fun e2 => hp.2.2.1 (by omega), fun q l hne => ?_⟩
    have ha := (h.up q x hx).2 l
    cases ha with
    | refl => exact absurd rfl hne
    | step e2 ha => rw [e] at e2; cases e2; exact ((h.up q p hp.2.1).1 ha).dm
  · intro e q l
    have ha := (h.up q x hx).2 l
    cases ha with
    | refl => rfl
    | step e2 _ => rw [e] at e2; cases e2
theorem depth_is (h : Nest G hs O B) (hq : QOK q G) (hx : x ∈ hs) (hxl : x < G.length) : (List.range G.length).countP (fun h => q.lp h x) = clv O G.length x := by
  unfold clv
  refine List.countP_congr fun a ha => ?_
  have hal := List.mem_range.1 ha
  simp only [decide_eq_true_eq]
  exact (hq a x hal hxl).trans (h.up a x hx).symm
theorem depth_x (hN : NestOK G hs s B irr) (h : Nest G hs s.O B) (hq : QOK q G) (hxl : x < G.length) : (List.range G.length).countP (fun h => q.lp h x) = dpO s (B x) := by
  cases e : B x with
  | none =>
    refine List.countP_eq_zero.2 fun a ha hl => ?_
    exact h.non x hxl e a ((hq a x (List.mem_range.1 ha) hxl).1 hl)
  | some b =>
    have hb := hN.bm x b e
    have hbl := hN.lt b hb
    obtain ⟨h1, h2⟩ := h.inn x b hxl e
    show _ = s.dp b
    rw [hN.dp b hb, ← depth_is h hq hb hbl]
    refine List.countP_congr fun a ha => ?_
    have hal := List.mem_range.1 ha
    exact (hq a x hal hxl).trans ((⟨h2 a, fun l => h1.trans l⟩ : Lp G a x ↔ Lp G a b).trans (hq a b hal hbl).symm)
theorem nb_is (hg : Gd G) (hw : ∀ x, x < G.length → Rc G 0 x) (hN : NestOK G hs s B irr) (hr : Red G) (h : Nat) : s.nb h = (List.range G.length).countP fun y => B y == some h := by
  rw [hN.nbc hr h]
  have hP := postL_ok hg
  refine List.Perm.countP_eq _ (List.perm_iff_count.2 fun a => ?_)
  rw [hP.nd.count, List.nodup_range.count]
  have e : (a ∈ postL G) = (a ∈ List.range G.length) := propext ((hP.mem a).trans ⟨fun r => List.mem_range.2 (Rch.lt hg hg.pos r), fun r => hw a (List.mem_range.1 r)⟩)
  simp only [e]
theorem inn_iff (hN : NestOK G hs s B irr) (h : Nest G hs s.O B) (hr : Red G) {p : Nat} (hp : p ∈ hs) : s.inn p = true ↔ ∀ x, x < G.length → ¬ (x ≠ p ∧ Lp G p x ∧ Hdr G x) := by
  constructor
  · intro hi x _ ⟨hne, hl, hd⟩
    have ha := (h.up p x ((h.hdr x).2 hd)).2 hl
    rcases abv_child ha with e | ⟨c, e, _⟩
    · exact hne e
    · rw [hN.ii c p e] at hi; cases hi
  · intro hn
    cases hb : s.inn p with
    | true => rfl
    | false =>
      obtain ⟨_, x, hx, h1, _, h3⟩ := hN.i0 p hb
      exact absurd ⟨fun e => h1 e.symm, h3 hr, (h.hdr x).1 hx⟩ (hn x (hN.lt x hx))
noncomputable def cO (O : Nat → Option Nat) (n : Nat) : Option Nat → Nat
  | none => 0
  | some h => clv O n h
theorem cO_up (hg : Gd G) (hN : NestOK G hs s B irr) {p : Nat} (hp : p ∈ hs) : cO s.O G.length (some p) = cO s.O G.length (s.O p) + 1 := by
  have hl := hN.lt p hp
  cases e : s.O p with
  | none => exact clv_none hl e
  | some b => exact clv_some (hN.oi.rank hg (phi_ok hg)) hl e
theorem cO_le (hN : NestOK G hs s B irr) {o : Option Nat} (ho : ∀ h, o = some h → h ∈ hs) : cO s.O G.length o ≤ hs.length := by
  cases o with
  | none => exact Nat.zero_le _
  | some p =>
    show clv s.O G.length p ≤ _
    unfold clv
    rw [List.countP_eq_length_filter]
    refine List.Nodup.length_le_of_subset (List.Nodup.sublist List.filter_sublist List.nodup_range) fun a ha => ?_
    have := (List.mem_filter.1 ha).2
    simp only [decide_eq_true_eq] at this
    exact hN.oi.mem this (ho p rfl)
theorem dpO_cO (hN : NestOK G hs s B irr) : dpO s (B x) = cO s.O G.length (B x) := by
  cases e : B x with
  | none => rfl
  | some b => exact hN.dp b (hN.bm x b e)
theorem oi_mem (hN : NestOK G hs s B irr) {p : Nat} : ∀ h, s.O p = some h → h ∈ hs := fun h e => (hN.oi.ok p h e).2.1
theorem ixO_inj {o o' : Option Nat} (h1 : ∀ h, o = some h → h ∈ hs) (h2 : ∀ h, o' = some h → h ∈ hs) (e : ixO hs o = ixO hs o') : o = o' := by
  cases o with
  | none => cases o' with
    | none => rfl
    | some b => have e : (-1 : Int) = ((hs.idxOf b : Nat) : Int) := e; omega
  | some a => cases o' with
    | none => have e : ((hs.idxOf a : Nat) : Int) = (-1 : Int) := e; omega
    | some b =>
      have e : ((hs.idxOf a : Nat) : Int) = ((hs.idxOf b : Nat) : Int) := e
      have e : hs.idxOf a = hs.idxOf b := by omega
      have ha := (idx_get (h1 a rfl)).2
      rw [e, (idx_get (h2 b rfl)).2] at ha
      rw [ha]
end

set_option maxHeartbeats 1000000 in
theorem fnOuter_calls {w0 : World} {v : Value} {G0 : List (List Int)} (hR : RowsAt w0 v G0) : Calls Try.prog 3 #[v] w0 (Ret fun u w' => u = .bool true ∧ RowKit.Below w0.heap.size w0 w') := by
  have hS := St.refl w0
  refine V_enter (N := 76) Try.func3 rfl Try.ntmps3 rfl ?_
  refine VC.sub (τ := [(0, _)]) ⟨rfl, trivial⟩ ?_
  refine VC_seq ?_
  refine VC_region ?_
  refine VL_val rfl rfl rfl (yd_assign rfl) ?_
  refine VL_nil ?_
  refine VE_then ?_
  refine VC_seq ?_
  refine VC_seq ?_
  refine VC_region ?_
  refine VL_val rfl rfl rfl (yd_move rfl) ?_
  refine VL_call rfl rfl rfl rfl T.call15 rfl (zzFits1_ok (hS.rows hR)) ?_
  rintro _ _ ⟨rfl, bz, rfl, hz⟩
  refine VL_val rfl rfl rfl (yd_not rfl) ?_
  refine VL_nil ?_
  refine VE_then ?_
  refine VC_cond rfl (fun h14 => ?_) (fun h14 => ?_)
  · replace h14 := V.nt h14
    refine VC_seq ?_
    refine VC_region ?_
    refine VL_val rfl rfl rfl (yd_assign rfl) ?_
    refine VL_nil ?_
    refine VE_then ?_
    refine VC_ret ?_
    refine VE_then_ret (?_)
    refine VE_ret1 (rfl) rfl ?_
    exact ⟨rfl, hS.below⟩
  · replace h14 := V.nf h14
    have hzt := h14
    refine VC_skip ?_
    refine VE_then ?_
    refine VC_seq ?_
    refine VC_region ?_
    refine VL_val rfl rfl rfl (yd_move rfl) ?_
    refine VL_call rfl rfl rfl rfl T.call16 rfl (lwhole_ok (hS.rows hR) (Nat.le_trans (hz hzt) (by decide))) ?_
    rintro _ w ⟨c1, c2, c3, ok, η, rfl, hone, hR2, hwh⟩
    have hS : St w0 M0 [bundle η] w := St_bundle (hS.call0 hR2)
    refine VL_val rfl rfl rfl (yd_move rfl) ?_
    refine VL_val rfl rfl rfl (yd_extract rfl rfl) ?_
    refine VL_val rfl rfl rfl (yd_extract rfl rfl) ?_
    refine VL_alloc rfl rfl rfl rfl T.e27 hS ?_
    clear hS; intro b3 w hS
    refine VL_storeN (cs := [c1, c2, c3]) rfl rfl rfl rfl rfl T.agg27 hone hS 1 rfl (by simp [Value.cells]) ?_
    clear hS; intro w hS
    refine VL_val rfl rfl rfl (yd_assign rfl) ?_
    refine VL_nil ?_
    refine VE_then ?_
    refine VC_seq ?_
    refine VC_seq ?_
    refine VC_region ?_
    refine VL_val rfl rfl rfl (yd_move rfl) ?_
    refine VL_val rfl rfl rfl (yd_not rfl) ?_
    refine VL_nil ?_
    refine VE_then ?_
    refine VC_cond rfl (fun h21 => ?_) (fun h21 => ?_)
    · replace h21 := V.nt h21
      refine VC_seq ?_
      refine VC_region ?_
      refine VL_val rfl rfl rfl (yd_assign rfl) ?_
      refine VL_nil ?_
      refine VE_then ?_
      refine VC_ret ?_
      refine VE_then_ret (?_)
      refine VE_ret1 (rfl) rfl ?_
      exact ⟨rfl, hS.below⟩
    · replace h21 := V.nf h21
      obtain ⟨G, s, hG, hg, hok, rfl, rfl, rfl, hw, hRed, rfl⟩ := hwh h21
      have hle := hg.le
      have hpos := hg.pos
      have hG0 := hG
      obtain ⟨ga, gc, gb, go, rfl, hga, hrow⟩ := hG
      obtain rfl := hga (by omega)
      refine VC_skip ?_
      refine VE_then ?_
      refine VC_seq ?_
      refine VC_region ?_
      refine VL_val rfl rfl rfl (yd_move rfl) ?_
      refine VL_call rfl rfl rfl rfl T.call17 rfl (implLoops_ok (hS.graph hG0) hg hw) ?_
      rintro _ w ⟨hs, s2, B, irr, v1, v2, v3, rfl, hN, hR3⟩
      have hS := hS.call0 hR3
      have hNe := hN.nest hRed
      have hhl : hs.length ≤ 13 := Nat.le_trans (nodup_len _ hN.nd hN.lt) hg.le
      obtain ⟨va, vc, rfl, hvb⟩ := row_slice (hS.get 2 rfl)
      obtain ⟨ib, ic, rfl, -⟩ := row_form (hS.get 3 rfl) (.inr (by omega))
      obtain ⟨db, dc, rfl, -⟩ := row_form (hS.get 4 rfl) (.inr (by omega))
      refine VL_val rfl rfl rfl (yd_move rfl) ?_
      refine VL_val rfl rfl rfl (yd_extract rfl rfl) ?_
      refine VL_val rfl rfl rfl (yd_extract rfl rfl) ?_
      refine VL_val rfl rfl rfl (yd_extract rfl rfl) ?_
      refine VL_val rfl rfl rfl (yd_extract rfl rfl) ?_
      refine VL_val rfl rfl rfl (yd_assign rfl) ?_
      refine VL_val rfl rfl rfl (yd_assign rfl) ?_
      refine VL_val rfl rfl rfl (yd_assign rfl) ?_
      refine VL_val rfl rfl rfl (yd_assign rfl) ?_
      refine VL_nil ?_
      refine VE_then ?_
      refine VC_seq ?_
      refine VC_region ?_
      refine VL_val rfl rfl rfl (yd_loadn [.slice (some ⟨gb, go, none⟩) G.length gc, s.live G, s.dom G] rfl T.agg27 (fun j u hj => by rw [Nat.zero_add]; exact blk_cell (hS.get 1 rfl) hj)) ?_
      refine VL_call rfl rfl rfl rfl T.call18 rfl (loops_ok (shapeAt (hS.graph hG0) hok ((hS.get 0 rfl).1 _ (List.mem_singleton.2 rfl))) hg hw) ?_
      rintro _ w ⟨q, rfl, hQ, hR5⟩
      have hS := hS.call0 hR5
      refine VL_val rfl rfl rfl (yd_assign rfl) ?_
      refine VL_nil ?_
      refine VE_then ?_
      refine VC_seq ?_
      refine VC_seq ?_
      refine VC_region ?_
      refine VL_val rfl rfl rfl (yd_move rfl) ?_
      refine VL_val rfl rfl rfl (yd_len rfl Try.underlying30) ?_
      refine VL_val rfl rfl rfl (yd_move rfl) ?_
      refine VL_nil ?_
      refine VE_then ?_
      refine VC_block ?_
      refine VC_loop1 [0, 3, 5, 6, 9, 31, 32] [_, _, _, _, _, _, _] rfl (fun (k : Nat) => [(33, .int .i64 ((k : Nat) : Int))]) (fun (k : Nat) w => k ≤ hs.length ∧ St w0 M0 [bundle [shapeR s G], blk b3 27 [.slice (some ⟨gb, go, none⟩) G.length gc, s.live G, s.dom G], row (.slice va hs.length vc) 36 5 hs.length (loopC hs s2 hs), row (.slice (some ⟨ib, 0, none⟩) G.length ic) 3 1 G.length (((List.range G.length).map fun x => ixO hs (B x)).map (Value.int .i64)), row (.slice (some ⟨db, 0, none⟩) G.length dc) 3 1 G.length (((List.range G.length).map fun x => ((dpO s2 (B x) : Nat) : Int)).map (Value.int .i64)), allR q G.length] w) (fun (k : Nat) => hs.length - k) 0 ⟨rfl, trivial⟩ (⟨Nat.zero_le _, hS⟩) ?_
      clear hS; rintro k w ⟨hk, hS⟩
      refine VC_seq ?_
      refine VC_region ?_
      refine VL_val rfl rfl rfl (yd_lss rfl rfl) ?_
      refine VL_nil ?_
      refine VE_then ?_
      refine VC_seq ?_
      refine VC_cond rfl (fun h34 => ?_) (fun h34 => ?_)
      · replace h34 := of_decide_eq_true h34
        refine VC_skip ?_
        refine VE_then ?_
        refine VC_seq ?_
        refine VC_block ?_
        refine VC_seq ?_
        refine VC_region ?_
        have hkl : k < hs.length := by omega
        obtain ⟨vb, rfl⟩ := hvb (by omega)
        have hkm : hs[k]! ∈ hs := by rw [getElem!_pos hs k hkl]; exact List.getElem_mem _
        have hkn := hN.lt _ hkm
        refine VL_val rfl rfl rfl (yd_index rfl rfl Try.underlying30 T.sz36 (by omega) (k * 5) (Nat.zero_add _)) ?_
        refine VL_val rfl rfl rfl (yd_loadn (l5 hs s2 hs[k]!) rfl T.agg36 (l5_cell (hS.get 2 rfl) hkl)) ?_
        refine VL_alloc rfl rfl rfl rfl T.e36 hS ?_
        clear hS; intro b11 w hS
        refine VL_storeN (cs := l5 hs s2 hs[k]!) rfl rfl rfl rfl rfl T.agg36 l5_one hS 6 rfl (by simp [Value.cells, l5]) ?_
        clear hS; intro w hS
        refine VL_nil ?_
        refine VE_then ?_
        refine VC_seq ?_
        refine VC_draw T.mixed hS ?_
        clear hS; intro w hS
        refine VA_take (i := 0) rfl rfl rfl rfl (by kernel_rfl) (by kernel_rfl) (by kernel_rfl) #[true, false, false, false, false, false, false, false, false, false, false, false, false, false, false, false, false, false, false, false, false, false, false, false, false, false, false, false, false, false, false, false, false] (by kernel_rfl) (fun _ _ _ _ h => h) (fun w hS => yd_field rfl T.fld36_0) ?_
        refine VA_take (i := 1) rfl rfl rfl rfl (by kernel_rfl) (by kernel_rfl) (by kernel_rfl) #[true, true, false, false, false, false, false, false, false, false, false, false, false, false, false, false, false, false, false, false, false, false, false, false, false, false, false, false, false, false, false, false, false] (by kernel_rfl) (fun _ _ _ _ h => h) (fun w hS => yd_load rfl T.one3 (blk_cell (hS.get 6 rfl) rfl)) ?_
        refine VA_take (i := 2) rfl rfl rfl rfl (by kernel_rfl) (by kernel_rfl) (by kernel_rfl) #[true, true, true, false, false, false, false, false, false, false, false, false, false, false, false, false, false, false, false, false, false, false, false, false, false, false, false, false, false, false, false, false, false] (by kernel_rfl) (fun _ _ _ _ h => h) (fun w hS => yd_lss rfl rfl) ?_
        refine VA_take (i := 3) rfl rfl rfl rfl (by kernel_rfl) (by kernel_rfl) (by kernel_rfl) #[true, true, true, true, false, false, false, false, false, false, false, false, false, false, false, false, false, false, false, false, false, false, false, false, false, false, false, false, false, false, false, false, false] (by kernel_rfl) (fun _ _ _ _ h => h) (fun w hS => yd_move rfl) ?_
        refine VA_split 40 rfl (fun h40 => ?_) (fun h40 => ?_)
        · replace h40 := of_decide_eq_true h40
          exact absurd h40 (by omega)
        · replace h40 := Int.not_lt.1 (of_decide_eq_false h40)
          refine VA_takeG (i := 4) rfl rfl rfl rfl rfl rfl rfl (by kernel_rfl) (by kernel_rfl) (by kernel_rfl) #[true, true, true, true, true, false, false, false, false, false, false, false, false, false, false, false, false, false, false, false, false, false, false, false, false, false, false, false, false, false, false, false, false] (by kernel_rfl) (fun _ _ _ _ h => h) (fun w hS => yd_field rfl T.fld36_0) ?_
          refine VA_takeG (i := 5) rfl rfl rfl rfl rfl rfl rfl (by kernel_rfl) (by kernel_rfl) (by kernel_rfl) #[true, true, true, true, true, true, false, false, false, false, false, false, false, false, false, false, false, false, false, false, false, false, false, false, false, false, false, false, false, false, false, false, false] (by kernel_rfl) (fun _ _ _ _ h => h) (fun w hS => yd_load rfl T.one3 (blk_cell (hS.get 6 rfl) rfl)) ?_
          refine VA_takeG (i := 6) rfl rfl rfl rfl rfl rfl rfl (by kernel_rfl) (by kernel_rfl) (by kernel_rfl) #[true, true, true, true, true, true, true, false, false, false, false, false, false, false, false, false, false, false, false, false, false, false, false, false, false, false, false, false, false, false, false, false, false] (by kernel_rfl) (fun _ _ _ _ h => h) (fun w hS => yd_move rfl) ?_
          refine VA_takeG (i := 7) rfl rfl rfl rfl rfl rfl rfl (by kernel_rfl) (by kernel_rfl) (by kernel_rfl) #[true, true, true, true, true, true, true, true, false, false, false, false, false, false, false, false, false, false, false, false, false, false, false, false, false, false, false, false, false, false, false, false, false] (by kernel_rfl) (fun _ _ _ _ h => h) (fun w hS => yd_len rfl Try.underlying22) ?_
          refine VA_takeG (i := 8) rfl rfl rfl rfl rfl rfl rfl (by kernel_rfl) (by kernel_rfl) (by kernel_rfl) #[true, true, true, true, true, true, true, true, true, false, false, false, false, false, false, false, false, false, false, false, false, false, false, false, false, false, false, false, false, false, false, false, false] (by kernel_rfl) (fun _ _ _ _ h => h) (fun w hS => yd_geq rfl rfl) ?_
          refine VA_take (i := 9) rfl rfl rfl rfl (by kernel_rfl) (by kernel_rfl) (by kernel_rfl) #[true, true, true, true, true, true, true, true, true, true, false, false, false, false, false, false, false, false, false, false, false, false, false, false, false, false, false, false, false, false, false, false, false] (by kernel_rfl) (fun _ _ _ _ h => h) (fun w hS => yd_pick_f rfl rfl) ?_
          refine VA_take (i := 10) rfl rfl rfl rfl (by kernel_rfl) (by kernel_rfl) (by kernel_rfl) #[true, true, true, true, true, true, true, true, true, true, true, false, false, false, false, false, false, false, false, false, false, false, false, false, false, false, false, false, false, false, false, false, false] (by kernel_rfl) (fun _ _ _ _ h => h) (fun w hS => yd_move rfl) ?_
          refine VA_split 47 rfl (fun h47 => ?_) (fun h47 => ?_)
          · replace h47 := of_decide_eq_true h47
            exact absurd h47 (by omega)
          · replace h47 := Int.not_le.1 (of_decide_eq_false h47)
            refine VA_takeG (i := 11) rfl rfl rfl rfl rfl rfl rfl (by kernel_rfl) (by kernel_rfl) (by kernel_rfl) #[true, true, true, true, true, true, true, true, true, true, true, true, false, false, false, false, false, false, false, false, false, false, false, false, false, false, false, false, false, false, false, false, false] (by kernel_rfl) (fun _ _ _ _ h => h) (fun w hS => yd_move rfl) ?_
            refine VA_takeG (i := 12) rfl rfl rfl rfl rfl rfl rfl (by kernel_rfl) (by kernel_rfl) (by kernel_rfl) #[true, true, true, true, true, true, true, true, true, true, true, true, true, false, false, false, false, false, false, false, false, false, false, false, false, false, false, false, false, false, false, false, false] (by kernel_rfl) (fun _ _ _ _ h => h) (fun w hS => yd_field rfl T.fld36_1) ?_
            refine VA_takeG (i := 13) rfl rfl rfl rfl rfl rfl rfl (by kernel_rfl) (by kernel_rfl) (by kernel_rfl) #[true, true, true, true, true, true, true, true, true, true, true, true, true, true, false, false, false, false, false, false, false, false, false, false, false, false, false, false, false, false, false, false, false] (by kernel_rfl) (fun _ _ _ _ h => h) (fun w hS => yd_load rfl T.one3 (blk_cell (hS.get 6 rfl) rfl)) ?_
            refine VA_takeG (i := 15) rfl rfl rfl rfl rfl rfl rfl (by kernel_rfl) (by kernel_rfl) (by kernel_rfl) #[true, true, true, true, true, true, true, true, true, true, true, true, true, true, false, true, false, false, false, false, false, false, false, false, false, false, false, false, false, false, false, false, false] (by kernel_rfl) (fun _ _ _ _ h => h) (fun w hS => yd_loadn [.slice (some ⟨gb, go, none⟩) G.length gc, s.live G, s.dom G] rfl T.agg27 (fun j u hj => by rw [Nat.zero_add]; exact blk_cell (hS.get 1 rfl) hj)) ?_
            refine VA_takeG (i := 16) rfl rfl rfl rfl rfl rfl rfl (by kernel_rfl) (by kernel_rfl) (by kernel_rfl) #[true, true, true, true, true, true, true, true, true, true, true, true, true, true, false, true, true, false, false, false, false, false, false, false, false, false, false, false, false, false, false, false, false] (by kernel_rfl) (fun _ _ _ _ h => h) (fun w hS => yd_move rfl) ?_
            refine VA_takeG (i := 17) rfl rfl rfl rfl rfl rfl rfl (by kernel_rfl) (by kernel_rfl) (by kernel_rfl) #[true, true, true, true, true, true, true, true, true, true, true, true, true, true, false, true, true, true, false, false, false, false, false, false, false, false, false, false, false, false, false, false, false] (by kernel_rfl) (fun _ _ _ _ h => h) (fun w hS => yd_field rfl T.fld36_0) ?_
            refine VA_takeG (i := 18) rfl rfl rfl rfl rfl rfl rfl (by kernel_rfl) (by kernel_rfl) (by kernel_rfl) #[true, true, true, true, true, true, true, true, true, true, true, true, true, true, false, true, true, true, true, false, false, false, false, false, false, false, false, false, false, false, false, false, false] (by kernel_rfl) (fun _ _ _ _ h => h) (fun w hS => yd_load rfl T.one3 (blk_cell (hS.get 6 rfl) rfl)) ?_
            refine VA_takeG (i := 19) rfl rfl rfl rfl rfl rfl rfl (by kernel_rfl) (by kernel_rfl) (by kernel_rfl) #[true, true, true, true, true, true, true, true, true, true, true, true, true, true, false, true, true, true, true, true, false, false, false, false, false, false, false, false, false, false, false, false, false] (by kernel_rfl) (fun _ _ _ _ h => h) (fun w hS => yd_field rfl T.fld36_0) ?_
            refine VA_takeG (i := 20) rfl rfl rfl rfl rfl rfl rfl (by kernel_rfl) (by kernel_rfl) (by kernel_rfl) #[true, true, true, true, true, true, true, true, true, true, true, true, true, true, false, true, true, true, true, true, true, false, false, false, false, false, false, false, false, false, false, false, false] (by kernel_rfl) (fun _ _ _ _ h => h) (fun w hS => yd_load rfl T.one3 (blk_cell (hS.get 6 rfl) rfl)) ?_
            refine VA_only (i := 14) (by kernel_rfl) hS ?_
            refine VS_call rfl (wanted_yes rfl rfl rfl rfl) #[true, true, true, true, true, true, true, true, true, true, true, true, true, true, true, true, true, true, true, true, true, false, false, false, false, false, false, false, false, false, false, false, false] (by kernel_rfl) rfl rfl rfl T.call19 rfl (lheader_ok (hS.get 2 rfl) hvb (oi_mem hN)) ?_
            rintro _ _ ⟨rfl, rfl⟩
            refine VA_only (i := 21) (by kernel_rfl) hS ?_
            refine VS_call rfl (wanted_yes rfl rfl rfl rfl) #[true, true, true, true, true, true, true, true, true, true, true, true, true, true, true, true, true, true, true, true, true, true, false, false, false, false, false, false, false, false, false, false, false] (by kernel_rfl) rfl rfl rfl T.call20 rfl (innermost_ok (shapeAt (hS.graph hG0) hok ((hS.get 0 rfl).1 _ (List.mem_singleton.2 rfl))) hg (hS.get 5 rfl) hQ hkn) ?_
            rintro _ w ⟨o, rfl, hio, hR6⟩
            have hS := hS.call0 hR6
            obtain rfl : o = s2.O hs[k]! := hio.unique (outer_is hNe hN.oi hkm)
            refine VA_takeG (i := 22) rfl rfl rfl rfl rfl rfl rfl (by kernel_rfl) (by kernel_rfl) (by kernel_rfl) #[true, true, true, true, true, true, true, true, true, true, true, true, true, true, true, true, true, true, true, true, true, true, true, false, false, false, false, false, false, false, false, false, false] (by kernel_rfl) (fun _ _ _ _ h => h) (fun w hS => yd_neq rfl rfl) ?_
            refine VA_take (i := 23) rfl rfl rfl rfl (by kernel_rfl) (by kernel_rfl) (by kernel_rfl) #[true, true, true, true, true, true, true, true, true, true, true, true, true, true, true, true, true, true, true, true, true, true, true, true, false, false, false, false, false, false, false, false, false] (by kernel_rfl) (fun _ _ _ _ h => h) (fun w hS => yd_pick_f rfl rfl) ?_
            refine VA_take (i := 24) rfl rfl rfl rfl (by kernel_rfl) (by kernel_rfl) (by kernel_rfl) #[true, true, true, true, true, true, true, true, true, true, true, true, true, true, true, true, true, true, true, true, true, true, true, true, true, false, false, false, false, false, false, false, false] (by kernel_rfl) (fun _ _ _ _ h => h) (fun w hS => yd_move rfl) ?_
            refine VA_split 61 rfl (fun h61 => ?_) (fun h61 => ?_)
            · replace h61 := of_decide_eq_true h61
              exact absurd rfl h61
            · replace h61 := Decidable.not_not.1 (of_decide_eq_false h61)
              refine VA_takeG (i := 25) rfl rfl rfl rfl rfl rfl rfl (by kernel_rfl) (by kernel_rfl) (by kernel_rfl) #[true, true, true, true, true, true, true, true, true, true, true, true, true, true, true, true, true, true, true, true, true, true, true, true, true, true, false, false, false, false, false, false, false] (by kernel_rfl) (fun _ _ _ _ h => h) (fun w hS => yd_field rfl T.fld36_3) ?_
              refine VA_takeG (i := 26) rfl rfl rfl rfl rfl rfl rfl (by kernel_rfl) (by kernel_rfl) (by kernel_rfl) #[true, true, true, true, true, true, true, true, true, true, true, true, true, true, true, true, true, true, true, true, true, true, true, true, true, true, true, false, false, false, false, false, false] (by kernel_rfl) (fun _ _ _ _ h => h) (fun w hS => yd_load rfl T.one3 (blk_cell (hS.get 6 rfl) rfl)) ?_
              refine VA_takeG (i := 27) rfl rfl rfl rfl rfl rfl rfl (by kernel_rfl) (by kernel_rfl) (by kernel_rfl) #[true, true, true, true, true, true, true, true, true, true, true, true, true, true, true, true, true, true, true, true, true, true, true, true, true, true, true, true, false, false, false, false, false] (by kernel_rfl) (fun _ _ _ _ h => h) (fun w hS => yd_move rfl) ?_
              refine VA_takeG (i := 28) rfl rfl rfl rfl rfl rfl rfl (by kernel_rfl) (by kernel_rfl) (by kernel_rfl) #[true, true, true, true, true, true, true, true, true, true, true, true, true, true, true, true, true, true, true, true, true, true, true, true, true, true, true, true, true, false, false, false, false] (by kernel_rfl) (fun _ _ _ _ h => h) (fun w hS => yd_field rfl T.fld36_0) ?_
              refine VA_takeG (i := 29) rfl rfl rfl rfl rfl rfl rfl (by kernel_rfl) (by kernel_rfl) (by kernel_rfl) #[true, true, true, true, true, true, true, true, true, true, true, true, true, true, true, true, true, true, true, true, true, true, true, true, true, true, true, true, true, true, false, false, false] (by kernel_rfl) (fun _ _ _ _ h => h) (fun w hS => yd_load rfl T.one3 (blk_cell (hS.get 6 rfl) rfl)) ?_
              refine VA_only (i := 30) (by kernel_rfl) hS ?_
              refine VS_call rfl (wanted_yes rfl rfl rfl rfl) #[true, true, true, true, true, true, true, true, true, true, true, true, true, true, true, true, true, true, true, true, true, true, true, true, true, true, true, true, true, true, true, false, false] (by kernel_rfl) rfl rfl rfl T.call21 rfl (sdepth_ok hg (hS.get 5 rfl) hkn) ?_
              rintro _ _ ⟨rfl, rfl⟩
              refine VA_takeG (i := 31) rfl rfl rfl rfl rfl rfl rfl (by kernel_rfl) (by kernel_rfl) (by kernel_rfl) #[true, true, true, true, true, true, true, true, true, true, true, true, true, true, true, true, true, true, true, true, true, true, true, true, true, true, true, true, true, true, true, true, false] (by kernel_rfl) (fun _ _ _ _ h => h) (fun w hS => yd_neq rfl rfl) ?_
              refine VA_take (i := 32) rfl rfl rfl rfl (by kernel_rfl) (by kernel_rfl) (by kernel_rfl) #[true, true, true, true, true, true, true, true, true, true, true, true, true, true, true, true, true, true, true, true, true, true, true, true, true, true, true, true, true, true, true, true, true] (by kernel_rfl) (fun _ _ _ _ h => h) (fun w hS => yd_pick_f rfl rfl) ?_
              refine VA_done (by kernel_rfl) hS ?_
              refine VE_then ?_
              refine VC_cond rfl (fun h69 => ?_) (fun h69 => ?_)
              · replace h69 := of_decide_eq_true h69
                exact absurd (by rw [depth_is hNe hQ hkm hkn, hN.dp _ hkm]) h69
              · replace h69 := Decidable.not_not.1 (of_decide_eq_false h69)
                refine VC_skip ?_
                refine VE_block_normal ?_
                refine VE_then ?_
                refine VC_region ?_
                refine VL_val rfl rfl rfl (yd_add rfl rfl ((k + 1 : Nat) : Int) (by rw [wi64 (by omega) (by omega)]; omega)) ?_
                refine VL_val rfl rfl rfl (yd_move rfl) ?_
                refine VL_nil ?_
                have hS := hS.sub (η' := _) (List.take_sublist 6 _)
                exact VE_round1 (k + 1) ⟨rfl, rfl, rfl, rfl, rfl, rfl, rfl, rfl, trivial⟩ ⟨by omega, hS⟩ (by omega)
      · replace h34 := Int.not_lt.1 (of_decide_eq_false h34)
        refine VC_exit ?_
        refine VE_then_exit (VE_then_exit (VE_block_exit ?_))
        refine VE_then ?_
        refine VC_seq ?_
        refine VC_region ?_
        refine VL_val rfl rfl rfl (yd_move rfl) ?_
        refine VL_val rfl rfl rfl (yd_len rfl Try.underlying31) ?_
        refine VL_val rfl rfl rfl (yd_move rfl) ?_
        refine VL_val rfl rfl rfl (yd_len rfl Try.underlying22) ?_
        refine VL_val rfl rfl rfl (yd_eql rfl rfl) ?_
        refine VL_val rfl rfl rfl (yd_assign rfl) ?_
        refine VL_nil ?_
        refine VE_then ?_
        refine VC_ret ?_
        refine VE_ret1 (rfl) rfl ?_
        exact ⟨congrArg Value.bool (decide_eq_true rfl), hS.below⟩

end Go.Proofs.Ytmoooaaiohplhab
