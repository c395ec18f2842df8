/- The law on the loops that there are. -/
import Derived.Test.YtmoooaaiohplhaaYd
namespace Go.Proofs.Ytmoooaaiohplhaa
open Go Go.V
set_option linter.unusedVariables false
set_option maxRecDepth 100000

theorem T.agg40 : AggT Try.prog 40 5 := ⟨⟨_, Try.underlying40, rfl⟩, by kernel_rfl⟩
theorem T.fld40_0 : FieldT Try.prog 40 0 0 := FieldT.of (by kernel_rfl)
theorem T.sz40 : (Try.prog.info? 40).map (·.size) = some 5 := by kernel_rfl
theorem T.call23 : CallT Try.prog 23 := CallT.of Try.func23 (by kernel_rfl) (by kernel_rfl)
theorem T.call24 : CallT Try.prog 24 := CallT.of Try.func24 (by kernel_rfl) (by kernel_rfl)
theorem T.call25 : CallT Try.prog 25 := CallT.of Try.func25 (by kernel_rfl) (by kernel_rfl)

open Go.PL
section
variable {G : Graph} {hs : List Nat} {O B : Nat → Option Nat} {q : QRep} {s : LRep} {irr : Bool} {x : Nat}
theorem inner_is (h : Nest G hs O B) (hx : x < G.length) : IsInner G x (-1) (B x) :=
  ⟨fun b e => ⟨(h.inn x b hx e).1, by omega, fun q l _ => ((h.inn x b hx e).2 q l).dm⟩, fun e q l => absurd l (h.non x hx e q)⟩
theorem outer_is (h : Nest G hs O B) (ho : OI (phi G) hs O) (hx : x ∈ hs) : IsInner G x (x : Int) (O x) := by
  constructor
  · intro p e
    have hp := ho.ok x p e
    refine ⟨(h.up p x hx).1 (.step e (.refl _)), fun e2 => hp.2.2.1 (by omega), fun q l hne => ?_⟩
    have ha := (h.up q x hx).2 l
    cases ha with
    | refl => exact absurd rfl hne
    | step e2 ha => rw [e] at e2; cases e2; exact ((h.up q p hp.2.1).1 ha).dm
  · intro e q l
    have ha := (h.up q x hx).2 l
    cases ha with
    | refl => rfl
    | step e2 _ => rw [e] at e2; cases e2
theorem depth_is (h : Nest G hs O B) (hq : QOK q G) (hx : x ∈ hs) (hxl : x < G.length) : (List.range G.length).countP (fun h => q.lp h x) = clv O G.length x := by
  unfold clv
  refine List.countP_congr fun a ha => ?_
  have hal := List.mem_range.1 ha
  simp only [decide_eq_true_eq]
  exact (hq a x hal hxl).trans (h.up a x hx).symm
theorem depth_x (hN : NestOK G hs s B irr) (h : Nest G hs s.O B) (hq : QOK q G) (hxl : x < G.length) : (List.range G.length).countP (fun h => q.lp h x) = dpO s (B x) := by
  cases e : B x with
  | none =>
    refine List.countP_eq_zero.2 fun a ha hl => ?_
    exact h.non x hxl e a ((hq a x (List.mem_range.1 ha) hxl).1 hl)
  | some b =>
    have hb := hN.bm x b e
    have hbl := hN.lt b hb
    obtain ⟨h1, h2⟩ := h.inn x b hxl e
    show _ = s.dp b
    rw [hN.dp b hb, ← depth_is h hq hb hbl]
    refine List.countP_congr fun a ha => ?_
    have hal := List.mem_range.1 ha
    exact (hq a x hal hxl).trans ((⟨h2 a, fun l => h1.trans l⟩ : Lp G a x ↔ Lp G a b).trans (hq a b hal hbl).symm)
theorem nb_is (hg : Gd G) (hw : ∀ x, x < G.length → Rc G 0 x) (hN : NestOK G hs s B irr) (hr : Red G) (h : Nat) : s.nb h = (List.range G.length).countP fun y => B y == some h := by
  rw [hN.nbc hr h]
  have hP := postL_ok hg
  refine List.Perm.countP_eq _ (List.perm_iff_count.2 fun a => ?_)
  rw [hP.nd.count, List.nodup_range.count]
  have e : (a ∈ postL G) = (a ∈ List.range G.length) := propext ((hP.mem a).trans ⟨fun r => List.mem_range.2 (Rch.lt hg hg.pos r), fun r => hw a (List.mem_range.1 r)⟩)
  simp only [e]
theorem inn_iff (hN : NestOK G hs s B irr) (h : Nest G hs s.O B) (hr : Red G) {p : Nat} (hp : p ∈ hs) : s.inn p = true ↔ ∀ x, x < G.length → ¬ (x ≠ p ∧ Lp G p x ∧ Hdr G x) := by
  constructor
  · intro hi x _ ⟨hne, hl, hd⟩
    have ha := (h.up p x ((h.hdr x).2 hd)).2 hl
    rcases abv_child ha with e | ⟨c, e, _⟩
    · exact hne e
    · rw [hN.ii c p e] at hi; cases hi
  · intro hn
    cases hb : s.inn p with
    | true => rfl
    | false =>
      obtain ⟨_, x, hx, h1, _, h3⟩ := hN.i0 p hb
      exact absurd ⟨fun e => h1 e.symm, h3 hr, (h.hdr x).1 hx⟩ (hn x (hN.lt x hx))
noncomputable def cO (O : Nat → Option Nat) (n : Nat) : Option Nat → Nat
  | none => 0
  | some h => clv O n h
theorem cO_up (hg : Gd G) (hN : NestOK G hs s B irr) {p : Nat} (hp : p ∈ hs) : cO s.O G.length (some p) = cO s.O G.length (s.O p) + 1 := by
  have hl := hN.lt p hp
  cases e : s.O p with
  | none => exact clv_none hl e
  | some b => exact clv_some (hN.oi.rank hg (phi_ok hg)) hl e
theorem cO_le (hN : NestOK G hs s B irr) {o : Option Nat} (ho : ∀ h, o = some h → h ∈ hs) : cO s.O G.length o ≤ hs.length := by
  cases o with
  | none => exact Nat.zero_le _
  | some p =>
    show clv s.O G.length p ≤ _
    unfold clv
    rw [List.countP_eq_length_filter]
    refine List.Nodup.length_le_of_subset (List.Nodup.sublist List.filter_sublist List.nodup_range) fun a ha => ?_
    have := (List.mem_filter.1 ha).2
    simp only [decide_eq_true_eq] at this
    exact hN.oi.mem this (ho p rfl)
theorem dpO_cO (hN : NestOK G hs s B irr) : dpO s (B x) = cO s.O G.length (B x) := by
  cases e : B x with
  | none => rfl
  | some b => exact hN.dp b (hN.bm x b e)
theorem oi_mem (hN : NestOK G hs s B irr) {p : Nat} : ∀ h, s.O p = some h → h ∈ hs := fun h e => (hN.oi.ok p h e).2.1
theorem ixO_inj {o o' : Option Nat} (h1 : ∀ h, o = some h → h ∈ hs) (h2 : ∀ h, o' = some h → h ∈ hs) (e : ixO hs o = ixO hs o') : o = o' := by
  cases o with
  | none => cases o' with
    | none => rfl
    | some b => have e : (-1 : Int) = ((hs.idxOf b : Nat) : Int) := e; omega
  | some a => cases o' with
    | none => have e : ((hs.idxOf a : Nat) : Int) = (-1 : Int) := e; omega
    | some b =>
      have e : ((hs.idxOf a : Nat) : Int) = ((hs.idxOf b : Nat) : Int) := e
      have e : hs.idxOf a = hs.idxOf b := by omega
      have ha := (idx_get (h1 a rfl)).2
      rw [e, (idx_get (h2 b rfl)).2] at ha
      rw [ha]
end

theorem get!_hs {hs : List Nat} {k : Nat} (hk : k < hs.length) (x : Nat) : x ∈ hs.take (k + 1) ↔ x ∈ hs.take k ∨ x = hs[k]! := by
  rw [take_snoc' hk, List.mem_append, List.mem_singleton]
theorem not_seen {hs : List Nat} (hn : hs.Nodup) {k : Nat} (hk : k < hs.length) : hs[k]! ∉ hs.take k := by
  have h := (List.take_sublist (k + 1) hs)
  have h := List.Nodup.sublist h hn
  rw [take_snoc' hk, List.nodup_append] at h
  exact fun hm => h.2.2 _ hm _ (List.mem_singleton.2 rfl) rfl
/-- The headers of the first loops are marked. -/
def SeenH (n : Nat) (hs : List Nat) (k : Nat) (R : List Bool) : Prop := R.length = n ∧ ∀ x, x < n → (R[x]! = true ↔ x ∈ hs.take k)
theorem SeenH.init (n : Nat) (hs : List Nat) : SeenH n hs 0 (List.replicate n false) := ⟨by simp, fun x hx => by rw [get!_replicate _ _ _ hx]; simp⟩
theorem SeenH.next {n k : Nat} {hs : List Nat} {R : List Bool} (h : SeenH n hs k R) (hk : k < hs.length) (hl : hs[k]! < n) : SeenH n hs (k + 1) (R.set hs[k]! true) := by
  refine ⟨by simp [h.1], fun x hx => ?_⟩
  rw [get!_set _ _ _ _ (by rw [h.1]; exact hl), get!_hs hk]
  split
  · rename_i e; exact ⟨fun _ => .inr (by first | exact e | exact e.symm), fun _ => rfl⟩
  · rename_i e; rw [h.2 x hx]; exact ⟨.inl, fun h => h.elim id (fun e2 => absurd (by first | exact e2 | exact e2.symm) e)⟩

set_option maxHeartbeats 1000000 in
theorem fnLoops_calls {w0 : World} {v : Value} {G0 : List (List Int)} (hR : RowsAt w0 v G0) : Calls Try.prog 6 #[v] w0 (Ret fun u w' => u = .bool true ∧ RowKit.Below w0.heap.size w0 w') := by
  have hS := St.refl w0
  refine V_enter (N := 87) Try.func6 rfl Try.ntmps6 rfl ?_
  refine VC.sub (τ := [(0, _)]) ⟨rfl, trivial⟩ ?_
  refine VC_seq ?_
  refine VC_region ?_
  refine VL_val rfl rfl rfl (yd_assign rfl) ?_
  refine VL_nil ?_
  refine VE_then ?_
  refine VC_seq ?_
  refine VC_seq ?_
  refine VC_region ?_
  refine VL_val rfl rfl rfl (yd_move rfl) ?_
  refine VL_call rfl rfl rfl rfl T.call15 rfl (zzFits1_ok (hS.rows hR)) ?_
  rintro _ _ ⟨rfl, bz, rfl, hz⟩
  refine VL_val rfl rfl rfl (yd_not rfl) ?_
  refine VL_nil ?_
  refine VE_then ?_
  refine VC_cond rfl (fun h15 => ?_) (fun h15 => ?_)
  · replace h15 := V.nt h15
    refine VC_seq ?_
    refine VC_region ?_
    refine VL_val rfl rfl rfl (yd_assign rfl) ?_
    refine VL_nil ?_
    refine VE_then ?_
    refine VC_ret ?_
    refine VE_then_ret (?_)
    refine VE_ret1 (rfl) rfl ?_
    exact ⟨rfl, hS.below⟩
  · replace h15 := V.nf h15
    have hzt := h15
    refine VC_skip ?_
    refine VE_then ?_
    refine VC_seq ?_
    refine VC_region ?_
    refine VL_val rfl rfl rfl (yd_move rfl) ?_
    refine VL_call rfl rfl rfl rfl T.call23 rfl (lwhole_ok (hS.rows hR) (Nat.le_trans (hz hzt) (by decide))) ?_
    rintro _ w ⟨c1, c2, c3, ok, η, rfl, hone, hR2, hwh⟩
    have hS : St w0 M0 [bundle η] w := St_bundle (hS.call0 hR2)
    refine VL_val rfl rfl rfl (yd_move rfl) ?_
    refine VL_val rfl rfl rfl (yd_extract rfl rfl) ?_
    refine VL_val rfl rfl rfl (yd_extract rfl rfl) ?_
    refine VL_alloc rfl rfl rfl rfl T.e33 hS ?_
    clear hS; intro b3 w hS
    refine VL_storeN (cs := [c1, c2, c3]) rfl rfl rfl rfl rfl T.agg33 hone hS 1 rfl (by simp [Value.cells]) ?_
    clear hS; intro w hS
    refine VL_val rfl rfl rfl (yd_assign rfl) ?_
    refine VL_nil ?_
    refine VE_then ?_
    refine VC_seq ?_
    refine VC_seq ?_
    refine VC_region ?_
    refine VL_val rfl rfl rfl (yd_move rfl) ?_
    refine VL_val rfl rfl rfl (yd_not rfl) ?_
    refine VL_nil ?_
    refine VE_then ?_
    refine VC_cond rfl (fun h22 => ?_) (fun h22 => ?_)
    · replace h22 := V.nt h22
      refine VC_seq ?_
      refine VC_region ?_
      refine VL_val rfl rfl rfl (yd_assign rfl) ?_
      refine VL_nil ?_
      refine VE_then ?_
      refine VC_ret ?_
      refine VE_then_ret (?_)
      refine VE_ret1 (rfl) rfl ?_
      exact ⟨rfl, hS.below⟩
    · replace h22 := V.nf h22
      obtain ⟨G, s, hG, hg, hok, rfl, rfl, rfl, hw, hRed, rfl⟩ := hwh h22
      have hle := hg.le
      have hpos := hg.pos
      have hG0 := hG
      obtain ⟨ga, gc, gb, go, rfl, hga, hrow⟩ := hG
      obtain rfl := hga (by omega)
      refine VC_skip ?_
      refine VE_then ?_
      refine VC_seq ?_
      refine VC_region ?_
      refine VL_val rfl rfl rfl (yd_move rfl) ?_
      refine VL_call rfl rfl rfl rfl T.call24 rfl (implLoops_ok (hS.graph hG0) hg hw) ?_
      rintro _ w ⟨hs, s2, B, irr, v1, v2, v3, rfl, hN, hR3⟩
      have hS := hS.call0 hR3
      have hNe := hN.nest hRed
      have hhl : hs.length ≤ 13 := Nat.le_trans (nodup_len _ hN.nd hN.lt) hg.le
      obtain ⟨va, vc, rfl, hvb⟩ := row_slice (hS.get 2 rfl)
      obtain ⟨ib, ic, rfl, -⟩ := row_form (hS.get 3 rfl) (.inr (by omega))
      obtain ⟨db, dc, rfl, -⟩ := row_form (hS.get 4 rfl) (.inr (by omega))
      refine VL_val rfl rfl rfl (yd_move rfl) ?_
      refine VL_val rfl rfl rfl (yd_extract rfl rfl) ?_
      refine VL_val rfl rfl rfl (yd_extract rfl rfl) ?_
      refine VL_val rfl rfl rfl (yd_extract rfl rfl) ?_
      refine VL_val rfl rfl rfl (yd_extract rfl rfl) ?_
      refine VL_val rfl rfl rfl (yd_assign rfl) ?_
      refine VL_val rfl rfl rfl (yd_assign rfl) ?_
      refine VL_val rfl rfl rfl (yd_assign rfl) ?_
      refine VL_val rfl rfl rfl (yd_assign rfl) ?_
      refine VL_nil ?_
      refine VE_then ?_
      refine VC_seq ?_
      refine VC_seq ?_
      refine VC_region ?_
      refine VL_val rfl rfl rfl (yd_move rfl) ?_
      refine VL_val rfl rfl rfl (yd_len rfl Try.underlying24) ?_
      refine VL_val rfl rfl rfl (yd_move rfl) ?_
      refine VL_val rfl rfl rfl (yd_len rfl Try.underlying22) ?_
      refine VL_val rfl rfl rfl (yd_neq rfl rfl) ?_
      refine VL_val rfl rfl rfl (yd_move rfl) ?_
      refine VL_split 35 rfl (fun h35 => ?_) (fun h35 => ?_)
      · replace h35 := of_decide_eq_true h35
        exact absurd rfl h35
      · replace h35 := Decidable.not_not.1 (of_decide_eq_false h35)
        refine VL_yes rfl rfl rfl rfl ?_
        refine VL_val rfl rfl rfl (yd_move rfl) ?_
        refine VL_yes rfl rfl rfl rfl ?_
        refine VL_val rfl rfl rfl (yd_len rfl Try.underlying24) ?_
        refine VL_yes rfl rfl rfl rfl ?_
        refine VL_val rfl rfl rfl (yd_move rfl) ?_
        refine VL_yes rfl rfl rfl rfl ?_
        refine VL_val rfl rfl rfl (yd_len rfl Try.underlying22) ?_
        refine VL_yes rfl rfl rfl rfl ?_
        refine VL_val rfl rfl rfl (yd_neq rfl rfl) ?_
        refine VL_val rfl rfl rfl (yd_pick_f rfl rfl) ?_
        refine VL_nil ?_
        refine VE_then ?_
        refine VC_cond rfl (fun h41 => ?_) (fun h41 => ?_)
        · replace h41 := of_decide_eq_true h41
          exact absurd rfl h41
        · replace h41 := Decidable.not_not.1 (of_decide_eq_false h41)
          refine VC_skip ?_
          refine VE_then ?_
          refine VC_seq ?_
          refine VC_region ?_
          refine VL_val rfl rfl rfl (yd_move rfl) ?_
          refine VL_val rfl rfl rfl (yd_len rfl Try.underlying22) ?_
          refine VL_makeM Value.bool false rfl rfl rfl rfl rfl rfl Try.underlying28 T.e4 rfl rfl (by omega) (by omega) (by omega) hS ?_
          clear hS; intro b9 w hS
          refine VL_val rfl rfl rfl (yd_assign rfl) ?_
          refine VL_nil ?_
          refine VE_then ?_
          refine VC_seq ?_
          refine VC_seq ?_
          refine VC_region ?_
          refine VL_val rfl rfl rfl (yd_move rfl) ?_
          refine VL_val rfl rfl rfl (yd_len rfl Try.underlying36) ?_
          refine VL_val rfl rfl rfl (yd_move rfl) ?_
          refine VL_nil ?_
          refine VE_then ?_
          refine VC_block ?_
          refine VC_loop2 [0, 3, 9, 45, 46] [_, _, _, _, _] rfl (fun (k : Nat) (R : List Bool) => [(47, .int .i64 ((k : Nat) : Int))]) (fun (k : Nat) (R : List Bool) w => k ≤ hs.length ∧ SeenH G.length hs k R ∧ St w0 M0 [bundle [shapeR s G], blk b3 33 [.slice (some ⟨gb, go, none⟩) G.length gc, s.live G, s.dom G], row (.slice va hs.length vc) 40 5 hs.length (loopC hs s2 hs), row (.slice (some ⟨ib, 0, none⟩) G.length ic) 3 1 G.length (((List.range G.length).map fun x => ixO hs (B x)).map (Value.int .i64)), row (.slice (some ⟨db, 0, none⟩) G.length dc) 3 1 G.length (((List.range G.length).map fun x => ((dpO s2 (B x) : Nat) : Int)).map (Value.int .i64)), blk b9 4 (R.map Value.bool)] w) (fun (k : Nat) (R : List Bool) => hs.length - k) 0 _ ⟨rfl, trivial⟩ (⟨Nat.zero_le _, SeenH.init _ _, hS⟩) ?_
          clear hS; rintro k R w ⟨hk, hse, hS⟩
          have hRl := hse.1
          refine VC_seq ?_
          refine VC_region ?_
          refine VL_val rfl rfl rfl (yd_lss rfl rfl) ?_
          refine VL_nil ?_
          refine VE_then ?_
          refine VC_seq ?_
          refine VC_cond rfl (fun h48 => ?_) (fun h48 => ?_)
          · replace h48 := of_decide_eq_true h48
            refine VC_skip ?_
            refine VE_then ?_
            refine VC_seq ?_
            refine VC_block ?_
            refine VC_seq ?_
            refine VC_region ?_
            have hkl : k < hs.length := by omega
            obtain ⟨vb, rfl⟩ := hvb (by omega)
            have hkm : hs[k]! ∈ hs := by rw [getElem!_pos hs k hkl]; exact List.getElem_mem _
            have hkn := hN.lt _ hkm
            have hns : R[hs[k]!]! = false := by
              cases e : R[hs[k]!]! with
              | false => rfl
              | true => exact absurd ((hse.2 _ hkn).1 e) (not_seen hN.nd hkl)
            refine VL_val rfl rfl rfl (yd_index rfl rfl Try.underlying36 T.sz40 (by omega) (k * 5) (Nat.zero_add _)) ?_
            refine VL_val rfl rfl rfl (yd_loadn (l5 hs s2 hs[k]!) rfl T.agg40 (l5_cell (hS.get 2 rfl) hkl)) ?_
            refine VL_alloc rfl rfl rfl rfl T.e40 hS ?_
            clear hS; intro b11 w hS
            refine VL_storeN (cs := l5 hs s2 hs[k]!) rfl rfl rfl rfl rfl T.agg40 l5_one hS 6 rfl (by simp [Value.cells, l5]) ?_
            clear hS; intro w hS
            refine VL_nil ?_
            refine VE_then ?_
            refine VC_seq ?_
            refine VC_seq ?_
            refine VC_region ?_
            refine VL_val rfl rfl rfl (yd_field rfl T.fld40_0) ?_
            refine VL_val rfl rfl rfl (yd_load rfl T.one3 (blk_cell (hS.get 6 rfl) rfl)) ?_
            refine VL_val rfl rfl rfl (yd_lss rfl rfl) ?_
            refine VL_val rfl rfl rfl (yd_move rfl) ?_
            refine VL_split 54 rfl (fun h54 => ?_) (fun h54 => ?_)
            · replace h54 := of_decide_eq_true h54
              exact absurd h54 (by omega)
            · replace h54 := Int.not_lt.1 (of_decide_eq_false h54)
              refine VL_yes rfl rfl rfl rfl ?_
              refine VL_val rfl rfl rfl (yd_field rfl T.fld40_0) ?_
              refine VL_yes rfl rfl rfl rfl ?_
              refine VL_val rfl rfl rfl (yd_load rfl T.one3 (blk_cell (hS.get 6 rfl) rfl)) ?_
              refine VL_yes rfl rfl rfl rfl ?_
              refine VL_val rfl rfl rfl (yd_move rfl) ?_
              refine VL_yes rfl rfl rfl rfl ?_
              refine VL_val rfl rfl rfl (yd_len rfl Try.underlying22) ?_
              refine VL_yes rfl rfl rfl rfl ?_
              refine VL_val rfl rfl rfl (yd_geq rfl rfl) ?_
              refine VL_val rfl rfl rfl (yd_pick_f rfl rfl) ?_
              refine VL_val rfl rfl rfl (yd_move rfl) ?_
              refine VL_split 61 rfl (fun h61 => ?_) (fun h61 => ?_)
              · replace h61 := of_decide_eq_true h61
                exact absurd h61 (by omega)
              · replace h61 := Int.not_le.1 (of_decide_eq_false h61)
                refine VL_yes rfl rfl rfl rfl ?_
                refine VL_val rfl rfl rfl (yd_move rfl) ?_
                refine VL_yes rfl rfl rfl rfl ?_
                refine VL_val rfl rfl rfl (yd_field rfl T.fld40_0) ?_
                refine VL_yes rfl rfl rfl rfl ?_
                refine VL_val rfl rfl rfl (yd_load rfl T.one3 (blk_cell (hS.get 6 rfl) rfl)) ?_
                refine VL_yes rfl rfl rfl rfl ?_
                refine VL_val rfl rfl rfl (yd_index0 rfl rfl Try.underlying28 T.sz4 (by omega)) ?_
                refine VL_yes rfl rfl rfl rfl ?_
                refine VL_val rfl rfl rfl (yd_load rfl T.one4 (blk_cellM (hS.get 5 rfl) (by omega))) ?_
                refine VL_val rfl rfl rfl (yd_pick_f rfl rfl) ?_
                refine VL_nil ?_
                refine VE_then ?_
                refine VC_cond rfl (fun h67 => ?_) (fun h67 => ?_)
                · skip
                  exact absurd h67 (by rw [hns]; simp)
                · skip
                  refine VC_skip ?_
                  refine VE_then ?_
                  refine VC_region ?_
                  refine VL_val rfl rfl rfl (yd_move rfl) ?_
                  refine VL_val rfl rfl rfl (yd_field rfl T.fld40_0) ?_
                  refine VL_val rfl rfl rfl (yd_load rfl T.one3 (blk_cell (hS.get 6 rfl) rfl)) ?_
                  refine VL_val rfl rfl rfl (yd_index0 rfl rfl Try.underlying28 T.sz4 (by omega)) ?_
                  refine VL_storeM rfl rfl rfl rfl rfl T.one4 rfl hS 5 rfl (by omega) rfl ?_
                  clear hS; intro w hS
                  refine VL_nil ?_
                  refine VE_block_normal ?_
                  refine VE_then ?_
                  refine VC_region ?_
                  refine VL_val rfl rfl rfl (yd_add rfl rfl ((k + 1 : Nat) : Int) (by rw [wi64 (by omega) (by omega)]; omega)) ?_
                  refine VL_val rfl rfl rfl (yd_move rfl) ?_
                  refine VL_nil ?_
                  have hS := hS.sub (η' := _) (List.take_sublist 6 _)
                  exact VE_round2 (k + 1) (R.set hs[k]! true) ⟨rfl, rfl, rfl, rfl, rfl, rfl, trivial⟩ ⟨by omega, hse.next hkl hkn, hS⟩ (by omega)
          · replace h48 := Int.not_lt.1 (of_decide_eq_false h48)
            refine VC_exit ?_
            refine VE_then_exit (VE_then_exit (VE_block_exit ?_))
            refine VE_then ?_
            refine VC_seq ?_
            refine VC_seq ?_
            refine VC_region ?_
            obtain rfl : k = hs.length := by omega
            refine VL_val rfl rfl rfl (yd_move rfl) ?_
            refine VL_val rfl rfl rfl (yd_len rfl Try.underlying22) ?_
            refine VL_val rfl rfl rfl (yd_move rfl) ?_
            refine VL_nil ?_
            refine VE_then ?_
            refine VC_block ?_
            refine VC_loop1 [3, 9, 74] [_, _, _] rfl (fun (x : Nat) => [(75, .int .i64 ((x : Nat) : Int))]) (fun (x : Nat) w => x ≤ G.length ∧ St w0 M0 [bundle [shapeR s G], blk b3 33 [.slice (some ⟨gb, go, none⟩) G.length gc, s.live G, s.dom G], row (.slice va hs.length vc) 40 5 hs.length (loopC hs s2 hs), row (.slice (some ⟨ib, 0, none⟩) G.length ic) 3 1 G.length (((List.range G.length).map fun x => ixO hs (B x)).map (Value.int .i64)), row (.slice (some ⟨db, 0, none⟩) G.length dc) 3 1 G.length (((List.range G.length).map fun x => ((dpO s2 (B x) : Nat) : Int)).map (Value.int .i64)), blk b9 4 (R.map Value.bool)] w) (fun (x : Nat) => G.length - x) 0 ⟨rfl, trivial⟩ (⟨Nat.zero_le _, hS⟩) ?_
            clear hS; rintro x w ⟨hx, hS⟩
            refine VC_seq ?_
            refine VC_region ?_
            refine VL_val rfl rfl rfl (yd_lss rfl rfl) ?_
            refine VL_nil ?_
            refine VE_then ?_
            refine VC_seq ?_
            refine VC_cond rfl (fun h76 => ?_) (fun h76 => ?_)
            · replace h76 := of_decide_eq_true h76
              refine VC_skip ?_
              refine VE_then ?_
              refine VC_seq ?_
              refine VC_block ?_
              refine VC_seq ?_
              refine VC_region ?_
              have hxl : x < G.length := by omega
              have hsx : R[x]! = true ↔ Hdr G x := by rw [hse.2 x hxl, List.take_length]; exact hNe.hdr x
              refine VL_val rfl rfl rfl (yd_move rfl) ?_
              refine VL_val rfl rfl rfl (yd_assign rfl) ?_
              refine VL_nil ?_
              refine VE_then ?_
              refine VC_seq ?_
              refine VC_draw T.mixed hS ?_
              clear hS; intro w hS
              refine VA_take (i := 0) rfl rfl rfl rfl (by kernel_rfl) (by kernel_rfl) (by kernel_rfl) #[true, false, false, false, false, false, false, false] (by kernel_rfl) (fun _ _ _ _ h => h) (fun w hS => yd_move rfl) ?_
              refine VA_take (i := 1) rfl rfl rfl rfl (by kernel_rfl) (by kernel_rfl) (by kernel_rfl) #[true, true, false, false, false, false, false, false] (by kernel_rfl) (fun _ _ _ _ h => h) (fun w hS => yd_move rfl) ?_
              refine VA_take (i := 2) rfl rfl rfl rfl (by kernel_rfl) (by kernel_rfl) (by kernel_rfl) #[true, true, true, false, false, false, false, false] (by kernel_rfl) (fun _ _ _ _ h => h) (fun w hS => yd_index0 rfl rfl Try.underlying28 T.sz4 (by omega)) ?_
              refine VA_take (i := 3) rfl rfl rfl rfl (by kernel_rfl) (by kernel_rfl) (by kernel_rfl) #[true, true, true, true, false, false, false, false] (by kernel_rfl) (fun _ _ _ _ h => h) (fun w hS => yd_load rfl T.one4 (blk_cellM (hS.get 5 rfl) (by omega))) ?_
              refine VA_take (i := 4) rfl rfl rfl rfl (by kernel_rfl) (by kernel_rfl) (by kernel_rfl) #[true, true, true, true, true, false, false, false] (by kernel_rfl) (fun _ _ _ _ h => h) (fun w hS => yd_loadn [.slice (some ⟨gb, go, none⟩) G.length gc, s.live G, s.dom G] rfl T.agg33 (fun j u hj => by rw [Nat.zero_add]; exact blk_cell (hS.get 1 rfl) hj)) ?_
              refine VA_take (i := 5) rfl rfl rfl rfl (by kernel_rfl) (by kernel_rfl) (by kernel_rfl) #[true, true, true, true, true, true, false, false] (by kernel_rfl) (fun _ _ _ _ h => h) (fun w hS => yd_move rfl) ?_
              refine VA_only (i := 6) (by kernel_rfl) hS ?_
              refine VS_call rfl (wanted_none rfl) #[true, true, true, true, true, true, true, false] (by kernel_rfl) rfl rfl rfl T.call25 rfl (header_ok (shapeAt (hS.graph hG0) hok ((hS.get 0 rfl).1 _ (List.mem_singleton.2 rfl))) hg hxl) ?_
              rintro _ w ⟨bh, rfl, hbh, hR7⟩
              have hS := hS.call0 hR7
              obtain rfl : R[x]! = bh := Bool.eq_iff_iff.2 (hsx.trans hbh.symm)
              refine VA_take (i := 7) rfl rfl rfl rfl (by kernel_rfl) (by kernel_rfl) (by kernel_rfl) #[true, true, true, true, true, true, true, true] (by kernel_rfl) (fun _ _ _ _ h => h) (fun w hS => yd_neqb rfl rfl Try.underlying4) ?_
              refine VA_done (by kernel_rfl) hS ?_
              refine VE_then ?_
              refine VC_cond rfl (fun h85 => ?_) (fun h85 => ?_)
              · replace h85 := of_decide_eq_true h85
                exact absurd rfl h85
              · replace h85 := Decidable.not_not.1 (of_decide_eq_false h85)
                refine VC_skip ?_
                refine VE_block_normal ?_
                refine VE_then ?_
                refine VC_region ?_
                refine VL_val rfl rfl rfl (yd_add rfl rfl ((x + 1 : Nat) : Int) (by rw [wi64 (by omega) (by omega)]; omega)) ?_
                refine VL_val rfl rfl rfl (yd_move rfl) ?_
                refine VL_nil ?_
                exact VE_round1 (x + 1) ⟨rfl, rfl, rfl, rfl, trivial⟩ ⟨by omega, hS⟩ (by omega)
            · replace h76 := Int.not_lt.1 (of_decide_eq_false h76)
              refine VC_exit ?_
              refine VE_then_exit (VE_then_exit (VE_block_exit ?_))
              refine VE_then ?_
              refine VC_seq ?_
              refine VC_region ?_
              refine VL_val rfl rfl rfl (yd_assign rfl) ?_
              refine VL_nil ?_
              refine VE_then ?_
              refine VC_ret ?_
              refine VE_ret1 (rfl) rfl ?_
              exact ⟨rfl, hS.below⟩

end Go.Proofs.Ytmoooaaiohplhaa
