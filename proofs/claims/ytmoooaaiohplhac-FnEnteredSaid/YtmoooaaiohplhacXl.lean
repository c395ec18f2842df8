/- The law on ways into loops. -/
import Derived.Test.YtmoooaaiohplhacYd
namespace Go.Proofs.Ytmoooaaiohplhac
open Go Go.V
set_option linter.unusedVariables false
set_option maxRecDepth 100000

theorem T.fld45_1 : FieldT Try.prog 45 1 1 := FieldT.of (by kernel_rfl)
theorem T.call12 : CallT Try.prog 12 := CallT.of Try.func12 (by kernel_rfl) (by kernel_rfl)
theorem T.call23 : CallT Try.prog 23 := CallT.of Try.func23 (by kernel_rfl) (by kernel_rfl)
theorem T.call24 : CallT Try.prog 24 := CallT.of Try.func24 (by kernel_rfl) (by kernel_rfl)
theorem T.call28 : CallT Try.prog 28 := CallT.of Try.func28 (by kernel_rfl) (by kernel_rfl)

open Go.PL
section
variable {G : Graph} {hs : List Nat} {O B : Nat → Option Nat} {q : QRep} {s : LRep} {irr : Bool} {x : Nat}
theorem inner_is (h : Nest G hs O B) (hx : x < G.length) : IsInner G x (-1) (B x) :=
  ⟨fun b e => ⟨(h.inn x b hx e).1, by omega, fun q l _ => ((h.inn x b hx e).2 q l).dm⟩, fun e q l => absurd l (h.non x hx e q)⟩
theorem outer_is (h : Nest G hs O B) (ho : OI (phi G) hs O) (hx : x ∈ hs) : IsInner G x (x : Int) (O x) := by
  constructor
  · intro p e
    have hp := ho.ok x p e
    refine ⟨(h.up p x hx).1 (.step e (.refl _)), fun e2 => hp.2.2.1 (by omega), fun q l hne => ?_⟩
    have ha := (h.up q x hx).2 l
    cases ha with
    | refl => exact absurd rfl hne
    | step e2 ha => rw [e] at e2; cases e2; exact ((h.up q p hp.2.1).1 ha).dm
  · intro e q l
    have ha := (h.up q x hx).2 l
    cases ha with
    | refl => rfl
    | step e2 _ => rw [e] at e2; cases e2
theorem depth_is (h : Nest G hs O B) (hq : QOK q G) (hx : x ∈ hs) (hxl : x < G.length) : (List.range G.length).countP (fun h => q.lp h x) = clv O G.length x := by
  unfold clv
  refine List.countP_congr fun a ha => ?_
  have hal := List.mem_range.1 ha
  simp only [decide_eq_true_eq]
  exact (hq a x hal hxl).trans (h.up a x hx).symm
theorem depth_x (hN : NestOK G hs s B irr) (h : Nest G hs s.O B) (hq : QOK q G) (hxl : x < G.length) : (List.range G.length).countP (fun h => q.lp h x) = dpO s (B x) := by
  cases e : B x with
  | none =>
    refine List.countP_eq_zero.2 fun a ha hl => ?_
    exact h.non x hxl e a ((hq a x (List.mem_range.1 ha) hxl).1 hl)
  | some b =>
    have hb := hN.bm x b e
    have hbl := hN.lt b hb
    obtain ⟨h1, h2⟩ := h.inn x b hxl e
    show _ = s.dp b
    rw [hN.dp b hb, ← depth_is h hq hb hbl]
    refine List.countP_congr fun a ha => ?_
    have hal := List.mem_range.1 ha
    exact (hq a x hal hxl).trans ((⟨h2 a, fun l => h1.trans l⟩ : Lp G a x ↔ Lp G a b).trans (hq a b hal hbl).symm)
theorem nb_is (hg : Gd G) (hw : ∀ x, x < G.length → Rc G 0 x) (hN : NestOK G hs s B irr) (hr : Red G) (h : Nat) : s.nb h = (List.range G.length).countP fun y => B y == some h := by
  rw [hN.nbc hr h]
  have hP := postL_ok hg
  refine List.Perm.countP_eq _ (List.perm_iff_count.2 fun a => ?_)
  rw [hP.nd.count, List.nodup_range.count]
  have e : (a ∈ postL G) = (a ∈ List.range G.length) := propext ((hP.mem a).trans ⟨fun r => List.mem_range.2 (Rch.lt hg hg.pos r), fun r => hw a (List.mem_range.1 r)⟩)
  simp only [e]
theorem inn_iff (hN : NestOK G hs s B irr) (h : Nest G hs s.O B) (hr : Red G) {p : Nat} (hp : p ∈ hs) : s.inn p = true ↔ ∀ x, x < G.length → ¬ (x ≠ p ∧ Lp G p x ∧ Hdr G x) := by
  constructor
  · intro hi x _ ⟨hne, hl, hd⟩
    have ha := (h.up p x ((h.hdr x).2 hd)).2 hl
    rcases abv_child ha with e | ⟨c, e, _⟩
    · exact hne e
    · rw [hN.ii c p e] at hi; cases hi
  · intro hn
    cases hb : s.inn p with
    | true => rfl
    | false =>
      obtain ⟨_, x, hx, h1, _, h3⟩ := hN.i0 p hb
      exact absurd ⟨fun e => h1 e.symm, h3 hr, (h.hdr x).1 hx⟩ (hn x (hN.lt x hx))
noncomputable def cO (O : Nat → Option Nat) (n : Nat) : Option Nat → Nat
  | none => 0
  | some h => clv O n h
theorem cO_up (hg : Gd G) (hN : NestOK G hs s B irr) {p : Nat} (hp : p ∈ hs) : cO s.O G.length (some p) = cO s.O G.length (s.O p) + 1 := by
  have hl := hN.lt p hp
  cases e : s.O p with
  | none => exact clv_none hl e
  | some b => exact clv_some (hN.oi.rank hg (phi_ok hg)) hl e
theorem cO_le (hN : NestOK G hs s B irr) {o : Option Nat} (ho : ∀ h, o = some h → h ∈ hs) : cO s.O G.length o ≤ hs.length := by
  cases o with
  | none => exact Nat.zero_le _
  | some p =>
    show clv s.O G.length p ≤ _
    unfold clv
    rw [List.countP_eq_length_filter]
    refine List.Nodup.length_le_of_subset (List.Nodup.sublist List.filter_sublist List.nodup_range) fun a ha => ?_
    have := (List.mem_filter.1 ha).2
    simp only [decide_eq_true_eq] at this
    exact hN.oi.mem this (ho p rfl)
theorem dpO_cO (hN : NestOK G hs s B irr) : dpO s (B x) = cO s.O G.length (B x) := by
  cases e : B x with
  | none => rfl
  | some b => exact hN.dp b (hN.bm x b e)
theorem oi_mem (hN : NestOK G hs s B irr) {p : Nat} : ∀ h, s.O p = some h → h ∈ hs := fun h e => (hN.oi.ok p h e).2.1
theorem ixO_inj {o o' : Option Nat} (h1 : ∀ h, o = some h → h ∈ hs) (h2 : ∀ h, o' = some h → h ∈ hs) (e : ixO hs o = ixO hs o') : o = o' := by
  cases o with
  | none => cases o' with
    | none => rfl
    | some b => have e : (-1 : Int) = ((hs.idxOf b : Nat) : Int) := e; omega
  | some a => cases o' with
    | none => have e : ((hs.idxOf a : Nat) : Int) = (-1 : Int) := e; omega
    | some b =>
      have e : ((hs.idxOf a : Nat) : Int) = ((hs.idxOf b : Nat) : Int) := e
      have e : hs.idxOf a = hs.idxOf b := by omega
      have ha := (idx_get (h1 a rfl)).2
      rw [e, (idx_get (h2 b rfl)).2] at ha
      rw [ha]
end

theorem map_get {f : Nat → Int} {n i : Nat} (h : i < n) : (((List.range n).map f).map (Value.int .i64))[i]? = some (Value.int .i64 (f i)) := by simp [h]
theorem in_within {G : Graph} {hs : List Nat} {s : LRep} {B : Nat → Option Nat} {irr : Bool} {x p : Nat} (hN : NestOK G hs s B irr) (h : Nest G hs s.O B) (hx : x < G.length) (l : Lp G p x) : ∃ a, B x = some a ∧ Abv s.O p a := by
  cases e : B x with
  | none => exact absurd l (h.non x hx e p)
  | some a => exact ⟨a, rfl, (h.up p a (hN.bm x a e)).2 ((h.inn x a hx e).2 p l)⟩

theorem within_ok {w0 : World} {G : Graph} {B : Nat → Option Nat} {irr : Bool} {hs : List Nat} {s : LRep} {va : Option Addr} {vc : Nat} (hl : (row (.slice va hs.length vc) 45 5 hs.length (loopC hs s hs)).holds w0) (hvb : 0 < hs.length → ∃ b, va = some ⟨b, 0, none⟩) (hg : Gd G) (hN : NestOK G hs s B irr) (hhl : hs.length ≤ 13) {o0 : Option Nat} (ho : ∀ h, o0 = some h → h ∈ hs) {p : Nat} (hp : p ∈ hs) : Calls Try.prog 28 #[.slice va hs.length vc, .int .i64 (ixO hs o0), .int .i64 (ixO hs (some p))] w0 (Ret fun r w' => ∃ b, r = .bool b ∧ ((∃ a, o0 = some a ∧ Abv s.O p a) → b = true) ∧ w0 = w') := by
  have hc0 := cO_le hN ho
  refine V_enter (N := 28) Try.func28 rfl Try.ntmps28 rfl ?_
  refine VC.sub (τ := [(0, _), (1, _), (2, _)]) ⟨rfl, rfl, rfl, trivial⟩ ?_
  refine VC_seq ?_
  refine VC_region ?_
  refine VL_val rfl rfl rfl (yd_assign rfl) ?_
  refine VL_nil ?_
  refine VE_then ?_
  refine VC_seq ?_
  refine VC_seq ?_
  refine VC_region ?_
  refine VL_val rfl rfl rfl (yd_move rfl) ?_
  refine VL_val rfl rfl rfl (yd_len rfl Try.underlying40) ?_
  refine VL_val rfl rfl rfl (yd_move rfl) ?_
  refine VL_nil ?_
  refine VE_then ?_
  refine VC_block ?_
  refine VC_loop2 [0, 2, 8] [_, _, _] rfl (fun (k : Nat) (o : Option Nat) => [(9, .int .i64 ((k : Nat) : Int)), (1, .int .i64 (ixO hs o))]) (fun (k : Nat) (o : Option Nat) w => k ≤ hs.length ∧ (∀ h, o = some h → h ∈ hs) ∧ ((∃ a, o0 = some a ∧ Abv s.O p a) → ∃ a, o = some a ∧ Abv s.O p a ∧ k + cO s.O G.length (some a) ≤ hs.length) ∧ w0 = w) (fun (k : Nat) (o : Option Nat) => hs.length - k) 0 o0 ⟨rfl, rfl, trivial⟩ (⟨Nat.zero_le _, ho, fun ⟨a, e, ha⟩ => ⟨a, e, ha, by rw [← e]; omega⟩, rfl⟩) ?_
  rintro k o w ⟨hk, hom, hin, rfl⟩
  refine VC_seq ?_
  refine VC_region ?_
  refine VL_val rfl rfl rfl (yd_lss rfl rfl) ?_
  refine VL_nil ?_
  refine VE_then ?_
  refine VC_seq ?_
  refine VC_cond rfl (fun h10 => ?_) (fun h10 => ?_)
  · replace h10 := of_decide_eq_true h10
    refine VC_skip ?_
    refine VE_then ?_
    refine VC_seq ?_
    refine VC_block ?_
    refine VC_seq ?_
    refine VC_seq ?_
    refine VC_region ?_
    have hix := ixO_lt hom
    refine VL_val rfl rfl rfl (yd_move rfl) ?_
    refine VL_val rfl rfl rfl (yd_lss rfl rfl) ?_
    refine VL_val rfl rfl rfl (yd_move rfl) ?_
    refine VL_split 13 rfl (fun h13 => ?_) (fun h13 => ?_)
    · replace h13 := of_decide_eq_true h13
      have hon : o = none := by
        cases o with
        | none => rfl
        | some a => have h13 : ((hs.idxOf a : Nat) : Int) < 0 := h13; omega
      refine VL_no rfl rfl rfl rfl rfl rfl rfl ?_
      refine VL_no rfl rfl rfl rfl rfl rfl rfl ?_
      refine VL_no rfl rfl rfl rfl rfl rfl rfl ?_
      refine VL_no rfl rfl rfl rfl rfl rfl rfl ?_
      refine VL_val rfl rfl rfl (yd_pick_t rfl rfl) ?_
      refine VL_nil ?_
      refine VE_then ?_
      refine VC_cond_t rfl ?_
      refine VC_seq ?_
      refine VC_region ?_
      refine VL_val rfl rfl rfl (yd_assign rfl) ?_
      refine VL_nil ?_
      refine VE_then ?_
      refine VC_ret ?_
      refine VE_then_ret (VE_block_ret (VE_then_ret (VE_then_ret (VE_block_ret (VE_then_ret (?_))))))
      refine VE_ret1 (rfl) rfl ?_
      exact ⟨_, rfl, fun h => by (obtain ⟨a, e, _⟩ := hin h; rw [hon] at e; cases e), rfl⟩
    · replace h13 := Int.not_lt.1 (of_decide_eq_false h13)
      obtain ⟨a, rfl⟩ : ∃ a, o = some a := by
        cases o with
        | none => have h13 : (0 : Int) ≤ -1 := h13; omega
        | some a => exact ⟨a, rfl⟩
      have ham := hom a rfl
      obtain ⟨hil, hget⟩ := idx_get ham
      obtain ⟨vb, rfl⟩ := hvb (by omega)
      have hup := cO_up hg hN ham
      refine VL_yes rfl rfl rfl rfl ?_
      refine VL_val rfl rfl rfl (yd_move rfl) ?_
      refine VL_yes rfl rfl rfl rfl ?_
      refine VL_val rfl rfl rfl (yd_move rfl) ?_
      refine VL_yes rfl rfl rfl rfl ?_
      refine VL_val rfl rfl rfl (yd_len rfl Try.underlying40) ?_
      refine VL_yes rfl rfl rfl rfl ?_
      refine VL_val rfl rfl rfl (yd_geq rfl rfl) ?_
      refine VL_val rfl rfl rfl (yd_pick_f rfl rfl) ?_
      refine VL_nil ?_
      refine VE_then ?_
      refine VC_cond rfl (fun h18 => ?_) (fun h18 => ?_)
      · replace h18 := of_decide_eq_true h18
        exact absurd h18 (by omega)
      · replace h18 := Int.not_le.1 (of_decide_eq_false h18)
        refine VC_skip ?_
        refine VE_then ?_
        refine VC_seq ?_
        refine VC_seq ?_
        refine VC_region ?_
        refine VL_val rfl rfl rfl (yd_move rfl) ?_
        refine VL_val rfl rfl rfl (yd_move rfl) ?_
        refine VL_val rfl rfl rfl (yd_eql rfl rfl) ?_
        refine VL_nil ?_
        refine VE_then ?_
        refine VC_cond rfl (fun h21 => ?_) (fun h21 => ?_)
        · replace h21 := of_decide_eq_true h21
          refine VC_seq ?_
          refine VC_region ?_
          refine VL_val rfl rfl rfl (yd_assign rfl) ?_
          refine VL_nil ?_
          refine VE_then ?_
          refine VC_ret ?_
          refine VE_then_ret (VE_block_ret (VE_then_ret (VE_then_ret (VE_block_ret (VE_then_ret (?_))))))
          refine VE_ret1 (rfl) rfl ?_
          exact ⟨_, rfl, fun _ => rfl, rfl⟩
        · replace h21 := of_decide_eq_false h21
          refine VC_skip ?_
          refine VE_then ?_
          refine VC_region ?_
          refine VL_val rfl rfl rfl (yd_move rfl) ?_
          refine VL_val rfl rfl rfl (yd_move rfl) ?_
          refine VL_val rfl rfl rfl (yd_index rfl rfl Try.underlying40 T.sz45 (i := hs.idxOf a) hil (hs.idxOf a * 5) (Nat.zero_add _)) ?_
          refine VL_val rfl rfl rfl (yd_field rfl T.fld45_1) ?_
          refine VL_val rfl rfl rfl (yd_load rfl T.one3 (show _ = some (Value.int .i64 (ixO hs (s.O a))) by have := l5_cell hl hil 1 _ rfl; rw [hget] at this; exact this)) ?_
          refine VL_val rfl rfl rfl (yd_assign rfl) ?_
          refine VL_nil ?_
          refine VE_block_normal ?_
          refine VE_then ?_
          refine VC_region ?_
          refine VL_val rfl rfl rfl (yd_add rfl rfl ((k + 1 : Nat) : Int) (by rw [wi64 (by omega) (by omega)]; omega)) ?_
          refine VL_val rfl rfl rfl (yd_move rfl) ?_
          refine VL_nil ?_
          refine VE_round2 (k + 1) (s.O a) ⟨rfl, rfl, rfl, rfl, rfl, trivial⟩ ⟨by omega, oi_mem hN, fun h => ?_, rfl⟩ (by omega)
          obtain ⟨a2, e, ha, hc⟩ := hin h
          cases e
          cases ha with
          | refl => exact absurd rfl h21
          | step e2 ha2 =>
            rw [e2] at hup
            exact ⟨_, e2, ha2, by omega⟩
  · replace h10 := Int.not_lt.1 (of_decide_eq_false h10)
    refine VC_exit ?_
    refine VE_then_exit (VE_then_exit (VE_block_exit ?_))
    refine VE_then ?_
    refine VC_seq ?_
    refine VC_region ?_
    refine VL_val rfl rfl rfl (yd_assign rfl) ?_
    refine VL_nil ?_
    refine VE_then ?_
    refine VC_ret ?_
    refine VE_ret1 (rfl) rfl ?_
    refine ⟨_, rfl, fun h => ?_, rfl⟩
    obtain ⟨a2, e, ha, hc⟩ := hin h
    have := cO_up hg hN (hom a2 e)
    omega

set_option maxHeartbeats 1000000 in
theorem fnEntered_calls {w0 : World} {v : Value} {G0 : List (List Int)} (hR : RowsAt w0 v G0) : Calls Try.prog 7 #[v] w0 (Ret fun u w' => u = .bool true ∧ RowKit.Below w0.heap.size w0 w') := by
  have hS := St.refl w0
  refine V_enter (N := 89) Try.func7 rfl Try.ntmps7 rfl ?_
  refine VC.sub (τ := [(0, _)]) ⟨rfl, trivial⟩ ?_
  refine VC_seq ?_
  refine VC_region ?_
  refine VL_val rfl rfl rfl (yd_assign rfl) ?_
  refine VL_nil ?_
  refine VE_then ?_
  refine VC_seq ?_
  refine VC_seq ?_
  refine VC_region ?_
  refine VL_val rfl rfl rfl (yd_move rfl) ?_
  refine VL_call rfl rfl rfl rfl T.call12 rfl (zzFits1_ok (hS.rows hR)) ?_
  rintro _ _ ⟨rfl, bz, rfl, hz⟩
  refine VL_val rfl rfl rfl (yd_not rfl) ?_
  refine VL_nil ?_
  refine VE_then ?_
  refine VC_cond rfl (fun h16 => ?_) (fun h16 => ?_)
  · replace h16 := V.nt h16
    refine VC_seq ?_
    refine VC_region ?_
    refine VL_val rfl rfl rfl (yd_assign rfl) ?_
    refine VL_nil ?_
    refine VE_then ?_
    refine VC_ret ?_
    refine VE_then_ret (?_)
    refine VE_ret1 (rfl) rfl ?_
    exact ⟨rfl, hS.below⟩
  · replace h16 := V.nf h16
    have hzt := h16
    refine VC_skip ?_
    refine VE_then ?_
    refine VC_seq ?_
    refine VC_seq ?_
    refine VC_region ?_
    refine VL_val rfl rfl rfl (yd_move rfl) ?_
    refine VL_call rfl rfl rfl rfl T.call23 rfl (lwhole_ok (hS.rows hR) (Nat.le_trans (hz hzt) (by decide))) ?_
    rintro _ w ⟨c1, c2, c3, ok, η, rfl, hone, hR2, hwh⟩
    have hS : St w0 M0 [bundle η] w := St_bundle (hS.call0 hR2)
    refine VL_val rfl rfl rfl (yd_move rfl) ?_
    refine VL_val rfl rfl rfl (yd_extract rfl rfl) ?_
    refine VL_val rfl rfl rfl (yd_extract rfl rfl) ?_
    refine VL_alloc rfl rfl rfl rfl T.e37 hS ?_
    clear hS; intro b3 w hS
    refine VL_storeN (cs := [c1, c2, c3]) rfl rfl rfl rfl rfl T.agg37 hone hS 1 rfl (by simp [Value.cells]) ?_
    clear hS; intro w hS
    refine VL_val rfl rfl rfl (yd_assign rfl) ?_
    refine VL_nil ?_
    refine VE_then ?_
    refine VC_seq ?_
    refine VC_region ?_
    refine VL_val rfl rfl rfl (yd_move rfl) ?_
    refine VL_val rfl rfl rfl (yd_not rfl) ?_
    refine VL_nil ?_
    refine VE_then ?_
    refine VC_cond rfl (fun h23 => ?_) (fun h23 => ?_)
    · replace h23 := V.nt h23
      refine VC_seq ?_
      refine VC_region ?_
      refine VL_val rfl rfl rfl (yd_assign rfl) ?_
      refine VL_nil ?_
      refine VE_then ?_
      refine VC_ret ?_
      refine VE_then_ret (?_)
      refine VE_ret1 (rfl) rfl ?_
      exact ⟨rfl, hS.below⟩
    · replace h23 := V.nf h23
      obtain ⟨G, s, hG, hg, hok, rfl, rfl, rfl, hw, hRed, rfl⟩ := hwh h23
      have hle := hg.le
      have hpos := hg.pos
      have hG0 := hG
      obtain ⟨ga, gc, gb, go, rfl, hga, hrow⟩ := hG
      obtain rfl := hga (by omega)
      refine VC_skip ?_
      refine VE_then ?_
      refine VC_seq ?_
      refine VC_region ?_
      refine VL_val rfl rfl rfl (yd_move rfl) ?_
      refine VL_call rfl rfl rfl rfl T.call24 rfl (implLoops_ok (hS.graph hG0) hg hw) ?_
      rintro _ w ⟨hs, s2, B, irr, v1, v2, v3, rfl, hN, hR3⟩
      have hS := hS.call0 hR3
      have hNe := hN.nest hRed
      have hhl : hs.length ≤ 13 := Nat.le_trans (nodup_len _ hN.nd hN.lt) hg.le
      obtain ⟨va, vc, rfl, hvb⟩ := row_slice (hS.get 2 rfl)
      obtain ⟨ib, ic, rfl, -⟩ := row_form (hS.get 3 rfl) (.inr (by omega))
      obtain ⟨db, dc, rfl, -⟩ := row_form (hS.get 4 rfl) (.inr (by omega))
      refine VL_val rfl rfl rfl (yd_move rfl) ?_
      refine VL_val rfl rfl rfl (yd_extract rfl rfl) ?_
      refine VL_val rfl rfl rfl (yd_extract rfl rfl) ?_
      refine VL_val rfl rfl rfl (yd_extract rfl rfl) ?_
      refine VL_val rfl rfl rfl (yd_extract rfl rfl) ?_
      refine VL_val rfl rfl rfl (yd_assign rfl) ?_
      refine VL_val rfl rfl rfl (yd_assign rfl) ?_
      refine VL_val rfl rfl rfl (yd_assign rfl) ?_
      refine VL_val rfl rfl rfl (yd_assign rfl) ?_
      refine VL_nil ?_
      refine VE_then ?_
      refine VC_seq ?_
      refine VC_seq ?_
      refine VC_region ?_
      refine VL_val rfl rfl rfl (yd_move rfl) ?_
      refine VL_val rfl rfl rfl (yd_len rfl Try.underlying29) ?_
      refine VL_val rfl rfl rfl (yd_move rfl) ?_
      refine VL_val rfl rfl rfl (yd_len rfl Try.underlying22) ?_
      refine VL_val rfl rfl rfl (yd_neq rfl rfl) ?_
      refine VL_nil ?_
      refine VE_then ?_
      refine VC_cond rfl (fun h35 => ?_) (fun h35 => ?_)
      · replace h35 := of_decide_eq_true h35
        exact absurd rfl h35
      · replace h35 := Decidable.not_not.1 (of_decide_eq_false h35)
        refine VC_skip ?_
        refine VE_then ?_
        refine VC_seq ?_
        refine VC_seq ?_
        refine VC_region ?_
        refine VL_val rfl rfl rfl (yd_move rfl) ?_
        refine VL_val rfl rfl rfl (yd_len rfl Try.underlying22) ?_
        refine VL_val rfl rfl rfl (yd_move rfl) ?_
        refine VL_nil ?_
        refine VE_then ?_
        refine VC_block ?_
        refine VC_loop1 [5, 6, 36, 37] [_, _, _, _] rfl (fun (x : Nat) => [(38, .int .i64 ((x : Nat) : Int))]) (fun (x : Nat) w => x ≤ G.length ∧ St w0 M0 [bundle [shapeR s G], blk b3 37 [.slice (some ⟨gb, go, none⟩) G.length gc, s.live G, s.dom G], row (.slice va hs.length vc) 45 5 hs.length (loopC hs s2 hs), row (.slice (some ⟨ib, 0, none⟩) G.length ic) 3 1 G.length (((List.range G.length).map fun x => ixO hs (B x)).map (Value.int .i64)), row (.slice (some ⟨db, 0, none⟩) G.length dc) 3 1 G.length (((List.range G.length).map fun x => ((dpO s2 (B x) : Nat) : Int)).map (Value.int .i64))] w) (fun (x : Nat) => G.length - x) 0 ⟨rfl, trivial⟩ (⟨Nat.zero_le _, hS⟩) ?_
        clear hS; rintro x w ⟨hx, hS⟩
        refine VC_seq ?_
        refine VC_region ?_
        refine VL_val rfl rfl rfl (yd_lss rfl rfl) ?_
        refine VL_nil ?_
        refine VE_then ?_
        refine VC_seq ?_
        refine VC_cond rfl (fun h39 => ?_) (fun h39 => ?_)
        · replace h39 := of_decide_eq_true h39
          refine VC_skip ?_
          refine VE_then ?_
          refine VC_seq ?_
          refine VC_block ?_
          refine VC_seq ?_
          refine VC_region ?_
          have hxl : x < G.length := by omega
          obtain ⟨ra, rc, rb, ro, hc, hra, hcs⟩ := hrow x hxl
          have hr4 := hg.row x hxl
          refine VL_val rfl rfl rfl (yd_move rfl) ?_
          refine VL_val rfl rfl rfl (yd_index1 rfl rfl Try.underlying22 T.sz29 (by omega)) ?_
          refine VL_val rfl rfl rfl (yd_load rfl T.one29 (hS.cell0 hc)) ?_
          refine VL_val rfl rfl rfl (yd_assign rfl) ?_
          refine VL_val rfl rfl rfl (yd_assign rfl) ?_
          refine VL_nil ?_
          refine VE_then ?_
          refine VC_seq ?_
          refine VC_region ?_
          refine VL_val rfl rfl rfl (yd_move rfl) ?_
          refine VL_val rfl rfl rfl (yd_len rfl Try.underlying29) ?_
          refine VL_val rfl rfl rfl (yd_move rfl) ?_
          refine VL_nil ?_
          refine VE_then ?_
          refine VC_block ?_
          refine VC_loop1 [5, 6, 9, 10, 36, 37, 38, 39, 40, 41, 42, 43, 44] [_, _, _, _, _, _, _, _, _, _, _, _, _] rfl (fun (j : Nat) => [(45, .int .i64 ((j : Nat) : Int))]) (fun (j : Nat) w => j ≤ G[x]!.length ∧ St w0 M0 [bundle [shapeR s G], blk b3 37 [.slice (some ⟨gb, go, none⟩) G.length gc, s.live G, s.dom G], row (.slice va hs.length vc) 45 5 hs.length (loopC hs s2 hs), row (.slice (some ⟨ib, 0, none⟩) G.length ic) 3 1 G.length (((List.range G.length).map fun x => ixO hs (B x)).map (Value.int .i64)), row (.slice (some ⟨db, 0, none⟩) G.length dc) 3 1 G.length (((List.range G.length).map fun x => ((dpO s2 (B x) : Nat) : Int)).map (Value.int .i64))] w) (fun (j : Nat) => G[x]!.length - j) 0 ⟨rfl, trivial⟩ (⟨Nat.zero_le _, hS⟩) ?_
          clear hS; rintro j w ⟨hj, hS⟩
          refine VC_seq ?_
          refine VC_region ?_
          refine VL_val rfl rfl rfl (yd_lss rfl rfl) ?_
          refine VL_nil ?_
          refine VE_then ?_
          refine VC_seq ?_
          refine VC_cond rfl (fun h46 => ?_) (fun h46 => ?_)
          · replace h46 := of_decide_eq_true h46
            refine VC_skip ?_
            refine VE_then ?_
            refine VC_seq ?_
            refine VC_block ?_
            refine VC_seq ?_
            refine VC_region ?_
            obtain rfl := hra (by omega)
            have hjl : j < G[x]!.length := by omega
            have hto := hg.lt x hxl j hjl
            refine VL_val rfl rfl rfl (yd_index1 rfl rfl Try.underlying29 T.sz3 (by omega)) ?_
            refine VL_val rfl rfl rfl (yd_load rfl T.one3 (hS.cell0 (hcs j hjl))) ?_
            refine VL_val rfl rfl rfl (yd_assign rfl) ?_
            refine VL_nil ?_
            refine VE_then ?_
            refine VC_seq ?_
            refine VC_region ?_
            refine VL_val rfl rfl rfl (yd_move rfl) ?_
            refine VL_val rfl rfl rfl (yd_move rfl) ?_
            refine VL_val rfl rfl rfl (yd_index0 rfl rfl Try.underlying29 T.sz3 (i := G[x]![j]!) (by omega)) ?_
            refine VL_val rfl rfl rfl (yd_load rfl T.one3 (show _ = some (Value.int .i64 (ixO hs (B G[x]![j]!))) from row_cell (hS.get 3 rfl) (map_get (f := fun x => ixO hs (B x)) hto))) ?_
            refine VL_val rfl rfl rfl (yd_assign rfl) ?_
            refine VL_nil ?_
            refine VE_then ?_
            refine VC_block ?_
            refine VC_loop1 [5, 6, 9, 10, 12, 36, 37, 38, 39, 40, 41, 42, 43, 44, 45, 46, 47, 48, 49, 50, 51, 52] [_, _, _, _, _, _, _, _, _, _, _, _, _, _, _, _, _, _, _, _, _, _] rfl (fun (o : Option Nat) => [(13, .int .i64 (ixO hs o))]) (fun (o : Option Nat) w => (∀ h, o = some h → h ∈ hs) ∧ (∀ h, o = some h → Lp G h G[x]![j]!) ∧ St w0 M0 [bundle [shapeR s G], blk b3 37 [.slice (some ⟨gb, go, none⟩) G.length gc, s.live G, s.dom G], row (.slice va hs.length vc) 45 5 hs.length (loopC hs s2 hs), row (.slice (some ⟨ib, 0, none⟩) G.length ic) 3 1 G.length (((List.range G.length).map fun x => ixO hs (B x)).map (Value.int .i64)), row (.slice (some ⟨db, 0, none⟩) G.length dc) 3 1 G.length (((List.range G.length).map fun x => ((dpO s2 (B x) : Nat) : Int)).map (Value.int .i64))] w) (fun (o : Option Nat) => cO s2.O G.length o) (B G[x]![j]!) ⟨rfl, trivial⟩ (⟨hN.bm _, fun h e => (hNe.inn _ h hto e).1, hS⟩) ?_
            clear hS; rintro o w ⟨hom, hol, hS⟩
            refine VC_seq ?_
            refine VC_seq ?_
            refine VC_region ?_
            refine VL_val rfl rfl rfl (yd_move rfl) ?_
            refine VL_val rfl rfl rfl (yd_neq rfl rfl) ?_
            refine VL_nil ?_
            refine VE_then ?_
            refine VC_cond rfl (fun h54 => ?_) (fun h54 => ?_)
            · replace h54 := of_decide_eq_true h54
              obtain ⟨p, rfl⟩ : ∃ p, o = some p := by
                cases o with
                | none => exact absurd rfl h54
                | some p => exact ⟨p, rfl⟩
              have hpm := hom p rfl
              obtain ⟨hil, hget⟩ := idx_get hpm
              obtain ⟨vb, rfl⟩ := hvb (by omega)
              have hpn := hN.lt p hpm
              have hup := cO_up hg hN hpm
              have hlt1 : ¬ ixO hs (some p) < 0 := by show ¬ ((hs.idxOf p : Nat) : Int) < 0; omega
              have hlt2 : ¬ ixO hs (some p) ≥ (hs.length : Int) := by show ¬ ((hs.idxOf p : Nat) : Int) ≥ _; omega
              refine VC_skip ?_
              refine VE_then ?_
              refine VC_seq ?_
              refine VC_block ?_
              refine VC_seq ?_
              refine VC_region ?_
              refine VL_val rfl rfl rfl (yd_move rfl) ?_
              refine VL_val rfl rfl rfl (yd_lss rfl rfl) ?_
              refine VL_val rfl rfl rfl (yd_move rfl) ?_
              refine VL_split 62 rfl (fun h62 => ?_) (fun h62 => ?_)
              · replace h62 := of_decide_eq_true h62
                exact absurd h62 hlt1
              · replace h62 := Int.not_lt.1 (of_decide_eq_false h62)
                refine VL_yes rfl rfl rfl rfl ?_
                refine VL_val rfl rfl rfl (yd_move rfl) ?_
                refine VL_yes rfl rfl rfl rfl ?_
                refine VL_val rfl rfl rfl (yd_move rfl) ?_
                refine VL_yes rfl rfl rfl rfl ?_
                refine VL_val rfl rfl rfl (yd_len rfl Try.underlying40) ?_
                refine VL_yes rfl rfl rfl rfl ?_
                refine VL_val rfl rfl rfl (yd_geq rfl rfl) ?_
                refine VL_val rfl rfl rfl (yd_pick_f rfl rfl) ?_
                refine VL_val rfl rfl rfl (yd_move rfl) ?_
                refine VL_split 68 rfl (fun h68 => ?_) (fun h68 => ?_)
                · replace h68 := of_decide_eq_true h68
                  exact absurd h68 hlt2
                · replace h68 := Int.not_le.1 (of_decide_eq_false h68)
                  refine VL_yes rfl rfl rfl rfl ?_
                  refine VL_val rfl rfl rfl (yd_move rfl) ?_
                  refine VL_yes rfl rfl rfl rfl ?_
                  refine VL_val rfl rfl rfl (yd_move rfl) ?_
                  refine VL_yes rfl rfl rfl rfl ?_
                  refine VL_val rfl rfl rfl (yd_move rfl) ?_
                  refine VL_yes rfl rfl rfl rfl ?_
                  refine VL_val rfl rfl rfl (yd_index0 rfl rfl Try.underlying29 T.sz3 (i := x) (by omega)) ?_
                  refine VL_yes rfl rfl rfl rfl ?_
                  refine VL_val rfl rfl rfl (yd_load rfl T.one3 (show _ = some (Value.int .i64 (ixO hs (B x))) from row_cell (hS.get 3 rfl) (map_get (f := fun x => ixO hs (B x)) hxl))) ?_
                  refine VL_yes rfl rfl rfl rfl ?_
                  refine VL_val rfl rfl rfl (yd_move rfl) ?_
                  refine VL_yes rfl rfl rfl rfl ?_
                  refine VL_call rfl rfl rfl rfl T.call28 rfl (within_ok (hS.get 2 rfl) hvb hg hN hhl (hN.bm x) hpm) ?_
                  rintro _ _ ⟨bw, rfl, hbw, rfl⟩
                  refine VL_yes rfl rfl rfl rfl ?_
                  refine VL_val rfl rfl rfl (yd_not rfl) ?_
                  refine VL_yes rfl rfl rfl rfl ?_
                  refine VL_val rfl rfl rfl (yd_move rfl) ?_
                  refine VL_split 77 rfl (fun h77 => ?_) (fun h77 => ?_)
                  · replace h77 := V.nt h77
                    refine VL_yes rfl rfl rfl rfl ?_
                    refine VL_val rfl rfl rfl (yd_move rfl) ?_
                    refine VL_yes rfl rfl rfl rfl ?_
                    refine VL_val rfl rfl rfl (yd_move rfl) ?_
                    refine VL_yes rfl rfl rfl rfl ?_
                    refine VL_val rfl rfl rfl (yd_index rfl rfl Try.underlying40 T.sz45 (i := hs.idxOf p) hil (hs.idxOf p * 5) (Nat.zero_add _)) ?_
                    refine VL_yes rfl rfl rfl rfl ?_
                    refine VL_val rfl rfl rfl (yd_field rfl T.fld45_0) ?_
                    refine VL_yes rfl rfl rfl rfl ?_
                    refine VL_val rfl rfl rfl (yd_load rfl T.one3 (show _ = some (Value.int .i64 ((p : Nat) : Int)) by have := l5_cell (hS.get 2 rfl) hil 0 _ rfl; rw [hget] at this; exact this)) ?_
                    refine VL_yes rfl rfl rfl rfl ?_
                    refine VL_val rfl rfl rfl (yd_move rfl) ?_
                    refine VL_yes rfl rfl rfl rfl ?_
                    refine VL_val rfl rfl rfl (yd_neq rfl rfl) ?_
                    refine VL_yes rfl rfl rfl rfl ?_
                    refine VL_val rfl rfl rfl (yd_pick_t rfl rfl) ?_
                    refine VL_val rfl rfl rfl (yd_pick_f rfl rfl) ?_
                    refine VL_nil ?_
                    refine VE_then ?_
                    refine VC_cond rfl (fun h86 => ?_) (fun h86 => ?_)
                    · replace h86 := of_decide_eq_true h86
                      have := hbw (in_within hN hNe hxl (.step (Ed.get hxl hjl) (fun e => h86 (by omega)) (hol p rfl) (hw x hxl)))
                      rw [h77] at this; cases this
                    · replace h86 := Decidable.not_not.1 (of_decide_eq_false h86)
                      refine VC_skip ?_
                      refine VE_block_normal ?_
                      refine VE_then ?_
                      refine VC_region ?_
                      refine VL_val rfl rfl rfl (yd_move rfl) ?_
                      refine VL_val rfl rfl rfl (yd_move rfl) ?_
                      refine VL_val rfl rfl rfl (yd_index rfl rfl Try.underlying40 T.sz45 (i := hs.idxOf p) hil (hs.idxOf p * 5) (Nat.zero_add _)) ?_
                      refine VL_val rfl rfl rfl (yd_field rfl T.fld45_1) ?_
                      refine VL_val rfl rfl rfl (yd_load rfl T.one3 (show _ = some (Value.int .i64 (ixO hs (s2.O p))) by have := l5_cell (hS.get 2 rfl) hil 1 _ rfl; rw [hget] at this; exact this)) ?_
                      refine VL_val rfl rfl rfl (yd_assign rfl) ?_
                      refine VL_nil ?_
                      exact VE_round1 (s2.O p) ⟨rfl, rfl, rfl, rfl, rfl, rfl, rfl, rfl, rfl, rfl, rfl, rfl, rfl, rfl, rfl, rfl, rfl, rfl, rfl, rfl, rfl, rfl, rfl, trivial⟩ ⟨oi_mem hN, fun h e => (hol p rfl).trans ((hNe.up h p hpm).1 (.step e (.refl _))), hS⟩ (by omega)
                  · replace h77 := V.nf h77
                    refine VL_no rfl rfl rfl rfl rfl rfl rfl ?_
                    refine VL_no rfl rfl rfl rfl rfl rfl rfl ?_
                    refine VL_no rfl rfl rfl rfl rfl rfl rfl ?_
                    refine VL_no rfl rfl rfl rfl rfl rfl rfl ?_
                    refine VL_no rfl rfl rfl rfl rfl rfl rfl ?_
                    refine VL_no rfl rfl rfl rfl rfl rfl rfl ?_
                    refine VL_no rfl rfl rfl rfl rfl rfl rfl ?_
                    refine VL_yes rfl rfl rfl rfl ?_
                    refine VL_val rfl rfl rfl (yd_pick_f rfl rfl) ?_
                    refine VL_val rfl rfl rfl (yd_pick_f rfl rfl) ?_
                    refine VL_nil ?_
                    refine VE_then ?_
                    refine VC_cond_f rfl ?_
                    refine VC_skip ?_
                    refine VE_block_normal ?_
                    refine VE_then ?_
                    refine VC_region ?_
                    refine VL_val rfl rfl rfl (yd_move rfl) ?_
                    refine VL_val rfl rfl rfl (yd_move rfl) ?_
                    refine VL_val rfl rfl rfl (yd_index rfl rfl Try.underlying40 T.sz45 (i := hs.idxOf p) hil (hs.idxOf p * 5) (Nat.zero_add _)) ?_
                    refine VL_val rfl rfl rfl (yd_field rfl T.fld45_1) ?_
                    refine VL_val rfl rfl rfl (yd_load rfl T.one3 (show _ = some (Value.int .i64 (ixO hs (s2.O p))) by have := l5_cell (hS.get 2 rfl) hil 1 _ rfl; rw [hget] at this; exact this)) ?_
                    refine VL_val rfl rfl rfl (yd_assign rfl) ?_
                    refine VL_nil ?_
                    exact VE_round1 (s2.O p) ⟨rfl, rfl, rfl, rfl, rfl, rfl, rfl, rfl, rfl, rfl, rfl, rfl, rfl, rfl, rfl, rfl, rfl, rfl, rfl, rfl, rfl, rfl, rfl, trivial⟩ ⟨oi_mem hN, fun h e => (hol p rfl).trans ((hNe.up h p hpm).1 (.step e (.refl _))), hS⟩ (by omega)
            · replace h54 := Decidable.not_not.1 (of_decide_eq_false h54)
              refine VC_exit ?_
              refine VE_then_exit (VE_then_exit (VE_block_exit ?_))
              refine VE_block_normal ?_
              refine VE_then ?_
              refine VC_region ?_
              refine VL_val rfl rfl rfl (yd_add rfl rfl ((j + 1 : Nat) : Int) (by rw [wi64 (by omega) (by omega)]; omega)) ?_
              refine VL_val rfl rfl rfl (yd_move rfl) ?_
              refine VL_nil ?_
              exact VE_round1 (j + 1) ⟨rfl, rfl, rfl, rfl, rfl, rfl, rfl, rfl, rfl, rfl, rfl, rfl, rfl, rfl, trivial⟩ ⟨by omega, hS⟩ (by omega)
          · replace h46 := Int.not_lt.1 (of_decide_eq_false h46)
            refine VC_exit ?_
            refine VE_then_exit (VE_then_exit (VE_block_exit ?_))
            refine VE_block_normal ?_
            refine VE_then ?_
            refine VC_region ?_
            refine VL_val rfl rfl rfl (yd_add rfl rfl ((x + 1 : Nat) : Int) (by rw [wi64 (by omega) (by omega)]; omega)) ?_
            refine VL_val rfl rfl rfl (yd_move rfl) ?_
            refine VL_nil ?_
            exact VE_round1 (x + 1) ⟨rfl, rfl, rfl, rfl, rfl, trivial⟩ ⟨by omega, hS⟩ (by omega)
        · replace h39 := Int.not_lt.1 (of_decide_eq_false h39)
          refine VC_exit ?_
          refine VE_then_exit (VE_then_exit (VE_block_exit ?_))
          refine VE_then ?_
          refine VC_seq ?_
          refine VC_region ?_
          refine VL_val rfl rfl rfl (yd_assign rfl) ?_
          refine VL_nil ?_
          refine VE_then ?_
          refine VC_ret ?_
          refine VE_ret1 (rfl) rfl ?_
          exact ⟨rfl, hS.below⟩

end Go.Proofs.Ytmoooaaiohplhac
