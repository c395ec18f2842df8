/- spec.Walk; the law on each way. -/
import Derived.Test.YtmoooaaiohplhaaWj
import Derived.Test.YtmoooaaiohplhaaVi
namespace Go.Proofs.Ytmoooaaiohplhaa
open Go Go.V
set_option linter.unusedVariables false
set_option maxRecDepth 100000

theorem T.one5 : OneT Try.prog 5 := ⟨⟨_, Try.underlying5, rfl⟩, by kernel_rfl⟩
theorem T.sz5 : (Try.prog.info? 5).map (·.size) = some 1 := by kernel_rfl
theorem T.call34 : CallT Try.prog 34 := CallT.of Try.func34 (by kernel_rfl) (by kernel_rfl)

open Go.PL
/-- The slice value v reads as the bytes l. -/
def BytesAt (w : World) (v : Value) (l : List Nat) : Prop :=
  ∃ a c b o, v = .slice a l.length c ∧ (0 < l.length → a = some ⟨b, o, none⟩) ∧ ∀ j, j < l.length → w.cell? ⟨b, o + j, none⟩ = some (.int .u8 ((l[j]! : Nat) : Int)) ∧ l[j]! < 256
theorem BytesAt.keep {w w' : World} {v : Value} {l : List Nat} (h : BytesAt w v l) (hk : ∀ b, b < w.heap.size → w'.heap[b]? = w.heap[b]?) : BytesAt w' v l := by
  obtain ⟨a, c, b, o, h1, h2, h3⟩ := h
  exact ⟨a, c, b, o, h1, h2, fun j hj => ⟨(World.cell?_of_block (hk _ (World.block_lt_of_cell? w _ (h3 j hj).1))).trans (h3 j hj).1, (h3 j hj).2⟩⟩
theorem _root_.Go.V.St.bytes {w0 w : World} {η : List Res} {v : Value} {l : List Nat} (hS : St w0 M0 η w) (h : BytesAt w0 v l) : BytesAt w v l := h.keep (fun b hb => hS.old b hb (fun x => x))
/-- A way from the first block. -/
structure IsWalk (G : Graph) (p : List Nat) : Prop where
  pos : 0 < p.length
  zero : p[0]! = 0
  ed : ∀ i, i + 1 < p.length → Ed G p[i]! p[i + 1]!
theorem IsWalk.lt {G : Graph} (hg : Gd G) {p : List Nat} (h : IsWalk G p) {i : Nat} (hi : i < p.length) : p[i]! < G.length := by
  cases i with
  | zero => rw [h.zero]; exact hg.pos
  | succ i => exact (h.ed i hi).lt hg
theorem IsWalk.snoc {G : Graph} {p : List Nat} (h : IsWalk G p) {x y : Nat} (hx : p[p.length - 1]! = x) (e : Ed G x y) : IsWalk G (p ++ [y]) := by
  have hp := h.pos
  refine ⟨by simp, by rw [get!_append_left hp]; exact h.zero, fun i hi => ?_⟩
  have hi' : i < p.length := by simp at hi; omega
  rw [get!_append_left hi']
  by_cases e1 : i + 1 < p.length
  · rw [get!_append_left e1]; exact h.ed i e1
  · have : i + 1 = p.length := by omega
    rw [this, get!_append_len, show i = p.length - 1 by omega, hx]; exact e
theorem IsWalk.pth {G : Graph} {p : List Nat} (h : IsWalk G p) : ∀ k, k < p.length → Pth G (p.take (k + 1)).reverse p[k]!
  | 0, hk => by
    have : p.take 1 = [0] := by
      obtain ⟨a, l, rfl⟩ := List.exists_cons_of_length_pos hk
      have := h.zero; simp at this; subst this; simp
    rw [this, h.zero]; exact .nil
  | k + 1, hk => by
    rw [take_snoc hk, List.reverse_append]
    exact .step (h.pth k (by omega)) (h.ed k hk)
theorem mem_rev_take {p : List Nat} {d k : Nat} (h : d ∈ (p.take k).reverse) : ∃ i, i < k ∧ i < p.length ∧ p[i]! = d := by
  rw [List.mem_reverse] at h
  obtain ⟨i, hi, e⟩ := List.mem_iff_getElem.1 h
  rw [List.length_take] at hi
  refine ⟨i, by omega, by omega, ?_⟩
  rw [getElem!_pos p i (by omega), ← e, List.getElem_take]
/-- One has been at the immediate dominator. -/
theorem been {G : Graph} (hg : Gd G) {L : List (Option Nat)} (hid : IdomsOK G L) {p : List Nat} (h : IsWalk G p) {k : Nat} (hk : k < p.length) (h0 : p[k]! ≠ 0) : ∃ d, L[p[k]!]! = some d ∧ d < G.length ∧ ∃ i, i < k ∧ p[i]! = d := by
  have hp := h.pth k hk
  have hsp := hid.spec p[k]! (h.lt hg hk)
  cases e : L[p[k]!]! with
  | none => rcases hsp.2 e with h1 | h1
            · exact absurd h1 h0
            · exact absurd hp.rc h1
  | some d =>
    have hi := hsp.1 d e
    refine ⟨d, rfl, (hi.2.1.lt hg).1, ?_⟩
    obtain ⟨i, h1, h2, h3⟩ := mem_rev_take ((dm_iff.1 hi.2.1).2 _ hp)
    have : i ≠ k := fun e => hi.1 (by rw [← h3, e])
    exact ⟨i, by omega, h3⟩
theorem got_cell {w : World} {L : List (Option Nat)} {b c x : Nat} {t : TypeId} (h : (row (.slice (some ⟨b, 0, none⟩) L.length c) t 1 L.length ((L.map nO).map (Value.int .i64))).holds w) (hx : x < L.length) : w.cell? ⟨b, x, none⟩ = some (.int .i64 (nO L[x]!)) :=
  row_cell h (by simp [hx])
theorem got_some {w : World} {L : List (Option Nat)} {b c x d : Nat} {t : TypeId} (h : (row (.slice (some ⟨b, 0, none⟩) L.length c) t 1 L.length ((L.map nO).map (Value.int .i64))).holds w) (hx : x < L.length) (hd : L[x]! = some d) : w.cell? ⟨b, x, none⟩ = some (.int .i64 ((d : Nat) : Int)) := by
  have := got_cell h hx; rw [hd] at this; exact this
theorem zl_cell {w : World} {p : List Nat} {b c x : Nat} {t : TypeId} (h : (row (.slice (some ⟨b, 0, none⟩) p.length c) t 1 p.length ((zL p).map (Value.int .i64))).holds w) (hx : x < p.length) : w.cell? ⟨b, x, none⟩ = some (.int .i64 ((p[x]! : Nat) : Int)) :=
  row_cell h (by simp [zL, hx])
theorem idom_zero {G : Graph} (hg : Gd G) {L : List (Option Nat)} (hid : IdomsOK G L) : L[0]! = none := by
  cases e : L[0]! with
  | none => rfl
  | some d => exact absurd rfl ((hid.spec 0 hg.pos).1 d e).ne_zero

theorem walk_ok {w0 : World} {v u : Value} {G : Graph} {l : List Nat} (hG : GraphAt w0 v G) (hg : Gd G) (hB : BytesAt w0 u l) (hl : l.length ≤ 200) : Calls Try.prog 34 #[v, u] w0 (Ret fun r w' => ∃ p, IsWalk G p ∧ p.length ≤ 201 ∧ St w0 M0 [row r 3 1 p.length ((zL p).map (Value.int .i64))] w') := by
  obtain ⟨ga, gc, gb, go, rfl, hga, hrow⟩ := hG
  have hpos := hg.pos
  obtain rfl := hga (by omega)
  obtain ⟨ba, bc, bb, bo, rfl, hba, hbc⟩ := hB
  have hS := St.refl w0
  have hle := hg.le
  refine V_enter (N := 43) Try.func34 rfl Try.ntmps34 rfl ?_
  refine VC.sub (τ := [(0, _), (1, _)]) ⟨rfl, rfl, trivial⟩ ?_
  refine VC_seq ?_
  refine VC_region ?_
  refine VL_val rfl rfl rfl (yd_assign rfl) ?_
  refine VL_nil ?_
  refine VE_then ?_
  refine VC_seq ?_
  refine VC_region ?_
  refine VL_rel rfl rfl rfl (yr_bslice rfl Try.underlying24 T.e3 rfl (by decide) (by decide) hS) ?_
  clear hS; rintro _ w ⟨b9, rfl, hS⟩
  have hS := hS.asrow 0 (m := 1) (sz := 1) rfl rfl (by omega)
  refine VL_val rfl rfl rfl (yd_assign rfl) ?_
  refine VL_nil ?_
  refine VE_then ?_
  refine VC_seq ?_
  refine VC_region ?_
  refine VL_val rfl rfl rfl (yd_assign rfl) ?_
  refine VL_nil ?_
  refine VE_then ?_
  refine VC_seq ?_
  refine VC_seq ?_
  refine VC_region ?_
  refine VL_val rfl rfl rfl (yd_move rfl) ?_
  refine VL_val rfl rfl rfl (yd_len rfl Try.underlying52) ?_
  refine VL_val rfl rfl rfl (yd_move rfl) ?_
  refine VL_nil ?_
  refine VE_then ?_
  refine VC_block ?_
  refine VC_loop4 [0, 10, 11] [_, _, _] rfl (fun (k : Nat) (x : Nat) (r : Value) (p : List Nat) => [(12, .int .i64 ((k : Nat) : Int)), (6, .int .i64 ((x : Nat) : Int)), (5, r)]) (fun (k : Nat) (x : Nat) (r : Value) (p : List Nat) w => k ≤ l.length ∧ x < G.length ∧ IsWalk G p ∧ p.length = k + 1 ∧ p[k]! = x ∧ St w0 M0 [row r 3 1 (k + 1) ((zL p).map (Value.int .i64))] w) (fun (k : Nat) (x : Nat) (r : Value) (p : List Nat) => l.length - k) 0 0 _ [0] ⟨rfl, rfl, rfl, trivial⟩ (⟨Nat.zero_le _, hpos, ⟨by simp, rfl, fun i h => by simp at h⟩, rfl, rfl, hS⟩) ?_
  clear hS; rintro k x r p w ⟨hk, hx, hw, hpl, hpk, hS⟩
  refine VC_seq ?_
  refine VC_region ?_
  refine VL_val rfl rfl rfl (yd_lss rfl rfl) ?_
  refine VL_nil ?_
  refine VE_then ?_
  refine VC_seq ?_
  refine VC_cond rfl (fun h13 => ?_) (fun h13 => ?_)
  · replace h13 := of_decide_eq_true h13
    refine VC_skip ?_
    refine VE_then ?_
    refine VC_seq ?_
    refine VC_block ?_
    refine VC_seq ?_
    refine VC_region ?_
    obtain rfl := hba (by omega)
    have hb := hbc k (by omega)
    refine VL_val rfl rfl rfl (yd_index1 rfl rfl Try.underlying52 T.sz5 (by omega)) ?_
    refine VL_val rfl rfl rfl (yd_load rfl T.one5 (hS.cell0 hb.1)) ?_
    refine VL_val rfl rfl rfl (yd_assign rfl) ?_
    refine VL_nil ?_
    refine VE_then ?_
    refine VC_seq ?_
    refine VC_seq ?_
    refine VC_region ?_
    obtain ⟨ra, rc, rb, ro, hc, hra, hcs⟩ := hrow x hx
    have hb2 := hb.2
    refine VL_val rfl rfl rfl (yd_move rfl) ?_
    refine VL_val rfl rfl rfl (yd_move rfl) ?_
    refine VL_val rfl rfl rfl (yd_index1 rfl rfl Try.underlying22 T.sz24 (by omega)) ?_
    refine VL_val rfl rfl rfl (yd_load rfl T.one24 (hS.cell0 hc)) ?_
    refine VL_val rfl rfl rfl (yd_len rfl Try.underlying24) ?_
    refine VL_val rfl rfl rfl (yd_eql rfl rfl) ?_
    refine VL_nil ?_
    refine VE_then ?_
    refine VC_cond rfl (fun h21 => ?_) (fun h21 => ?_)
    · replace h21 := of_decide_eq_true h21
      refine VC_seq ?_
      refine VC_region ?_
      refine VL_val rfl rfl rfl (yd_move rfl) ?_
      refine VL_val rfl rfl rfl (yd_assign rfl) ?_
      refine VL_nil ?_
      refine VE_then ?_
      refine VC_ret ?_
      refine VE_then_ret (VE_block_ret (VE_then_ret (VE_then_ret (VE_block_ret (VE_then_ret (?_))))))
      refine VE_ret1 (rfl) rfl ?_
      exact ⟨p, hw, by omega, by rw [hpl]; exact hS⟩
    · replace h21 := of_decide_eq_false h21
      have hn0 : 0 < G[x]!.length := by omega
      obtain rfl := hra hn0
      have hjm := Nat.mod_lt l[k]! hn0
      refine VC_skip ?_
      refine VE_then ?_
      refine VC_seq ?_
      refine VC_draw T.mixed hS ?_
      clear hS; intro w hS
      refine VA_take (i := 0) rfl rfl rfl rfl (by kernel_rfl) (by kernel_rfl) (by kernel_rfl) #[true, false, false, false, false, false, false, false, false, false, false, false, false, false, false] (by kernel_rfl) (fun _ _ _ _ h => h) (fun w hS => yd_move rfl) ?_
      refine VA_take (i := 1) rfl rfl rfl rfl (by kernel_rfl) (by kernel_rfl) (by kernel_rfl) #[true, true, false, false, false, false, false, false, false, false, false, false, false, false, false] (by kernel_rfl) (fun _ _ _ _ h => h) (fun w hS => yd_move rfl) ?_
      refine VA_take (i := 2) rfl rfl rfl rfl (by kernel_rfl) (by kernel_rfl) (by kernel_rfl) #[true, true, true, false, false, false, false, false, false, false, false, false, false, false, false] (by kernel_rfl) (fun _ _ _ _ h => h) (fun w hS => yd_index1 rfl rfl Try.underlying22 T.sz24 (by omega)) ?_
      refine VA_take (i := 3) rfl rfl rfl rfl (by kernel_rfl) (by kernel_rfl) (by kernel_rfl) #[true, true, true, true, false, false, false, false, false, false, false, false, false, false, false] (by kernel_rfl) (fun _ _ _ _ h => h) (fun w hS => yd_load rfl T.one24 (hS.cell0 hc)) ?_
      refine VA_take (i := 4) rfl rfl rfl rfl (by kernel_rfl) (by kernel_rfl) (by kernel_rfl) #[true, true, true, true, true, false, false, false, false, false, false, false, false, false, false] (by kernel_rfl) (fun _ _ _ _ h => h) (fun w hS => yd_move rfl) ?_
      refine VA_take (i := 5) rfl rfl rfl rfl (by kernel_rfl) (by kernel_rfl) (by kernel_rfl) #[true, true, true, true, true, true, false, false, false, false, false, false, false, false, false] (by kernel_rfl) (fun _ _ _ _ h => h) (fun w hS => yd_conv rfl ⟨_, Try.underlying5⟩ Try.underlying3 _ (wi64 (by omega) (by omega))) ?_
      refine VA_take (i := 6) rfl rfl rfl rfl (by kernel_rfl) (by kernel_rfl) (by kernel_rfl) #[true, true, true, true, true, true, true, false, false, false, false, false, false, false, false] (by kernel_rfl) (fun _ _ _ _ h => h) (fun w hS => yd_move rfl) ?_
      refine VA_take (i := 7) rfl rfl rfl rfl (by kernel_rfl) (by kernel_rfl) (by kernel_rfl) #[true, true, true, true, true, true, true, true, false, false, false, false, false, false, false] (by kernel_rfl) (fun _ _ _ _ h => h) (fun w hS => yd_move rfl) ?_
      refine VA_take (i := 8) rfl rfl rfl rfl (by kernel_rfl) (by kernel_rfl) (by kernel_rfl) #[true, true, true, true, true, true, true, true, true, false, false, false, false, false, false] (by kernel_rfl) (fun _ _ _ _ h => h) (fun w hS => yd_index1 rfl rfl Try.underlying22 T.sz24 (by omega)) ?_
      refine VA_take (i := 9) rfl rfl rfl rfl (by kernel_rfl) (by kernel_rfl) (by kernel_rfl) #[true, true, true, true, true, true, true, true, true, true, false, false, false, false, false] (by kernel_rfl) (fun _ _ _ _ h => h) (fun w hS => yd_load rfl T.one24 (hS.cell0 hc)) ?_
      refine VA_take (i := 10) rfl rfl rfl rfl (by kernel_rfl) (by kernel_rfl) (by kernel_rfl) #[true, true, true, true, true, true, true, true, true, true, true, false, false, false, false] (by kernel_rfl) (fun _ _ _ _ h => h) (fun w hS => yd_len rfl Try.underlying24) ?_
      refine VA_take (i := 11) rfl rfl rfl rfl (by kernel_rfl) (by kernel_rfl) (by kernel_rfl) #[true, true, true, true, true, true, true, true, true, true, true, true, false, false, false] (by kernel_rfl) (fun _ _ _ _ h => h) (fun w hS => yd_rem rfl rfl (by omega) _ tmod_nat) ?_
      refine VA_take (i := 12) rfl rfl rfl rfl (by kernel_rfl) (by kernel_rfl) (by kernel_rfl) #[true, true, true, true, true, true, true, true, true, true, true, true, true, false, false] (by kernel_rfl) (fun _ _ _ _ h => h) (fun w hS => yd_index1 rfl rfl Try.underlying24 T.sz3 hjm) ?_
      refine VA_take (i := 13) rfl rfl rfl rfl (by kernel_rfl) (by kernel_rfl) (by kernel_rfl) #[true, true, true, true, true, true, true, true, true, true, true, true, true, true, false] (by kernel_rfl) (fun _ _ _ _ h => h) (fun w hS => yd_load rfl T.one3 (hS.cell0 (hcs _ hjm))) ?_
      refine VA_take (i := 14) rfl rfl rfl rfl (by kernel_rfl) (by kernel_rfl) (by kernel_rfl) #[true, true, true, true, true, true, true, true, true, true, true, true, true, true, true] (by kernel_rfl) (fun _ _ _ _ h => h) (fun w hS => yd_assign rfl) ?_
      refine VA_done (by kernel_rfl) hS ?_
      refine VE_then ?_
      refine VC_region ?_
      refine VL_val rfl rfl rfl (yd_move rfl) ?_
      refine VL_val rfl rfl rfl (yd_move rfl) ?_
      refine VL_rel rfl rfl rfl (yr_bslice rfl Try.underlying24 T.e3 rfl (by decide) (by decide) hS) ?_
      clear hS; rintro _ w ⟨b39, rfl, hS⟩
      refine VL_rel rfl rfl rfl (yr_append rfl rfl Try.underlying24 T.e3 rfl (by decide) hS 0 rfl (hS.get 1 rfl) rfl (by intro u hu; simp [Value.cells] at hu; subst hu; rfl) (by omega) (by omega)) ?_
      clear hS; rintro v40 w ⟨hS, hnil⟩
      have hS := hS.sub (η' := _) (List.take_sublist 1 _)
      refine VL_val rfl rfl rfl (yd_assign rfl) ?_
      refine VL_nil ?_
      refine VE_block_normal ?_
      refine VE_then ?_
      refine VC_region ?_
      refine VL_val rfl rfl rfl (yd_add rfl rfl ((k + 1 : Nat) : Int) (by rw [wi64 (by omega) (by omega)]; omega)) ?_
      refine VL_val rfl rfl rfl (yd_move rfl) ?_
      refine VL_nil ?_
      have hed : Ed G x G[x]![l[k]! % G[x]!.length]! := Ed.get hx hjm
      refine VE_round4 (k + 1) _ _ (p ++ [G[x]![l[k]! % G[x]!.length]!]) ⟨rfl, rfl, rfl, rfl, rfl, rfl, trivial⟩ ⟨by omega, hed.lt hg, hw.snoc (by rw [hpl]; exact hpk) hed, by simp [hpl], by rw [← hpl, get!_append_len], ?_⟩ (by omega)
      have e : (zL (p ++ [G[x]![l[k]! % G[x]!.length]!])).map (Value.int .i64) = (zL p).map (Value.int .i64) ++ (Value.int .i64 ((G[x]![l[k]! % G[x]!.length]! : Nat) : Int)).cells.toList := by simp [zL, Value.cells]
      rw [e]; exact hS
  · replace h13 := Int.not_lt.1 (of_decide_eq_false h13)
    refine VC_exit ?_
    refine VE_then_exit (VE_then_exit (VE_block_exit ?_))
    refine VE_then ?_
    refine VC_seq ?_
    refine VC_region ?_
    refine VL_val rfl rfl rfl (yd_move rfl) ?_
    refine VL_val rfl rfl rfl (yd_assign rfl) ?_
    refine VL_nil ?_
    refine VE_then ?_
    refine VC_ret ?_
    refine VE_ret1 (rfl) rfl ?_
    exact ⟨p, hw, by omega, by rw [hpl]; exact hS⟩

theorem fnEachWay_calls {w0 : World} {v u : Value} {G0 : List (List Int)} {l : List Nat} (hR : RowsAt w0 v G0) (hB : BytesAt w0 u l) : Calls Try.prog 9 #[v, u] w0 (Ret fun u w' => u = .bool true ∧ RowKit.Below w0.heap.size w0 w') := by
  have hS := St.refl w0
  have hB0 := hB
  obtain ⟨ba, bc, bb, bo, rfl, hba, hbc⟩ := hB
  refine V_enter (N := 90) Try.func9 rfl Try.ntmps9 rfl ?_
  refine VC.sub (τ := [(0, _), (1, _)]) ⟨rfl, rfl, trivial⟩ ?_
  refine VC_seq ?_
  refine VC_region ?_
  refine VL_val rfl rfl rfl (yd_assign rfl) ?_
  refine VL_nil ?_
  refine VE_then ?_
  refine VC_seq ?_
  refine VC_seq ?_
  refine VC_region ?_
  refine VL_val rfl rfl rfl (yd_move rfl) ?_
  refine VL_call rfl rfl rfl rfl T.call15 rfl (zzFits1_ok (hS.rows hR)) ?_
  rintro _ _ ⟨rfl, bz, rfl, hz⟩
  refine VL_val rfl rfl rfl (yd_not rfl) ?_
  refine VL_val rfl rfl rfl (yd_move rfl) ?_
  refine VL_split 12 rfl (fun h12 => ?_) (fun h12 => ?_)
  · replace h12 := V.nt h12
    refine VL_no rfl rfl rfl rfl rfl rfl rfl ?_
    refine VL_no rfl rfl rfl rfl rfl rfl rfl ?_
    refine VL_no rfl rfl rfl rfl rfl rfl rfl ?_
    refine VL_val rfl rfl rfl (yd_pick_t rfl rfl) ?_
    refine VL_nil ?_
    refine VE_then ?_
    refine VC_cond_t rfl ?_
    refine VC_seq ?_
    refine VC_region ?_
    refine VL_val rfl rfl rfl (yd_assign rfl) ?_
    refine VL_nil ?_
    refine VE_then ?_
    refine VC_ret ?_
    refine VE_then_ret (?_)
    refine VE_ret1 (rfl) rfl ?_
    exact ⟨rfl, hS.below⟩
  · replace h12 := V.nf h12
    have hzt := h12
    refine VL_yes rfl rfl rfl rfl ?_
    refine VL_val rfl rfl rfl (yd_move rfl) ?_
    refine VL_yes rfl rfl rfl rfl ?_
    refine VL_val rfl rfl rfl (yd_len rfl Try.underlying52) ?_
    refine VL_yes rfl rfl rfl rfl ?_
    refine VL_val rfl rfl rfl (yd_gtr rfl rfl) ?_
    refine VL_val rfl rfl rfl (yd_pick_f rfl rfl) ?_
    refine VL_nil ?_
    refine VE_then ?_
    refine VC_cond rfl (fun h16 => ?_) (fun h16 => ?_)
    · replace h16 := of_decide_eq_true h16
      refine VC_seq ?_
      refine VC_region ?_
      refine VL_val rfl rfl rfl (yd_assign rfl) ?_
      refine VL_nil ?_
      refine VE_then ?_
      refine VC_ret ?_
      refine VE_then_ret (?_)
      refine VE_ret1 (rfl) rfl ?_
      exact ⟨rfl, hS.below⟩
    · replace h16 := Int.not_lt.1 (of_decide_eq_false h16)
      refine VC_skip ?_
      refine VE_then ?_
      refine VC_seq ?_
      refine VC_seq ?_
      refine VC_region ?_
      refine VL_val rfl rfl rfl (yd_move rfl) ?_
      refine VL_call rfl rfl rfl rfl T.call16 rfl (good_ok (hS.rows hR) (hz hzt)) ?_
      rintro _ _ ⟨rfl, bg, rfl, hgi⟩
      refine VL_val rfl rfl rfl (yd_not rfl) ?_
      refine VL_val rfl rfl rfl (yd_move rfl) ?_
      refine VL_split 20 rfl (fun h20 => ?_) (fun h20 => ?_)
      · replace h20 := V.nt h20
        refine VL_no rfl rfl rfl rfl rfl rfl rfl ?_
        refine VL_no rfl rfl rfl rfl rfl rfl rfl ?_
        refine VL_no rfl rfl rfl rfl rfl rfl rfl ?_
        refine VL_val rfl rfl rfl (yd_pick_t rfl rfl) ?_
        refine VL_nil ?_
        refine VE_then ?_
        refine VC_cond_t rfl ?_
        refine VC_seq ?_
        refine VC_region ?_
        refine VL_val rfl rfl rfl (yd_assign rfl) ?_
        refine VL_nil ?_
        refine VE_then ?_
        refine VC_ret ?_
        refine VE_then_ret (?_)
        refine VE_ret1 (rfl) rfl ?_
        exact ⟨rfl, hS.below⟩
      · replace h20 := V.nf h20
        have hgt := h20
        obtain ⟨G, hG, hg, -⟩ := graph_of_rows hR (hgi.1 hgt)
        have hle := hg.le
        have hpos := hg.pos
        have hG0 := hG
        obtain ⟨ga, gc, gb, go, rfl, hga, hrow⟩ := hG
        obtain rfl := hga (by omega)
        refine VL_yes rfl rfl rfl rfl ?_
        refine VL_val rfl rfl rfl (yd_move rfl) ?_
        refine VL_yes rfl rfl rfl rfl ?_
        refine VL_val rfl rfl rfl (yd_len rfl Try.underlying52) ?_
        refine VL_yes rfl rfl rfl rfl ?_
        refine VL_val rfl rfl rfl (yd_gtr rfl rfl) ?_
        refine VL_val rfl rfl rfl (yd_pick_f rfl rfl) ?_
        refine VL_nil ?_
        refine VE_then ?_
        refine VC_cond rfl (fun h24 => ?_) (fun h24 => ?_)
        · replace h24 := of_decide_eq_true h24
          refine VC_seq ?_
          refine VC_region ?_
          refine VL_val rfl rfl rfl (yd_assign rfl) ?_
          refine VL_nil ?_
          refine VE_then ?_
          refine VC_ret ?_
          refine VE_then_ret (?_)
          refine VE_ret1 (rfl) rfl ?_
          exact ⟨rfl, hS.below⟩
        · replace h24 := Int.not_lt.1 (of_decide_eq_false h24)
          refine VC_skip ?_
          refine VE_then ?_
          refine VC_seq ?_
          refine VC_region ?_
          refine VL_val rfl rfl rfl (yd_move rfl) ?_
          refine VL_call rfl rfl rfl rfl T.call32 rfl (implDominatorsSimple_ok (hS.graph hG0) hg) ?_
          rintro u26 w ⟨L, hid, hR1⟩
          have hS := hS.call0 hR1
          have hil := hid.len
          obtain ⟨ib, ic, rfl, -⟩ := row_form (hS.get 0 rfl) (.inr (by omega))
          refine VL_val rfl rfl rfl (yd_assign rfl) ?_
          refine VL_nil ?_
          refine VE_then ?_
          refine VC_seq ?_
          refine VC_seq ?_
          refine VC_region ?_
          refine VL_val rfl rfl rfl (yd_move rfl) ?_
          refine VL_val rfl rfl rfl (yd_len rfl Try.underlying24) ?_
          refine VL_val rfl rfl rfl (yd_move rfl) ?_
          refine VL_val rfl rfl rfl (yd_len rfl Try.underlying22) ?_
          refine VL_val rfl rfl rfl (yd_neq rfl rfl) ?_
          refine VL_val rfl rfl rfl (yd_move rfl) ?_
          refine VL_split 32 rfl (fun h32 => ?_) (fun h32 => ?_)
          · replace h32 := of_decide_eq_true h32
            exact absurd (by omega) h32
          · replace h32 := Decidable.not_not.1 (of_decide_eq_false h32)
            refine VL_yes rfl rfl rfl rfl ?_
            refine VL_val rfl rfl rfl (yd_move rfl) ?_
            refine VL_yes rfl rfl rfl rfl ?_
            refine VL_val rfl rfl rfl (yd_index0 (i := 0) rfl rfl Try.underlying24 T.sz3 (by omega)) ?_
            refine VL_yes rfl rfl rfl rfl ?_
            refine VL_val rfl rfl rfl (yd_load rfl T.one3 (got_cell (hS.get 0 rfl) (by omega))) ?_
            refine VL_yes rfl rfl rfl rfl ?_
            refine VL_val rfl rfl rfl (yd_neq rfl rfl) ?_
            refine VL_val rfl rfl rfl (yd_pick_f rfl rfl) ?_
            refine VL_nil ?_
            refine VE_then ?_
            refine VC_cond rfl (fun h37 => ?_) (fun h37 => ?_)
            · replace h37 := of_decide_eq_true h37
              exact absurd (by rw [idom_zero hg hid]; rfl) h37
            · replace h37 := Decidable.not_not.1 (of_decide_eq_false h37)
              refine VC_skip ?_
              refine VE_then ?_
              refine VC_seq ?_
              refine VC_region ?_
              refine VL_val rfl rfl rfl (yd_move rfl) ?_
              refine VL_val rfl rfl rfl (yd_len rfl Try.underlying22) ?_
              refine VL_makeM Value.bool false rfl rfl rfl rfl rfl rfl Try.underlying28 T.e4 rfl rfl (by omega) (by omega) (by omega) hS ?_
              clear hS; intro b40 w hS
              refine VL_val rfl rfl rfl (yd_assign rfl) ?_
              refine VL_nil ?_
              refine VE_then ?_
              refine VC_seq ?_
              refine VC_seq ?_
              refine VC_region ?_
              refine VL_val rfl rfl rfl (yd_move rfl) ?_
              refine VL_val rfl rfl rfl (yd_move rfl) ?_
              refine VL_call rfl rfl rfl rfl T.call34 rfl (walk_ok (hS.graph hG0) hg (hS.bytes hB0) (by omega)) ?_
              rintro u43 w ⟨p, hw, hp2, hR2⟩
              have hS := hS.call0 hR2
              have hwp := hw.pos
              obtain ⟨wb, wc, rfl, -⟩ := row_form (hS.get 2 rfl) (.inr (by omega))
              refine VL_val rfl rfl rfl (yd_len rfl Try.underlying24) ?_
              refine VL_val rfl rfl rfl (yd_move rfl) ?_
              refine VL_nil ?_
              refine VE_then ?_
              refine VC_block ?_
              refine VC_loop2 [0, 5, 6, 43, 44] [_, _, _, _, _] rfl (fun (k : Nat) (sn : List Bool) => [(45, .int .i64 ((k : Nat) : Int))]) (fun (k : Nat) (sn : List Bool) w => k ≤ p.length ∧ sn.length = G.length ∧ (∀ i, i < k → sn[p[i]!]! = true) ∧ St w0 M0 [row (.slice (some ⟨ib, 0, none⟩) L.length ic) 3 1 L.length ((L.map nO).map (Value.int .i64)), blk b40 4 (sn.map Value.bool), row (.slice (some ⟨wb, 0, none⟩) p.length wc) 3 1 p.length ((zL p).map (Value.int .i64))] w) (fun (k : Nat) (sn : List Bool) => p.length - k) 0 _ ⟨rfl, trivial⟩ (⟨Nat.zero_le _, by simp, fun i h => absurd h (Nat.not_lt_zero _), hS⟩) ?_
              clear hS; rintro k sn w ⟨hk, hsl, hsn, hS⟩
              refine VC_seq ?_
              refine VC_region ?_
              refine VL_val rfl rfl rfl (yd_lss rfl rfl) ?_
              refine VL_nil ?_
              refine VE_then ?_
              refine VC_seq ?_
              refine VC_cond rfl (fun h46 => ?_) (fun h46 => ?_)
              · replace h46 := of_decide_eq_true h46
                refine VC_skip ?_
                refine VE_then ?_
                refine VC_seq ?_
                refine VC_block ?_
                refine VC_seq ?_
                refine VC_region ?_
                have hxl := hw.lt hg (i := k) (by omega)
                refine VL_val rfl rfl rfl (yd_move rfl) ?_
                refine VL_val rfl rfl rfl (yd_index0 rfl rfl Try.underlying24 T.sz3 (by omega)) ?_
                refine VL_val rfl rfl rfl (yd_load rfl T.one3 (zl_cell (hS.get 2 rfl) (by omega))) ?_
                refine VL_val rfl rfl rfl (yd_assign rfl) ?_
                refine VL_val rfl rfl rfl (yd_assign rfl) ?_
                refine VL_nil ?_
                refine VE_then ?_
                refine VC_seq ?_
                refine VC_seq ?_
                refine VC_region ?_
                refine VL_val rfl rfl rfl (yd_move rfl) ?_
                refine VL_val rfl rfl rfl (yd_lss rfl rfl) ?_
                refine VL_val rfl rfl rfl (yd_move rfl) ?_
                refine VL_split 52 rfl (fun h52 => ?_) (fun h52 => ?_)
                · replace h52 := of_decide_eq_true h52
                  exact absurd h52 (by omega)
                · replace h52 := Int.not_lt.1 (of_decide_eq_false h52)
                  refine VL_yes rfl rfl rfl rfl ?_
                  refine VL_val rfl rfl rfl (yd_move rfl) ?_
                  refine VL_yes rfl rfl rfl rfl ?_
                  refine VL_val rfl rfl rfl (yd_gtr rfl rfl) ?_
                  refine VL_yes rfl rfl rfl rfl ?_
                  refine VL_val rfl rfl rfl (yd_move rfl) ?_
                  refine VL_split 55 rfl (fun h55 => ?_) (fun h55 => ?_)
                  · replace h55 := of_decide_eq_true h55
                    refine VL_yes rfl rfl rfl rfl ?_
                    refine VL_val rfl rfl rfl (yd_move rfl) ?_
                    refine VL_yes rfl rfl rfl rfl ?_
                    refine VL_val rfl rfl rfl (yd_neq rfl rfl) ?_
                    refine VL_yes rfl rfl rfl rfl ?_
                    refine VL_val rfl rfl rfl (yd_pick_t rfl rfl) ?_
                    refine VL_yes rfl rfl rfl rfl ?_
                    refine VL_val rfl rfl rfl (yd_move rfl) ?_
                    refine VL_split 59 rfl (fun h59 => ?_) (fun h59 => ?_)
                    · replace h59 := of_decide_eq_true h59
                      obtain ⟨d, hd, hdl, i, hik, hpi⟩ := been hg hid hw (k := k) (by omega) (by omega)
                      have hsd := hsn i hik
                      rw [hpi] at hsd
                      refine VL_yes rfl rfl rfl rfl ?_
                      refine VL_val rfl rfl rfl (yd_move rfl) ?_
                      refine VL_yes rfl rfl rfl rfl ?_
                      refine VL_val rfl rfl rfl (yd_move rfl) ?_
                      refine VL_yes rfl rfl rfl rfl ?_
                      refine VL_val rfl rfl rfl (yd_index0 rfl rfl Try.underlying24 T.sz3 (by omega)) ?_
                      refine VL_yes rfl rfl rfl rfl ?_
                      refine VL_val rfl rfl rfl (yd_load rfl T.one3 (got_some (hS.get 0 rfl) (by omega) hd)) ?_
                      refine VL_yes rfl rfl rfl rfl ?_
                      refine VL_val rfl rfl rfl (yd_lss rfl rfl) ?_
                      refine VL_yes rfl rfl rfl rfl ?_
                      refine VL_val rfl rfl rfl (yd_move rfl) ?_
                      refine VL_split 65 rfl (fun h65 => ?_) (fun h65 => ?_)
                      · replace h65 := of_decide_eq_true h65
                        exact absurd h65 (by omega)
                      · replace h65 := Int.not_lt.1 (of_decide_eq_false h65)
                        refine VL_yes rfl rfl rfl rfl ?_
                        refine VL_val rfl rfl rfl (yd_move rfl) ?_
                        refine VL_yes rfl rfl rfl rfl ?_
                        refine VL_val rfl rfl rfl (yd_move rfl) ?_
                        refine VL_yes rfl rfl rfl rfl ?_
                        refine VL_val rfl rfl rfl (yd_index0 rfl rfl Try.underlying24 T.sz3 (by omega)) ?_
                        refine VL_yes rfl rfl rfl rfl ?_
                        refine VL_val rfl rfl rfl (yd_load rfl T.one3 (got_some (hS.get 0 rfl) (by omega) hd)) ?_
                        refine VL_yes rfl rfl rfl rfl ?_
                        refine VL_val rfl rfl rfl (yd_move rfl) ?_
                        refine VL_yes rfl rfl rfl rfl ?_
                        refine VL_val rfl rfl rfl (yd_len rfl Try.underlying22) ?_
                        refine VL_yes rfl rfl rfl rfl ?_
                        refine VL_val rfl rfl rfl (yd_geq rfl rfl) ?_
                        refine VL_yes rfl rfl rfl rfl ?_
                        refine VL_val rfl rfl rfl (yd_pick_f rfl rfl) ?_
                        refine VL_yes rfl rfl rfl rfl ?_
                        refine VL_val rfl rfl rfl (yd_move rfl) ?_
                        refine VL_split 74 rfl (fun h74 => ?_) (fun h74 => ?_)
                        · replace h74 := of_decide_eq_true h74
                          exact absurd h74 (by omega)
                        · replace h74 := Int.not_le.1 (of_decide_eq_false h74)
                          refine VL_yes rfl rfl rfl rfl ?_
                          refine VL_val rfl rfl rfl (yd_move rfl) ?_
                          refine VL_yes rfl rfl rfl rfl ?_
                          refine VL_val rfl rfl rfl (yd_move rfl) ?_
                          refine VL_yes rfl rfl rfl rfl ?_
                          refine VL_val rfl rfl rfl (yd_move rfl) ?_
                          refine VL_yes rfl rfl rfl rfl ?_
                          refine VL_val rfl rfl rfl (yd_index0 rfl rfl Try.underlying24 T.sz3 (by omega)) ?_
                          refine VL_yes rfl rfl rfl rfl ?_
                          refine VL_val rfl rfl rfl (yd_load rfl T.one3 (got_some (hS.get 0 rfl) (by omega) hd)) ?_
                          refine VL_yes rfl rfl rfl rfl ?_
                          refine VL_val rfl rfl rfl (yd_index0 rfl rfl Try.underlying28 T.sz4 (by omega)) ?_
                          refine VL_yes rfl rfl rfl rfl ?_
                          refine VL_val rfl rfl rfl (yd_load rfl T.one4 (blk_cellM (hS.get 1 rfl) (by omega))) ?_
                          refine VL_yes rfl rfl rfl rfl ?_
                          refine VL_val rfl rfl rfl (yd_not rfl) ?_
                          refine VL_yes rfl rfl rfl rfl ?_
                          refine VL_val rfl rfl rfl (yd_pick_f rfl rfl) ?_
                          refine VL_yes rfl rfl rfl rfl ?_
                          refine VL_val rfl rfl rfl (yd_pick_t rfl rfl) ?_
                          refine VL_val rfl rfl rfl (yd_pick_f rfl rfl) ?_
                          refine VL_nil ?_
                          refine VE_then ?_
                          refine VC_cond rfl (fun h85 => ?_) (fun h85 => ?_)
                          · replace h85 := V.nt h85
                            rw [hsd] at h85; cases h85
                          · replace h85 := V.nf h85
                            refine VC_skip ?_
                            refine VE_then ?_
                            refine VC_region ?_
                            refine VL_val rfl rfl rfl (yd_move rfl) ?_
                            refine VL_val rfl rfl rfl (yd_move rfl) ?_
                            refine VL_val rfl rfl rfl (yd_index0 rfl rfl Try.underlying28 T.sz4 (by omega)) ?_
                            refine VL_storeM rfl rfl rfl rfl rfl T.one4 rfl hS 1 rfl (by omega) rfl ?_
                            clear hS; intro w hS
                            refine VL_nil ?_
                            refine VE_block_normal ?_
                            refine VE_then ?_
                            refine VC_region ?_
                            refine VL_val rfl rfl rfl (yd_add rfl rfl ((k + 1 : Nat) : Int) (by rw [wi64 (by omega) (by omega)]; omega)) ?_
                            refine VL_val rfl rfl rfl (yd_move rfl) ?_
                            refine VL_nil ?_
                            refine VE_round2 (k + 1) _ ⟨rfl, rfl, rfl, rfl, rfl, rfl, trivial⟩ ⟨by omega, by simp [hsl], fun i hi => ?_, hS⟩ (by omega)
                            rw [get!_set _ _ _ _ (by omega)]
                            split
                            · rfl
                            · rename_i e; have : i ≠ k := fun h => e (by rw [h]); exact hsn i (by omega)
                    · replace h59 := Decidable.not_not.1 (of_decide_eq_false h59)
                      refine VL_no rfl rfl rfl rfl rfl rfl rfl ?_
                      refine VL_no rfl rfl rfl rfl rfl rfl rfl ?_
                      refine VL_no rfl rfl rfl rfl rfl rfl rfl ?_
                      refine VL_no rfl rfl rfl rfl rfl rfl rfl ?_
                      refine VL_no rfl rfl rfl rfl rfl rfl rfl ?_
                      refine VL_no rfl rfl rfl rfl rfl rfl rfl ?_
                      refine VL_noU rfl rfl rfl rfl rfl rfl ?_
                      refine VL_noU rfl rfl rfl rfl rfl rfl ?_
                      refine VL_noU rfl rfl rfl rfl rfl rfl ?_
                      refine VL_noU rfl rfl rfl rfl rfl rfl ?_
                      refine VL_noU rfl rfl rfl rfl rfl rfl ?_
                      refine VL_noU rfl rfl rfl rfl rfl rfl ?_
                      refine VL_noU rfl rfl rfl rfl rfl rfl ?_
                      refine VL_no rfl rfl rfl rfl rfl rfl rfl ?_
                      refine VL_no rfl rfl rfl rfl rfl rfl rfl ?_
                      refine VL_noU rfl rfl rfl rfl rfl rfl ?_
                      refine VL_noU rfl rfl rfl rfl rfl rfl ?_
                      refine VL_noU rfl rfl rfl rfl rfl rfl ?_
                      refine VL_noU rfl rfl rfl rfl rfl rfl ?_
                      refine VL_noU rfl rfl rfl rfl rfl rfl ?_
                      refine VL_noU rfl rfl rfl rfl rfl rfl ?_
                      refine VL_noU rfl rfl rfl rfl rfl rfl ?_
                      refine VL_noU rfl rfl rfl rfl rfl rfl ?_
                      refine VL_no rfl rfl rfl rfl rfl rfl rfl ?_
                      refine VL_yes rfl rfl rfl rfl ?_
                      refine VL_val rfl rfl rfl (yd_pick_f rfl rfl) ?_
                      refine VL_val rfl rfl rfl (yd_pick_f rfl rfl) ?_
                      refine VL_nil ?_
                      refine VE_then ?_
                      refine VC_cond_f rfl ?_
                      refine VC_skip ?_
                      refine VE_then ?_
                      refine VC_region ?_
                      refine VL_val rfl rfl rfl (yd_move rfl) ?_
                      refine VL_val rfl rfl rfl (yd_move rfl) ?_
                      refine VL_val rfl rfl rfl (yd_index0 rfl rfl Try.underlying28 T.sz4 (by omega)) ?_
                      refine VL_storeM rfl rfl rfl rfl rfl T.one4 rfl hS 1 rfl (by omega) rfl ?_
                      clear hS; intro w hS
                      refine VL_nil ?_
                      refine VE_block_normal ?_
                      refine VE_then ?_
                      refine VC_region ?_
                      refine VL_val rfl rfl rfl (yd_add rfl rfl ((k + 1 : Nat) : Int) (by rw [wi64 (by omega) (by omega)]; omega)) ?_
                      refine VL_val rfl rfl rfl (yd_move rfl) ?_
                      refine VL_nil ?_
                      refine VE_round2 (k + 1) _ ⟨rfl, rfl, rfl, rfl, rfl, rfl, trivial⟩ ⟨by omega, by simp [hsl], fun i hi => ?_, hS⟩ (by omega)
                      rw [get!_set _ _ _ _ (by omega)]
                      split
                      · rfl
                      · rename_i e; have : i ≠ k := fun h => e (by rw [h]); exact hsn i (by omega)
                  · replace h55 := Int.not_lt.1 (of_decide_eq_false h55)
                    refine VL_no rfl rfl rfl rfl rfl rfl rfl ?_
                    refine VL_no rfl rfl rfl rfl rfl rfl rfl ?_
                    refine VL_yes rfl rfl rfl rfl ?_
                    refine VL_val rfl rfl rfl (yd_pick_f rfl rfl) ?_
                    refine VL_yes rfl rfl rfl rfl ?_
                    refine VL_val rfl rfl rfl (yd_move rfl) ?_
                    refine VL_no rfl rfl rfl rfl rfl rfl rfl ?_
                    refine VL_no rfl rfl rfl rfl rfl rfl rfl ?_
                    refine VL_no rfl rfl rfl rfl rfl rfl rfl ?_
                    refine VL_no rfl rfl rfl rfl rfl rfl rfl ?_
                    refine VL_no rfl rfl rfl rfl rfl rfl rfl ?_
                    refine VL_no rfl rfl rfl rfl rfl rfl rfl ?_
                    refine VL_noU rfl rfl rfl rfl rfl rfl ?_
                    refine VL_noU rfl rfl rfl rfl rfl rfl ?_
                    refine VL_noU rfl rfl rfl rfl rfl rfl ?_
                    refine VL_noU rfl rfl rfl rfl rfl rfl ?_
                    refine VL_noU rfl rfl rfl rfl rfl rfl ?_
                    refine VL_noU rfl rfl rfl rfl rfl rfl ?_
                    refine VL_noU rfl rfl rfl rfl rfl rfl ?_
                    refine VL_no rfl rfl rfl rfl rfl rfl rfl ?_
                    refine VL_no rfl rfl rfl rfl rfl rfl rfl ?_
                    refine VL_noU rfl rfl rfl rfl rfl rfl ?_
                    refine VL_noU rfl rfl rfl rfl rfl rfl ?_
                    refine VL_noU rfl rfl rfl rfl rfl rfl ?_
                    refine VL_noU rfl rfl rfl rfl rfl rfl ?_
                    refine VL_noU rfl rfl rfl rfl rfl rfl ?_
                    refine VL_noU rfl rfl rfl rfl rfl rfl ?_
                    refine VL_noU rfl rfl rfl rfl rfl rfl ?_
                    refine VL_noU rfl rfl rfl rfl rfl rfl ?_
                    refine VL_no rfl rfl rfl rfl rfl rfl rfl ?_
                    refine VL_yes rfl rfl rfl rfl ?_
                    refine VL_val rfl rfl rfl (yd_pick_f rfl rfl) ?_
                    refine VL_val rfl rfl rfl (yd_pick_f rfl rfl) ?_
                    refine VL_nil ?_
                    refine VE_then ?_
                    refine VC_cond_f rfl ?_
                    refine VC_skip ?_
                    refine VE_then ?_
                    refine VC_region ?_
                    refine VL_val rfl rfl rfl (yd_move rfl) ?_
                    refine VL_val rfl rfl rfl (yd_move rfl) ?_
                    refine VL_val rfl rfl rfl (yd_index0 rfl rfl Try.underlying28 T.sz4 (by omega)) ?_
                    refine VL_storeM rfl rfl rfl rfl rfl T.one4 rfl hS 1 rfl (by omega) rfl ?_
                    clear hS; intro w hS
                    refine VL_nil ?_
                    refine VE_block_normal ?_
                    refine VE_then ?_
                    refine VC_region ?_
                    refine VL_val rfl rfl rfl (yd_add rfl rfl ((k + 1 : Nat) : Int) (by rw [wi64 (by omega) (by omega)]; omega)) ?_
                    refine VL_val rfl rfl rfl (yd_move rfl) ?_
                    refine VL_nil ?_
                    refine VE_round2 (k + 1) _ ⟨rfl, rfl, rfl, rfl, rfl, rfl, trivial⟩ ⟨by omega, by simp [hsl], fun i hi => ?_, hS⟩ (by omega)
                    rw [get!_set _ _ _ _ (by omega)]
                    split
                    · rfl
                    · rename_i e; have : i ≠ k := fun h => e (by rw [h]); exact hsn i (by omega)
              · replace h46 := Int.not_lt.1 (of_decide_eq_false h46)
                refine VC_exit ?_
                refine VE_then_exit (VE_then_exit (VE_block_exit ?_))
                refine VE_then ?_
                refine VC_seq ?_
                refine VC_region ?_
                refine VL_val rfl rfl rfl (yd_assign rfl) ?_
                refine VL_nil ?_
                refine VE_then ?_
                refine VC_ret ?_
                refine VE_ret1 (rfl) rfl ?_
                exact ⟨rfl, hS.below⟩

end Go.Proofs.Ytmoooaaiohplhaa
