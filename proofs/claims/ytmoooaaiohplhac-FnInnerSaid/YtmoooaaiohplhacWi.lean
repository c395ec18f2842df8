/- spec.Of, Idom, Idoms. -/
import Derived.Test.YtmoooaaiohplhacWb
import Derived.Test.YtmoooaaiohplhacWd
import Derived.Test.YtmoooaaiohplhacWc
import Derived.Test.YtmoooaaiohplhacVh
import Derived.Test.YtmoooaaiohplhacPc
namespace Go.Proofs.Ytmoooaaiohplhac
open Go Go.V
set_option linter.unusedVariables false
set_option maxRecDepth 100000

theorem T.agg37 : AggT Try.prog 37 3 := ⟨⟨_, Try.underlying37, rfl⟩, by kernel_rfl⟩
theorem T.e25 : ElemT Try.prog 25 1 24 (.slice none 0 0) := ElemT.of (by kernel_rfl)
theorem T.e37 : ElemT Try.prog 37 3 72 (.agg #[(.slice none 0 0), (.slice none 0 0), (.slice none 0 0)]) := ElemT.of (by kernel_rfl)
theorem T.fld37_1 : FieldT Try.prog 37 1 1 := FieldT.of (by kernel_rfl)
theorem T.fld37_2 : FieldT Try.prog 37 2 2 := FieldT.of (by kernel_rfl)
theorem T.one25 : OneT Try.prog 25 := ⟨⟨_, Try.underlying25, rfl⟩, by kernel_rfl⟩
theorem T.one35 : OneT Try.prog 35 := ⟨⟨_, Try.underlying35, rfl⟩, by kernel_rfl⟩
theorem T.st37 : StructT Try.prog 37 [(0, 1), (1, 1), (2, 1)] [(.slice none 0 0), (.slice none 0 0), (.slice none 0 0)] := ⟨⟨_, Try.underlying37, by kernel_rfl⟩, ⟨_, rfl, by kernel_rfl⟩⟩

open Go.PL
/-- The shape of a graph in memory. -/
structure SRep where
  lb : Nat
  db : Nat
  dc : Nat
  rb : Nat → Nat
  lv : Nat → Bool
  dm : Nat → Nat → Bool
def SRep.live (s : SRep) (G : Graph) : Value := .slice (some ⟨s.lb, 0, none⟩) G.length G.length
def SRep.dom (s : SRep) (G : Graph) : Value := .slice (some ⟨s.db, 0, none⟩) G.length s.dc
def bl (n : Nat) (p : Nat → Bool) : List Value := (List.range n).map fun y => .bool (p y)
def bR (rb : Nat → Nat) (dm : Nat → Nat → Bool) (n i : Nat) : Res := blk (rb i) 4 (bl n (dm i))
def shapeL (s : SRep) (G : Graph) : List Res := [bundle ((List.range G.length).map (bR s.rb s.dm G.length)), blk s.lb 4 (bl G.length s.lv), row (s.dom G) 25 1 G.length ((List.range G.length).map fun i => .slice (some ⟨s.rb i, 0, none⟩) G.length G.length)]
def shapeR (s : SRep) (G : Graph) : Res := bundle (shapeL s G)
structure SOK (s : SRep) (G : Graph) : Prop where
  lv : ∀ y, s.lv y = true ↔ Rc G 0 y
  dm : ∀ x y, s.dm x y = true ↔ Dm G x y
/-- The value u reads as the shape of G. -/
structure ShapeAt (w : World) (u : Value) (v : Value) (s : SRep) (G : Graph) : Prop where
  val : u = .agg #[v, s.live G, s.dom G]
  graph : GraphAt w v G
  ok : SOK s G
  live : ∀ y, y < G.length → w.cell? ⟨s.lb, y, none⟩ = some (.bool (s.lv y))
  row : ∀ x, x < G.length → w.cell? ⟨s.db, x, none⟩ = some (.slice (some ⟨s.rb x, 0, none⟩) G.length G.length)
  dom : ∀ x y, x < G.length → y < G.length → w.cell? ⟨s.rb x, y, none⟩ = some (.bool (s.dm x y))
theorem shapeAt {w : World} {v : Value} {s : SRep} {G : Graph} (hG : GraphAt w v G) (hok : SOK s G) (h : (shapeR s G).holds w) : ShapeAt w (.agg #[v, s.live G, s.dom G]) v s G := by
  have h0 := h.1 (bundle ((List.range G.length).map (bR s.rb s.dm G.length))) (by simp [shapeL])
  have h1 := h.1 (blk s.lb 4 (bl G.length s.lv)) (by simp [shapeL])
  have h2 := h.1 (V.row (s.dom G) 25 1 G.length ((List.range G.length).map fun i => .slice (some ⟨s.rb i, 0, none⟩) G.length G.length)) (by simp [shapeL])
  refine ⟨rfl, hG, hok, fun y hy => blk_cell h1 (by simp [bl, hy]), fun x hx => row_cell h2 (by simp [hx]), fun x y hx hy => ?_⟩
  exact blk_cell (h0.1 (bR s.rb s.dm G.length x) (List.mem_map.2 ⟨x, by simpa using hx, rfl⟩)) (by simp [bl, hy])
theorem ShapeAt.keep {w w' : World} {u v : Value} {s : SRep} {G : Graph} (h : ShapeAt w u v s G) (hk : ∀ b, b < w.heap.size → w'.heap[b]? = w.heap[b]?) : ShapeAt w' u v s G := by
  have kc : ∀ {a : Addr} {x : Value}, w.cell? a = some x → w'.cell? a = some x := fun {a x} hc => (World.cell?_of_block (hk _ (World.block_lt_of_cell? w _ hc))).trans hc
  exact ⟨h.val, h.graph.keep hk, h.ok, fun y hy => kc (h.live y hy), fun x hx => kc (h.row x hx), fun x y hx hy => kc (h.dom x y hx hy)⟩
theorem _root_.Go.V.St.shape {w0 w : World} {η : List Res} {u v : Value} {s : SRep} {G : Graph} (hS : St w0 M0 η w) (h : ShapeAt w0 u v s G) : ShapeAt w u v s G := h.keep (fun b hb => hS.old b hb (fun x => x))
/-- A resource joins a bundle. -/
theorem bundle_in {w0 w : World} {M : Nat → Prop} {L η : List Res} {r : Res} (hS : St w0 M (r :: bundle L :: η) w) : St w0 M (bundle (L ++ [r]) :: η) w := by
  have hb := hS.get 1 rfl
  have hr := hS.get 0 rfl
  have hp := hS.disj
  rw [List.pairwise_cons, List.pairwise_cons] at hp
  refine ⟨hS.os, hS.tape, hS.output, hS.size, hS.old, ?_, ?_, ?_⟩
  · intro x hx
    rcases List.mem_cons.1 hx with rfl | hx
    · refine ⟨fun y hy => ?_, ?_⟩
      · rcases List.mem_append.1 hy with hy | hy
        · exact hb.1 y hy
        · rw [List.mem_singleton.1 hy]; exact hr
      · rw [List.pairwise_append]
        refine ⟨hb.2, by simp, fun a ha c hc b hba hbc => ?_⟩
        rw [List.mem_singleton.1 hc] at hbc
        exact hp.1 (bundle L) (by simp) b hbc ⟨a, ha, hba⟩
    · exact hS.res x (by simp [hx])
  · intro x hx b hxb
    rcases List.mem_cons.1 hx with rfl | hx
    · obtain ⟨a, ha, hba⟩ := hxb
      rcases List.mem_append.1 ha with ha | ha
      · exact hS.own (bundle L) (by simp) b ⟨a, ha, hba⟩
      · rw [List.mem_singleton.1 ha] at hba; exact hS.own r (by simp) b hba
    · exact hS.own x (by simp [hx]) b hxb
  · rw [List.pairwise_cons]
    refine ⟨fun x hx b hxb hxx => ?_, hp.2.2⟩
    obtain ⟨a, ha, hba⟩ := hxb
    rcases List.mem_append.1 ha with ha | ha
    · exact hp.2.1 x hx b ⟨a, ha, hba⟩ hxx
    · rw [List.mem_singleton.1 ha] at hba; exact hp.1 x (by simp [hx]) b hba hxx
theorem bundle0 {w0 w : World} {M : Nat → Prop} {η : List Res} (hS : St w0 M η w) : St w0 M (bundle [] :: η) w := by
  have := (St_nils hS (L := [bundle []]) (by intro r hr; rw [List.mem_singleton.1 hr]; exact ⟨⟨by simp, by simp⟩, fun b ⟨_, h, _⟩ => by simp at h⟩)).perm (List.perm_append_comm)
  exact this
theorem bl_eq {l : List Bool} {n : Nat} {p : Nat → Bool} (hl : l.length = n) (h : ∀ y, y < n → l[y]! = p y) : l.map Value.bool = bl n p := by
  refine List.ext_getElem (by simp [bl, hl]) fun y h1 h2 => ?_
  have hy : y < l.length := by simpa using h1
  simp only [bl, List.getElem_map, List.getElem_range]
  rw [← h y (by omega), getElem!_pos l y hy]
theorem bR_snoc {rb : Nat → Nat} {dm : Nat → Nat → Bool} {n x b : Nat} {r : Res} (hr : r = blk b 4 (bl n (dm x))) : (List.range x).map (bR rb dm n) ++ [r] = (List.range (x + 1)).map (bR (upd rb x b) dm n) := by
  rw [List.range_succ, List.map_append, hr]
  congr 1
  · apply List.map_congr_left; intro i hi; unfold bR; rw [upd_ne _ _ (by simp at hi; omega)]
  · simp [bR, upd_same]
theorem sl_snoc {rb : Nat → Nat} {n x b : Nat} : (List.range (x + 1)).map (fun i => Value.slice (some ⟨upd rb x b i, 0, none⟩) n n) = (List.range x).map (fun i => Value.slice (some ⟨rb i, 0, none⟩) n n) ++ [.slice (some ⟨b, 0, none⟩) n n] := by
  rw [List.range_succ, List.map_append]
  congr 1
  · apply List.map_congr_left; intro i hi; rw [upd_ne _ _ (by simp at hi; omega)]
  · simp [upd_same]
/-- There is an immediate dominator. -/
theorem exists_idom {G : Graph} (hg : Gd G) {y : Nat} (hy : Rc G 0 y) (h0 : y ≠ 0) : ∃ x, IsIdom G x y := by
  have key : ∀ k, ∃ x, x ≠ y ∧ Dm G x y ∧ ∀ z, z < k → z ≠ y → Dm G z y → Dm G z x := by
    intro k
    induction k with
    | zero => exact ⟨0, fun h => h0 h.symm, dm_zero hy, fun z hz => absurd hz (Nat.not_lt_zero _)⟩
    | succ k ih =>
      obtain ⟨x, h1, h2, h3⟩ := ih
      by_cases hk : k ≠ y ∧ Dm G k y
      · rcases Dm.total h2 hk.2 with h | h
        · refine ⟨k, hk.1, hk.2, fun z hz hne hd => ?_⟩
          by_cases e : z = k
          · subst e; exact dm_refl hd.rcl
          · exact (h3 z (by omega) hne hd).trans h
        · refine ⟨x, h1, h2, fun z hz hne hd => ?_⟩
          by_cases e : z = k
          · subst e; exact h
          · exact h3 z (by omega) hne hd
      · refine ⟨x, h1, h2, fun z hz hne hd => ?_⟩
        by_cases e : z = k
        · subst e; exact absurd ⟨hne, hd⟩ hk
        · exact h3 z (by omega) hne hd
  obtain ⟨x, h1, h2, h3⟩ := key G.length
  exact ⟨x, h1, h2, fun z hne hd => h3 z (hd.lt hg).1 hne hd⟩

set_option maxHeartbeats 1000000 in
theorem of_ok {w0 : World} {v : Value} {G : Graph} (hG : GraphAt w0 v G) (hg : Gd G) : Calls Try.prog 31 #[v] w0 (Ret fun u w' => ∃ s, u = .agg #[v, s.live G, s.dom G] ∧ SOK s G ∧ St w0 M0 [shapeR s G] w') := by
  have hG0 := hG
  obtain ⟨ga, gc, gb, go, rfl, hga, hrow⟩ := hG
  have hpos := hg.pos
  obtain rfl := hga (by omega)
  have hS := St.refl w0
  have hle := hg.le
  obtain ⟨dm, hdm⟩ : ∃ dm : Nat → Nat → Bool, ∀ x y, dm x y = true ↔ Dm G x y := ⟨fun x y => @decide _ (Classical.propDecidable (Dm G x y)), fun x y => by simp⟩
  obtain ⟨lv, hlv⟩ : ∃ lv : Nat → Bool, ∀ y, lv y = true ↔ Rc G 0 y := ⟨fun y => @decide _ (Classical.propDecidable (Rc G 0 y)), fun y => by simp⟩
  refine V_enter (N := 57) Try.func31 rfl Try.ntmps31 rfl ?_
  refine VC.sub (τ := [(0, _)]) ⟨rfl, trivial⟩ ?_
  refine VC_seq ?_
  refine VC_region ?_
  refine VL_alloc rfl rfl rfl rfl T.e37 hS ?_
  clear hS; intro b2 w hS
  refine VL_nil ?_
  refine VE_then ?_
  refine VC_seq ?_
  refine VC_region ?_
  refine VL_val rfl rfl rfl (yd_move rfl) ?_
  refine VL_val rfl rfl rfl (yd_move rfl) ?_
  refine VL_call rfl rfl rfl rfl T.call15 rfl (reach_ok (hS.graph hG0) hg hpos) ?_
  rintro _ w ⟨lb, R, rfl, hR, hIR⟩
  have hS := hS.call0 hR
  have hRl := hIR.1
  refine VL_val rfl rfl rfl (yd_build T.st37 (vs := [(0, _), (1, _)]) rfl rfl) ?_
  refine VL_alloc rfl rfl rfl rfl T.e37 hS ?_
  clear hS; intro b3 w hS
  refine VL_storeN (cs := [.slice (some ⟨gb, go, none⟩) G.length gc, .slice (some ⟨lb, 0, none⟩) G.length G.length, .slice none 0 0]) rfl rfl rfl rfl rfl T.agg37 (by intro u hu; simp at hu; rcases hu with rfl | rfl | rfl <;> rfl) hS 2 rfl (by simp [Value.cells]) ?_
  clear hS; intro w hS
  have hS := bundle0 hS
  have hS := St_nils hS (L := [row (.slice none 0 0) 25 1 0 []]) (by intro r hr; simp at hr; subst hr; exact ⟨⟨rfl, .inl ⟨rfl, rfl⟩⟩, fun b hb => by simp [row, Value.ownBlock] at hb⟩)
  refine VL_nil ?_
  refine VE_then ?_
  refine VC_seq ?_
  refine VC_seq ?_
  refine VC_region ?_
  refine VL_val rfl rfl rfl (yd_move rfl) ?_
  refine VL_val rfl rfl rfl (yd_len rfl Try.underlying22) ?_
  refine VL_val rfl rfl rfl (yd_move rfl) ?_
  refine VL_nil ?_
  refine VE_then ?_
  refine VC_block ?_
  refine VC_loop3 [0, 2, 3, 13] [_, _, _, _] rfl (fun (x : Nat) (dv : Value) (rb : Nat → Nat) => [(14, .int .i64 ((x : Nat) : Int))]) (fun (x : Nat) (dv : Value) (rb : Nat → Nat) w => x ≤ G.length ∧ St w0 M0 [bundle ((List.range x).map (bR rb dm G.length)), blk b2 37 [.slice none 0 0, .slice none 0 0, .slice none 0 0], blk lb 4 (R.map Value.bool), blk b3 37 [.slice (some ⟨gb, go, none⟩) G.length gc, .slice (some ⟨lb, 0, none⟩) G.length G.length, dv], row dv 25 1 x ((List.range x).map fun i => .slice (some ⟨rb i, 0, none⟩) G.length G.length)] w) (fun (x : Nat) (dv : Value) (rb : Nat → Nat) => G.length - x) 0 (.slice none 0 0) (fun _ => 0) ⟨rfl, trivial⟩ (⟨Nat.zero_le _, hS⟩) ?_
  clear hS; rintro x dv rb w ⟨hx, hS⟩
  refine VC_seq ?_
  refine VC_region ?_
  refine VL_val rfl rfl rfl (yd_lss rfl rfl) ?_
  refine VL_nil ?_
  refine VE_then ?_
  refine VC_seq ?_
  refine VC_cond rfl (fun h15 => ?_) (fun h15 => ?_)
  · replace h15 := of_decide_eq_true h15
    refine VC_skip ?_
    refine VE_then ?_
    refine VC_seq ?_
    refine VC_block ?_
    refine VC_seq ?_
    refine VC_region ?_
    refine VL_val rfl rfl rfl (yd_move rfl) ?_
    refine VL_val rfl rfl rfl (yd_assign rfl) ?_
    refine VL_nil ?_
    refine VE_then ?_
    refine VC_seq ?_
    refine VC_region ?_
    refine VL_val rfl rfl rfl (yd_move rfl) ?_
    refine VL_val rfl rfl rfl (yd_len rfl Try.underlying22) ?_
    refine VL_makeM Value.bool false rfl rfl rfl rfl rfl rfl Try.underlying25 T.e4 rfl rfl (by omega) (by omega) (by omega) hS ?_
    clear hS; intro b19 w hS
    refine VL_val rfl rfl rfl (yd_assign rfl) ?_
    refine VL_nil ?_
    refine VE_then ?_
    refine VC_seq ?_
    refine VC_region ?_
    refine VL_val rfl rfl rfl (yd_move rfl) ?_
    refine VL_val rfl rfl rfl (yd_move rfl) ?_
    refine VL_call rfl rfl rfl rfl T.call15 rfl (reach_ok (hS.graph hG0) hg hpos) ?_
    rintro _ w ⟨lb2, R2, rfl, hR2, hIR2⟩
    have hS := hS.call0 hR2
    have hRl2 := hIR2.1
    refine VL_val rfl rfl rfl (yd_assign rfl) ?_
    refine VL_nil ?_
    refine VE_then ?_
    refine VC_seq ?_
    refine VC_seq ?_
    refine VC_region ?_
    refine VL_val rfl rfl rfl (yd_move rfl) ?_
    refine VL_val rfl rfl rfl (yd_len rfl Try.underlying22) ?_
    refine VL_val rfl rfl rfl (yd_move rfl) ?_
    refine VL_nil ?_
    refine VE_then ?_
    refine VC_block ?_
    refine VC_loop2 [0, 2, 3, 4, 5, 6, 13, 14, 15, 16, 17, 18, 19, 20, 21, 22, 23, 24] [_, _, _, _, _, _, _, _, _, _, _, _, _, _, _, _, _, _] rfl (fun (y : Nat) (rl : List Bool) => [(25, .int .i64 ((y : Nat) : Int))]) (fun (y : Nat) (rl : List Bool) w => y ≤ G.length ∧ rl.length = G.length ∧ (∀ i, i < y → rl[i]! = dm x i) ∧ St w0 M0 ([bundle ((List.range x).map (bR rb dm G.length)), blk b2 37 [.slice none 0 0, .slice none 0 0, .slice none 0 0], blk lb 4 (R.map Value.bool), blk b3 37 [.slice (some ⟨gb, go, none⟩) G.length gc, .slice (some ⟨lb, 0, none⟩) G.length G.length, dv], row dv 25 1 x ((List.range x).map fun i => .slice (some ⟨rb i, 0, none⟩) G.length G.length)] ++ [blk b19 4 (rl.map Value.bool), blk lb2 4 (R2.map Value.bool)]) w) (fun (y : Nat) (rl : List Bool) => G.length - y) 0 _ ⟨rfl, trivial⟩ (⟨Nat.zero_le _, by simp, fun i h => absurd h (Nat.not_lt_zero _), hS⟩) ?_
    clear hS; rintro y rl w ⟨hy, hrl, hri, hS⟩
    refine VC_seq ?_
    refine VC_region ?_
    refine VL_val rfl rfl rfl (yd_lss rfl rfl) ?_
    refine VL_nil ?_
    refine VE_then ?_
    refine VC_seq ?_
    refine VC_cond rfl (fun h26 => ?_) (fun h26 => ?_)
    · replace h26 := of_decide_eq_true h26
      refine VC_skip ?_
      refine VE_then ?_
      refine VC_seq ?_
      refine VC_block ?_
      refine VC_seq ?_
      refine VC_region ?_
      refine VL_val rfl rfl rfl (yd_move rfl) ?_
      refine VL_val rfl rfl rfl (yd_assign rfl) ?_
      refine VL_nil ?_
      refine VE_then ?_
      refine VC_region ?_
      refine VL_val rfl rfl rfl (yd_move rfl) ?_
      refine VL_val rfl rfl rfl (yd_move rfl) ?_
      refine VL_val rfl rfl rfl (yd_field rfl T.fld37_1) ?_
      refine VL_val rfl rfl rfl (yd_load rfl T.one25 (blk_cell (hS.get 3 rfl) rfl)) ?_
      refine VL_val rfl rfl rfl (yd_move rfl) ?_
      refine VL_val rfl rfl rfl (yd_index0 rfl rfl Try.underlying25 T.sz4 (by omega)) ?_
      refine VL_val rfl rfl rfl (yd_load rfl T.one4 (blk_cellM (hS.get 2 rfl) (by omega))) ?_
      refine VL_val rfl rfl rfl (yd_move rfl) ?_
      refine VL_split 35 rfl (fun h35 => ?_) (fun h35 => ?_)
      · skip
        have hly := ((hIR.2 y (by omega)).1 h35).2
        refine VL_yes rfl rfl rfl rfl ?_
        refine VL_val rfl rfl rfl (yd_move rfl) ?_
        refine VL_yes rfl rfl rfl rfl ?_
        refine VL_val rfl rfl rfl (yd_move rfl) ?_
        refine VL_yes rfl rfl rfl rfl ?_
        refine VL_val rfl rfl rfl (yd_eql rfl rfl) ?_
        refine VL_yes rfl rfl rfl rfl ?_
        refine VL_val rfl rfl rfl (yd_move rfl) ?_
        refine VL_split 39 rfl (fun h39 => ?_) (fun h39 => ?_)
        · replace h39 := of_decide_eq_true h39
          have hdy : true = dm x y := by
            have e : x = y := by omega
            exact ((hdm x y).2 ⟨hly, .inl e⟩).symm
          refine VL_no rfl rfl rfl rfl rfl rfl rfl ?_
          refine VL_no rfl rfl rfl rfl rfl rfl rfl ?_
          refine VL_no rfl rfl rfl rfl rfl rfl rfl ?_
          refine VL_no rfl rfl rfl rfl rfl rfl rfl ?_
          refine VL_no rfl rfl rfl rfl rfl rfl rfl ?_
          refine VL_yes rfl rfl rfl rfl ?_
          refine VL_val rfl rfl rfl (yd_pick_t rfl rfl) ?_
          refine VL_val rfl rfl rfl (yd_pick_t rfl rfl) ?_
          refine VL_val rfl rfl rfl (yd_index0 rfl rfl Try.underlying25 T.sz4 (by omega)) ?_
          refine VL_storeM rfl rfl rfl rfl rfl T.one4 rfl hS 5 rfl (by omega) rfl ?_
          clear hS; intro w hS
          refine VL_nil ?_
          refine VE_block_normal ?_
          refine VE_then ?_
          refine VC_region ?_
          refine VL_val rfl rfl rfl (yd_add rfl rfl ((y + 1 : Nat) : Int) (by rw [wi64 (by omega) (by omega)]; omega)) ?_
          refine VL_val rfl rfl rfl (yd_move rfl) ?_
          refine VL_nil ?_
          refine VE_round2 (y + 1) _ ⟨rfl, rfl, rfl, rfl, rfl, rfl, rfl, rfl, rfl, rfl, rfl, rfl, rfl, rfl, rfl, rfl, rfl, rfl, rfl, trivial⟩ ⟨by omega, by simp [hrl], fun i hi => ?_, hS⟩ (by omega)
          rw [get!_set _ _ _ _ (by omega)]
          split
          · rename_i e; subst e; exact hdy
          · exact hri i (by omega)
        · replace h39 := of_decide_eq_false h39
          have hdy : (!R2[y]!) = dm x y := by
            have h2 := hIR2.2 y (by omega)
            cases e : R2[y]! with
            | false => exact ((hdm x y).2 ⟨hly, .inr (fun h => by rw [h2.2 h] at e; cases e)⟩).symm
            | true =>
              cases e2 : dm x y with
              | false => rfl
              | true =>
                rcases ((hdm x y).1 e2).2 with h | h
                · omega
                · exact absurd (h2.1 e) h
          refine VL_yes rfl rfl rfl rfl ?_
          refine VL_val rfl rfl rfl (yd_move rfl) ?_
          refine VL_yes rfl rfl rfl rfl ?_
          refine VL_val rfl rfl rfl (yd_move rfl) ?_
          refine VL_yes rfl rfl rfl rfl ?_
          refine VL_val rfl rfl rfl (yd_index0 rfl rfl Try.underlying25 T.sz4 (by omega)) ?_
          refine VL_yes rfl rfl rfl rfl ?_
          refine VL_val rfl rfl rfl (yd_load rfl T.one4 (blk_cellM (hS.get 6 rfl) (by omega))) ?_
          refine VL_yes rfl rfl rfl rfl ?_
          refine VL_val rfl rfl rfl (yd_not rfl) ?_
          refine VL_yes rfl rfl rfl rfl ?_
          refine VL_val rfl rfl rfl (yd_pick_f rfl rfl) ?_
          refine VL_val rfl rfl rfl (yd_pick_t rfl rfl) ?_
          refine VL_val rfl rfl rfl (yd_index0 rfl rfl Try.underlying25 T.sz4 (by omega)) ?_
          refine VL_storeM rfl rfl rfl rfl rfl T.one4 rfl hS 5 rfl (by omega) rfl ?_
          clear hS; intro w hS
          refine VL_nil ?_
          refine VE_block_normal ?_
          refine VE_then ?_
          refine VC_region ?_
          refine VL_val rfl rfl rfl (yd_add rfl rfl ((y + 1 : Nat) : Int) (by rw [wi64 (by omega) (by omega)]; omega)) ?_
          refine VL_val rfl rfl rfl (yd_move rfl) ?_
          refine VL_nil ?_
          refine VE_round2 (y + 1) _ ⟨rfl, rfl, rfl, rfl, rfl, rfl, rfl, rfl, rfl, rfl, rfl, rfl, rfl, rfl, rfl, rfl, rfl, rfl, rfl, trivial⟩ ⟨by omega, by simp [hrl], fun i hi => ?_, hS⟩ (by omega)
          rw [get!_set _ _ _ _ (by omega)]
          split
          · rename_i e; subst e; exact hdy
          · exact hri i (by omega)
      · skip
        have hdy : false = dm x y := by
          cases e : dm x y with
          | false => rfl
          | true => have := (hIR.2 y (by omega)).2 ⟨by omega, ((hdm x y).1 e).rc⟩; rw [h35] at this; cases this
        refine VL_no rfl rfl rfl rfl rfl rfl rfl ?_
        refine VL_no rfl rfl rfl rfl rfl rfl rfl ?_
        refine VL_no rfl rfl rfl rfl rfl rfl rfl ?_
        refine VL_no rfl rfl rfl rfl rfl rfl rfl ?_
        refine VL_noU rfl rfl rfl rfl rfl rfl ?_
        refine VL_noU rfl rfl rfl rfl rfl rfl ?_
        refine VL_noU rfl rfl rfl rfl rfl rfl ?_
        refine VL_noU rfl rfl rfl rfl rfl rfl ?_
        refine VL_noU rfl rfl rfl rfl rfl rfl ?_
        refine VL_no rfl rfl rfl rfl rfl rfl rfl ?_
        refine VL_val rfl rfl rfl (yd_pick_f rfl rfl) ?_
        refine VL_val rfl rfl rfl (yd_index0 rfl rfl Try.underlying25 T.sz4 (by omega)) ?_
        refine VL_storeM rfl rfl rfl rfl rfl T.one4 rfl hS 5 rfl (by omega) rfl ?_
        clear hS; intro w hS
        refine VL_nil ?_
        refine VE_block_normal ?_
        refine VE_then ?_
        refine VC_region ?_
        refine VL_val rfl rfl rfl (yd_add rfl rfl ((y + 1 : Nat) : Int) (by rw [wi64 (by omega) (by omega)]; omega)) ?_
        refine VL_val rfl rfl rfl (yd_move rfl) ?_
        refine VL_nil ?_
        refine VE_round2 (y + 1) _ ⟨rfl, rfl, rfl, rfl, rfl, rfl, rfl, rfl, rfl, rfl, rfl, rfl, rfl, rfl, rfl, rfl, rfl, rfl, rfl, trivial⟩ ⟨by omega, by simp [hrl], fun i hi => ?_, hS⟩ (by omega)
        rw [get!_set _ _ _ _ (by omega)]
        split
        · rename_i e; subst e; exact hdy
        · exact hri i (by omega)
    · replace h26 := Int.not_lt.1 (of_decide_eq_false h26)
      refine VC_exit ?_
      refine VE_then_exit (VE_then_exit (VE_block_exit ?_))
      refine VE_then ?_
      refine VC_region ?_
      refine VL_val rfl rfl rfl (yd_field rfl T.fld37_2) ?_
      refine VL_val rfl rfl rfl (yd_load rfl T.one35 (blk_cell (hS.get 3 rfl) rfl)) ?_
      refine VL_val rfl rfl rfl (yd_move rfl) ?_
      refine VL_rel rfl rfl rfl (yr_bslice rfl Try.underlying35 T.e25 rfl (by decide) (by decide) hS) ?_
      clear hS; rintro _ w ⟨b52, rfl, hS⟩
      refine VL_rel rfl rfl rfl (yr_append rfl rfl Try.underlying35 T.e25 rfl (by decide) hS 4 rfl (hS.get 7 rfl) rfl (by intro u hu; simp [Value.cells] at hu; subst hu; rfl) (by omega) (by omega)) ?_
      clear hS; rintro v53 w ⟨hS, hnil⟩
      obtain ⟨db, dc, rfl, hdc⟩ := row_form (hS.get 4 rfl) (.inr (by omega))
      refine VL_val rfl rfl rfl (yd_field rfl T.fld37_2) ?_
      refine VL_store rfl rfl rfl rfl rfl T.one35 rfl hS 3 rfl (by simp) ?_
      clear hS; intro w hS
      have hS := bundle_in (hS.front 5 rfl)
      have hrb : rl.map Value.bool = bl G.length (dm x) := bl_eq hrl (fun i hi => hri i (by omega))
      have hS := hS.sub (η' := _) (List.take_sublist 5 _)
      have hS : St w0 M0 [bundle ((List.range (x + 1)).map (bR (upd rb x b19) dm G.length)), blk b2 37 [.slice none 0 0, .slice none 0 0, .slice none 0 0], blk lb 4 (R.map Value.bool), blk b3 37 [.slice (some ⟨gb, go, none⟩) G.length gc, .slice (some ⟨lb, 0, none⟩) G.length G.length, (.slice (some ⟨db, 0, none⟩) (x + 1) dc)], row (.slice (some ⟨db, 0, none⟩) (x + 1) dc) 25 1 (x + 1) ((List.range (x + 1)).map fun i => .slice (some ⟨(upd rb x b19) i, 0, none⟩) G.length G.length)] w := by
        rw [sl_snoc, ← bR_snoc (r := blk b19 4 (rl.map Value.bool)) (by rw [hrb])]; exact hS
      refine VL_nil ?_
      refine VE_block_normal ?_
      refine VE_then ?_
      refine VC_region ?_
      refine VL_val rfl rfl rfl (yd_add rfl rfl ((x + 1 : Nat) : Int) (by rw [wi64 (by omega) (by omega)]; omega)) ?_
      refine VL_val rfl rfl rfl (yd_move rfl) ?_
      refine VL_nil ?_
      exact VE_round3 (x + 1) _ (upd rb x b19) ⟨rfl, rfl, rfl, rfl, rfl, trivial⟩ ⟨by omega, hS⟩ (by omega)
  · replace h15 := Int.not_lt.1 (of_decide_eq_false h15)
    refine VC_exit ?_
    refine VE_then_exit (VE_then_exit (VE_block_exit ?_))
    refine VE_then ?_
    refine VC_seq ?_
    refine VC_region ?_
    obtain rfl : x = G.length := by omega
    obtain ⟨db, dc, rfl, hdc⟩ := row_form (hS.get 4 rfl) (.inr (by omega))
    refine VL_val rfl rfl rfl (yd_loadn [.slice (some ⟨gb, go, none⟩) G.length gc, .slice (some ⟨lb, 0, none⟩) G.length G.length, .slice (some ⟨db, 0, none⟩) G.length dc] rfl T.agg37 (fun j u hj => by rw [Nat.zero_add]; exact blk_cell (hS.get 3 rfl) hj)) ?_
    refine VL_storeN (cs := [.slice (some ⟨gb, go, none⟩) G.length gc, .slice (some ⟨lb, 0, none⟩) G.length G.length, .slice (some ⟨db, 0, none⟩) G.length dc]) rfl rfl rfl rfl rfl T.agg37 (by intro u hu; simp at hu; rcases hu with rfl | rfl | rfl <;> rfl) hS 1 rfl (by simp) ?_
    clear hS; intro w hS
    refine VL_nil ?_
    refine VE_then ?_
    refine VC_ret ?_
    refine VE_ret1A (cs := [_, _, _]) rfl rfl T.agg37 (hS.get 1 rfl) ?_
    refine ⟨⟨lb, db, dc, rb, lv, dm⟩, rfl, ⟨hlv, hdm⟩, ?_⟩
    have hS := hS.sub (η' := [_, _, _]) (List.Sublist.cons_cons _ (List.Sublist.cons _ (List.Sublist.cons_cons _ (List.Sublist.cons _ (List.Sublist.cons_cons _ (List.nil_sublist _))))))
    refine St_bundle ?_
    have e : R.map Value.bool = bl G.length lv := bl_eq hRl fun y hy => by
      have h1 := hIR.2 y hy
      have h2 := hlv y
      rw [Bool.eq_iff_iff, h1, h2]; exact ⟨fun h => h.2, fun h => ⟨by omega, h⟩⟩
    rw [e] at hS; exact hS

end Go.Proofs.Ytmoooaaiohplhac
