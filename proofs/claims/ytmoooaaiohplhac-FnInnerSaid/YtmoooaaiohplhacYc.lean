/- Forward, Reducible; whole. -/
import Derived.Test.YtmoooaaiohplhacYb
namespace Go.Proofs.Ytmoooaaiohplhac
open Go Go.V
set_option linter.unusedVariables false
set_option maxRecDepth 100000

theorem T.e29 : ElemT Try.prog 29 1 24 (.slice none 0 0) := ElemT.of (by kernel_rfl)
theorem T.fld37_0 : FieldT Try.prog 37 0 0 := FieldT.of (by kernel_rfl)
theorem T.one22 : OneT Try.prog 22 := ⟨⟨_, Try.underlying22, rfl⟩, by kernel_rfl⟩
theorem T.sz25 : (Try.prog.info? 25).map (·.size) = some 1 := by kernel_rfl
theorem T.call13 : CallT Try.prog 13 := CallT.of Try.func13 (by kernel_rfl) (by kernel_rfl)
theorem T.call31 : CallT Try.prog 31 := CallT.of Try.func31 (by kernel_rfl) (by kernel_rfl)
theorem T.call32 : CallT Try.prog 32 := CallT.of Try.func32 (by kernel_rfl) (by kernel_rfl)
theorem T.call33 : CallT Try.prog 33 := CallT.of Try.func33 (by kernel_rfl) (by kernel_rfl)
theorem T.call41 : CallT Try.prog 41 := CallT.of Try.func41 (by kernel_rfl) (by kernel_rfl)
theorem T.call42 : CallT Try.prog 42 := CallT.of Try.func42 (by kernel_rfl) (by kernel_rfl)

open Go.PL
section
variable {P : Program} {σ : List (Nat × Value)} {w w0 : World} {M : Nat → Prop} {η : List Res} {ops : Array Oper} {Q : Exit → Act → World → Prop} {n : Nat} {ds : List Deferred} {o : Oper}
theorem VS_storeN {S : World → Prop} {fuel i : Nat} {listed : Array Bool} {t bt : TypeId} {x y : Operand} {b off : Nat} {cs vs : List Value} (hi : ops[i]? = some o) (hw : ∀ a, Fr a n ds σ → Region.wanted o (yielded ops a.tmps) = true) (L' : Array Bool) (hL : listed.setIfInBounds i true = L')
    (hop : o.op = .store t x y) (hd : o.dst = none) (hx : ev σ x = some (.pointer (some ⟨b, off, none⟩))) (hy : ev σ y = some (.agg cs.toArray)) (ht : AggT P t cs.length) (h1 : ∀ u ∈ cs, u.oneCell' = true)
    (hS : St w0 M η w) (k : Nat) (hk : η[k]? = some (blk b bt vs)) (hl : off + cs.length ≤ vs.length)
    (h : ∀ w, St w0 M (η.set k (blk b bt (vs.take off ++ cs ++ vs.drop (off + cs.length)))) w → VA P ops Q S fuel L' n ds σ w) : VS P ops Q S fuel listed i n ds σ w := by
  obtain ⟨od, oop, oty, opos, oaf, og⟩ := o
  cases hop; cases hd
  have hb : w.heap[b]? = some (.cells vs.toArray bt (0, 0)) := hS.get k hk
  have hr := run_storeCells_at P b off bt cs 0 vs.toArray w hb (by simpa using hl) h1
  simp only [Nat.add_zero] at hr
  refine VS_unit hi hw L' hL rfl (w' := w.setRow b (vs.take off ++ cs ++ vs.drop (off + cs.length)).toArray) (fun ρ hρ => ?_) (h _ ?_)
  · simp [execOp, hρ x _ hx, hρ y _ hy, Instr.storeAt, Instr.sureAddr, storeVar, run_sizeOf ht.sz, Value.cells, hr]
  · exact hS.upd (w' := w.setRow b (vs.take off ++ cs ++ vs.drop (off + cs.length)).toArray) k hk ⟨rfl, rfl, rfl, by simp [World.setRow], fun q _ hq => setRow_other w b q _ hq⟩ (r' := blk b bt (vs.take off ++ cs ++ vs.drop (off + cs.length))) (setRow_heap w b _ _ bt _ hb) (fun _ hc => .inl hc)
end
/-- A way that Forward leaves. -/
def fwp (s : SRep) (x y : Nat) : Bool := s.lv x && !s.dm y x
def fwS (G : Graph) (s : SRep) (i : Nat) : List Nat := G[i]!.filter (fwp s i)
def fwG (G : Graph) (s : SRep) : Graph := (List.range G.length).map (fwS G s)
theorem fwG_len {G : Graph} {s : SRep} : (fwG G s).length = G.length := by simp [fwG]
theorem fwG_get {G : Graph} {s : SRep} {i : Nat} (hi : i < G.length) : (fwG G s)[i]! = fwS G s i := by simp [fwG, hi]
theorem fwG_ed {G : Graph} {s : SRep} (hok : SOK s G) {a b : Nat} : Ed (fwG G s) a b ↔ FE G a b ∧ Rc G 0 a := by
  unfold Ed
  rw [fwG_len]
  constructor
  · rintro ⟨h1, h2⟩
    rw [fwG_get h1, fwS, List.mem_filter, fwp, Bool.and_eq_true, Bool.not_eq_true'] at h2
    exact ⟨⟨⟨h1, h2.1⟩, fun h => by have := (hok.dm b a).2 h; rw [h2.2.2] at this; cases this⟩, (hok.lv a).1 h2.2.1⟩
  · rintro ⟨⟨⟨h1, h2⟩, h3⟩, h4⟩
    refine ⟨h1, ?_⟩
    rw [fwG_get h1, fwS, List.mem_filter, fwp, Bool.and_eq_true, Bool.not_eq_true']
    refine ⟨h2, (hok.lv a).2 h4, ?_⟩
    cases e : s.dm b a with
    | false => rfl
    | true => exact absurd ((hok.dm b a).1 e) h3
theorem fwG_gd {G : Graph} {s : SRep} (hg : Gd G) (hok : SOK s G) : Gd (fwG G s) := by
  refine ⟨by rw [fwG_len]; exact hg.pos, by rw [fwG_len]; exact hg.le, fun i hi => ?_, fun i hi j hj => ?_⟩
  · rw [fwG_len] at hi; rw [fwG_get hi]; exact Nat.le_trans (List.length_filter_le _ _) (hg.row i hi)
  · rw [fwG_len]; exact ((fwG_ed hok).1 (Ed.get hi hj)).1.1.lt hg
theorem fwG_red {G : Graph} {s : SRep} (hok : SOK s G) (hw : ∀ x, x < G.length → Rc G 0 x) : (∃ x y, Ed (fwG G s) x y ∧ Rch (fwG G s) (-1) y x) ↔ ¬ Red G := by
  have k1 : ∀ {a b}, Rch (fwG G s) (-1) a b → FR G a b := by
    intro a b h
    induction h with
    | refl => exact .refl _
    | step _ e _ ih => exact .step ih ((fwG_ed hok).1 e).1
  have k2 : ∀ {a b}, FR G a b → Rch (fwG G s) (-1) a b := by
    intro a b h
    induction h with
    | refl => exact .refl _
    | step _ e ih => exact .step ih ((fwG_ed hok).2 ⟨e, hw _ e.1.1⟩) (by omega)
  constructor
  · rintro ⟨x, y, e, r⟩ hr
    exact hr x y ((fwG_ed hok).1 e).1 (k1 r)
  · intro hn
    refine Classical.byContradiction fun hc => hn fun x y e r => hc ⟨x, y, (fwG_ed hok).2 ⟨e, hw _ e.1.1⟩, k2 r⟩
theorem fw_snoc {s : SRep} {k : Nat} {l : List Nat} {j : Nat} (hj : j < l.length) : (l.take (j + 1)).filter (fwp s k) = (l.take j).filter (fwp s k) ++ if fwp s k l[j]! = true then [l[j]!] else [] := by
  rw [take_snoc' hj, List.filter_append]
  congr 1
  by_cases h : fwp s k l[j]! = true
  · rw [if_pos h, List.filter_cons_of_pos h, List.filter_nil]
  · rw [if_neg h, List.filter_cons_of_neg h, List.filter_nil]
theorem fw_len {s : SRep} {k j : Nat} {l : List Nat} : ((l.take j).filter (fwp s k)).length ≤ l.length := Nat.le_trans (List.length_filter_le _ _) (by rw [List.length_take]; omega)

set_option maxHeartbeats 1000000 in
theorem forward_ok {w0 : World} {u v : Value} {s : SRep} {G : Graph} (hA : ShapeAt w0 u v s G) (hg : Gd G) : Calls Try.prog 42 #[u] w0 (Ret fun r w' => GraphAt w' r (fwG G s) ∧ St w0 M0 [] w') := by
  obtain ⟨rfl, hG, hok, hlive, hdr, hdc⟩ := hA
  obtain ⟨ga, gc, gb, go, rfl, hga, hrow⟩ := hG
  have hpos := hg.pos
  obtain rfl := hga (by omega)
  have hle := hg.le
  have hS := St.refl w0
  refine V_enter (N := 52) Try.func42 rfl Try.ntmps42 rfl ?_
  refine VC.sub (τ := [(0, _)]) ⟨rfl, trivial⟩ ?_
  refine VC_seq ?_
  refine VC_region ?_
  refine VL_box rfl rfl rfl rfl rfl hS ?_
  clear hS; intro b1 w hS
  refine VL_val rfl rfl rfl (yd_assign rfl) ?_
  refine VL_nil ?_
  refine VE_then ?_
  refine VC_seq ?_
  refine VC_region ?_
  refine VL_rel rfl rfl rfl (yr_bslice0 Try.underlying22 T.e29 hS) ?_
  clear hS; rintro _ w ⟨b9, rfl, hS⟩
  have hS := bundle0 hS
  refine VL_val rfl rfl rfl (yd_assign rfl) ?_
  refine VL_nil ?_
  refine VE_then ?_
  refine VC_seq ?_
  refine VC_seq ?_
  refine VC_region ?_
  refine VL_val rfl rfl rfl (yd_field rfl T.fld37_0) ?_
  refine VL_val rfl rfl rfl (yd_load rfl T.one22 (blk_cell (hS.get 1 rfl) rfl)) ?_
  refine VL_val rfl rfl rfl (yd_len rfl Try.underlying22) ?_
  refine VL_val rfl rfl rfl (yd_move rfl) ?_
  refine VL_nil ?_
  refine VE_then ?_
  refine VC_block ?_
  refine VC_loop3 [1, 2, 11, 12] [_, _, _, _] rfl (fun (k : Nat) (r : Value) (rv : Nat → Value) => [(13, .int .i64 ((k : Nat) : Int)), (3, r)]) (fun (k : Nat) (r : Value) (rv : Nat → Value) w => k ≤ G.length ∧ St w0 M0 [bundle (gRows k rv (fwS G s)), blk b1 37 [.slice (some ⟨gb, go, none⟩) G.length gc, s.live G, s.dom G], row r 29 1 k ((List.range k).map rv)] w) (fun (k : Nat) (r : Value) (rv : Nat → Value) => G.length - k) 0 _ (fun _ => .slice none 0 0) ⟨rfl, rfl, trivial⟩ (⟨Nat.zero_le _, hS⟩) ?_
  clear hS; rintro k r rv w ⟨hk, hS⟩
  refine VC_seq ?_
  refine VC_region ?_
  refine VL_val rfl rfl rfl (yd_lss rfl rfl) ?_
  refine VL_nil ?_
  refine VE_then ?_
  refine VC_seq ?_
  refine VC_cond rfl (fun h14 => ?_) (fun h14 => ?_)
  · replace h14 := of_decide_eq_true h14
    refine VC_skip ?_
    refine VE_then ?_
    refine VC_seq ?_
    refine VC_block ?_
    refine VC_seq ?_
    refine VC_region ?_
    have hkl : k < G.length := by omega
    obtain ⟨ra, rc, rb, ro, hc, hra, hcs⟩ := hrow k hkl
    have hr4 := hg.row k hkl
    refine VL_val rfl rfl rfl (yd_move rfl) ?_
    refine VL_val rfl rfl rfl (yd_index1 rfl rfl Try.underlying22 T.sz29 (by omega)) ?_
    refine VL_val rfl rfl rfl (yd_load rfl T.one29 (hS.cell0 hc)) ?_
    refine VL_val rfl rfl rfl (yd_assign rfl) ?_
    refine VL_val rfl rfl rfl (yd_assign rfl) ?_
    refine VL_nil ?_
    refine VE_then ?_
    refine VC_seq ?_
    refine VC_region ?_
    refine VL_rel rfl rfl rfl (yr_bslice0 Try.underlying29 T.e3 hS) ?_
    clear hS; rintro _ w ⟨b18, rfl, hS⟩
    refine VL_val rfl rfl rfl (yd_assign rfl) ?_
    refine VL_nil ?_
    refine VE_then ?_
    refine VC_seq ?_
    refine VC_seq ?_
    refine VC_region ?_
    refine VL_val rfl rfl rfl (yd_move rfl) ?_
    refine VL_val rfl rfl rfl (yd_len rfl Try.underlying29) ?_
    refine VL_val rfl rfl rfl (yd_move rfl) ?_
    refine VL_nil ?_
    refine VE_then ?_
    refine VC_block ?_
    refine VC_loop2 [1, 2, 3, 4, 5, 11, 12, 13, 14, 15, 16, 17, 18, 19, 20] [_, _, _, _, _, _, _, _, _, _, _, _, _, _, _] rfl (fun (j : Nat) (lf : Value) => [(21, .int .i64 ((j : Nat) : Int)), (6, lf)]) (fun (j : Nat) (lf : Value) w => j ≤ G[k]!.length ∧ lf ≠ .slice none 0 0 ∧ St w0 M0 [bundle (gRows k rv (fwS G s)), blk b1 37 [.slice (some ⟨gb, go, none⟩) G.length gc, s.live G, s.dom G], row r 29 1 k ((List.range k).map rv), row lf 3 1 ((G[k]!.take j).filter (fwp s k)).length ((zL ((G[k]!.take j).filter (fwp s k))).map (Value.int .i64))] w) (fun (j : Nat) (lf : Value) => G[k]!.length - j) 0 _ ⟨rfl, rfl, trivial⟩ (⟨Nat.zero_le _, by simp, hS⟩) ?_
    clear hS; rintro j lf w ⟨hj, hlf, hS⟩
    have hfl := fw_len (s := s) (k := k) (j := j) (l := G[k]!)
    refine VC_seq ?_
    refine VC_region ?_
    refine VL_val rfl rfl rfl (yd_lss rfl rfl) ?_
    refine VL_nil ?_
    refine VE_then ?_
    refine VC_seq ?_
    refine VC_cond rfl (fun h22 => ?_) (fun h22 => ?_)
    · replace h22 := of_decide_eq_true h22
      refine VC_skip ?_
      refine VE_then ?_
      refine VC_seq ?_
      refine VC_block ?_
      refine VC_seq ?_
      refine VC_region ?_
      obtain rfl := hra (by omega)
      have hjl : j < G[k]!.length := by omega
      have hto := hg.lt k hkl j hjl
      have hsn := fw_snoc (s := s) (k := k) hjl
      refine VL_val rfl rfl rfl (yd_index1 rfl rfl Try.underlying29 T.sz3 (by omega)) ?_
      refine VL_val rfl rfl rfl (yd_load rfl T.one3 (hS.cell0 (hcs j hjl))) ?_
      refine VL_val rfl rfl rfl (yd_assign rfl) ?_
      refine VL_nil ?_
      refine VE_then ?_
      refine VC_seq ?_
      refine VC_region ?_
      refine VL_val rfl rfl rfl (yd_field rfl T.fld37_1) ?_
      refine VL_val rfl rfl rfl (yd_load rfl T.one25 (blk_cell (hS.get 1 rfl) rfl)) ?_
      refine VL_val rfl rfl rfl (yd_move rfl) ?_
      refine VL_val rfl rfl rfl (yd_index0 rfl rfl Try.underlying25 T.sz4 (by omega)) ?_
      refine VL_val rfl rfl rfl (yd_load rfl T.one4 (hS.cell0 (hlive k hkl))) ?_
      refine VL_val rfl rfl rfl (yd_move rfl) ?_
      refine VL_split 30 rfl (fun h30 => ?_) (fun h30 => ?_)
      · skip
        refine VL_yes rfl rfl rfl rfl ?_
        refine VL_val rfl rfl rfl (yd_field rfl T.fld37_2) ?_
        refine VL_yes rfl rfl rfl rfl ?_
        refine VL_val rfl rfl rfl (yd_load rfl T.one35 (blk_cell (hS.get 1 rfl) rfl)) ?_
        refine VL_yes rfl rfl rfl rfl ?_
        refine VL_val rfl rfl rfl (yd_move rfl) ?_
        refine VL_yes rfl rfl rfl rfl ?_
        refine VL_val rfl rfl rfl (yd_index0 rfl rfl Try.underlying35 T.sz25 (by omega)) ?_
        refine VL_yes rfl rfl rfl rfl ?_
        refine VL_val rfl rfl rfl (yd_load rfl T.one25 (hS.cell0 (hdr _ hto))) ?_
        refine VL_yes rfl rfl rfl rfl ?_
        refine VL_val rfl rfl rfl (yd_move rfl) ?_
        refine VL_yes rfl rfl rfl rfl ?_
        refine VL_val rfl rfl rfl (yd_index0 rfl rfl Try.underlying25 T.sz4 (by omega)) ?_
        refine VL_yes rfl rfl rfl rfl ?_
        refine VL_val rfl rfl rfl (yd_load rfl T.one4 (hS.cell0 (hdc _ k hto hkl))) ?_
        refine VL_yes rfl rfl rfl rfl ?_
        refine VL_val rfl rfl rfl (yd_not rfl) ?_
        refine VL_val rfl rfl rfl (yd_pick_t rfl rfl) ?_
        refine VL_nil ?_
        refine VE_then ?_
        refine VC_cond rfl (fun h40 => ?_) (fun h40 => ?_)
        · replace h40 := V.nt h40
          rw [if_pos (by unfold fwp; rw [h30, h40]; rfl)] at hsn
          have hst := hsn
          refine VC_region ?_
          refine VL_val rfl rfl rfl (yd_move rfl) ?_
          refine VL_val rfl rfl rfl (yd_move rfl) ?_
          refine VL_rel rfl rfl rfl (yr_bslice rfl Try.underlying29 T.e3 rfl (by decide) (by decide) hS) ?_
          clear hS; rintro _ w ⟨b43, rfl, hS⟩
          refine VL_rel rfl rfl rfl (yr_append rfl rfl Try.underlying29 T.e3 rfl (by decide) hS 3 rfl (hS.get 4 rfl) rfl (by intro u hu; simp [Value.cells] at hu; subst hu; rfl) (by omega) (by omega)) ?_
          clear hS; rintro v44 w ⟨hS, hnil⟩
          have hS := hS.sub (η' := _) (List.take_sublist 4 _)
          refine VL_val rfl rfl rfl (yd_assign rfl) ?_
          refine VL_nil ?_
          refine VE_block_normal ?_
          refine VE_then ?_
          refine VC_region ?_
          refine VL_val rfl rfl rfl (yd_add rfl rfl ((j + 1 : Nat) : Int) (by rw [wi64 (by omega) (by omega)]; omega)) ?_
          refine VL_val rfl rfl rfl (yd_move rfl) ?_
          refine VL_nil ?_
          first
          | (refine VE_round2 (j + 1) v44 ⟨rfl, rfl, rfl, rfl, rfl, rfl, rfl, rfl, rfl, rfl, rfl, rfl, rfl, rfl, rfl, rfl, rfl, trivial⟩ ⟨by omega, fun h => hlf (hnil.1 h).1, ?_⟩ (by omega)
             have e : (zL ((G[k]!.take (j + 1)).filter (fwp s k))).map (Value.int .i64) = (zL ((G[k]!.take j).filter (fwp s k))).map (Value.int .i64) ++ (Value.int .i64 ((G[k]![j]! : Nat) : Int)).cells.toList := by rw [hst]; simp [zL, Value.cells]
             rw [e, hst, List.length_append]; exact hS)
          | (refine VE_round2 (j + 1) lf ⟨rfl, rfl, rfl, rfl, rfl, rfl, rfl, rfl, rfl, rfl, rfl, rfl, rfl, rfl, rfl, rfl, rfl, trivial⟩ ⟨by omega, hlf, ?_⟩ (by omega)
             rw [hsk]; exact hS)
        · replace h40 := V.nf h40
          rw [if_neg (by unfold fwp; rw [h30, h40]; simp), List.append_nil] at hsn
          have hsk := hsn
          refine VC_skip ?_
          refine VE_block_normal ?_
          refine VE_then ?_
          refine VC_region ?_
          refine VL_val rfl rfl rfl (yd_add rfl rfl ((j + 1 : Nat) : Int) (by rw [wi64 (by omega) (by omega)]; omega)) ?_
          refine VL_val rfl rfl rfl (yd_move rfl) ?_
          refine VL_nil ?_
          first
          | (refine VE_round2 (j + 1) v44 ⟨rfl, rfl, rfl, rfl, rfl, rfl, rfl, rfl, rfl, rfl, rfl, rfl, rfl, rfl, rfl, rfl, rfl, trivial⟩ ⟨by omega, fun h => hlf (hnil.1 h).1, ?_⟩ (by omega)
             have e : (zL ((G[k]!.take (j + 1)).filter (fwp s k))).map (Value.int .i64) = (zL ((G[k]!.take j).filter (fwp s k))).map (Value.int .i64) ++ (Value.int .i64 ((G[k]![j]! : Nat) : Int)).cells.toList := by rw [hst]; simp [zL, Value.cells]
             rw [e, hst, List.length_append]; exact hS)
          | (refine VE_round2 (j + 1) lf ⟨rfl, rfl, rfl, rfl, rfl, rfl, rfl, rfl, rfl, rfl, rfl, rfl, rfl, rfl, rfl, rfl, rfl, trivial⟩ ⟨by omega, hlf, ?_⟩ (by omega)
             rw [hsk]; exact hS)
      · skip
        rw [if_neg (by unfold fwp; rw [h30]; simp), List.append_nil] at hsn
        have hsk := hsn
        refine VL_no rfl rfl rfl rfl rfl rfl rfl ?_
        refine VL_no rfl rfl rfl rfl rfl rfl rfl ?_
        refine VL_no rfl rfl rfl rfl rfl rfl rfl ?_
        refine VL_no rfl rfl rfl rfl rfl rfl rfl ?_
        refine VL_no rfl rfl rfl rfl rfl rfl rfl ?_
        refine VL_no rfl rfl rfl rfl rfl rfl rfl ?_
        refine VL_no rfl rfl rfl rfl rfl rfl rfl ?_
        refine VL_no rfl rfl rfl rfl rfl rfl rfl ?_
        refine VL_no rfl rfl rfl rfl rfl rfl rfl ?_
        refine VL_val rfl rfl rfl (yd_pick_f rfl rfl) ?_
        refine VL_nil ?_
        refine VE_then ?_
        refine VC_cond_f rfl ?_
        refine VC_skip ?_
        refine VE_block_normal ?_
        refine VE_then ?_
        refine VC_region ?_
        refine VL_val rfl rfl rfl (yd_add rfl rfl ((j + 1 : Nat) : Int) (by rw [wi64 (by omega) (by omega)]; omega)) ?_
        refine VL_val rfl rfl rfl (yd_move rfl) ?_
        refine VL_nil ?_
        first
        | (refine VE_round2 (j + 1) v44 ⟨rfl, rfl, rfl, rfl, rfl, rfl, rfl, rfl, rfl, rfl, rfl, rfl, rfl, rfl, rfl, rfl, rfl, trivial⟩ ⟨by omega, fun h => hlf (hnil.1 h).1, ?_⟩ (by omega)
           have e : (zL ((G[k]!.take (j + 1)).filter (fwp s k))).map (Value.int .i64) = (zL ((G[k]!.take j).filter (fwp s k))).map (Value.int .i64) ++ (Value.int .i64 ((G[k]![j]! : Nat) : Int)).cells.toList := by rw [hst]; simp [zL, Value.cells]
           rw [e, hst, List.length_append]; exact hS)
        | (refine VE_round2 (j + 1) lf ⟨rfl, rfl, rfl, rfl, rfl, rfl, rfl, rfl, rfl, rfl, rfl, rfl, rfl, rfl, rfl, rfl, rfl, trivial⟩ ⟨by omega, hlf, ?_⟩ (by omega)
           rw [hsk]; exact hS)
    · replace h22 := Int.not_lt.1 (of_decide_eq_false h22)
      refine VC_exit ?_
      refine VE_then_exit (VE_then_exit (VE_block_exit ?_))
      refine VE_then ?_
      refine VC_region ?_
      obtain rfl : j = G[k]!.length := by omega
      rw [List.take_length] at hS
      obtain ⟨nb, nc, rfl, -⟩ := row_form (hS.get 3 rfl) (.inl hlf)
      refine VL_val rfl rfl rfl (yd_move rfl) ?_
      refine VL_val rfl rfl rfl (yd_move rfl) ?_
      refine VL_rel rfl rfl rfl (yr_bslice rfl Try.underlying22 T.e29 rfl (by decide) (by decide) hS) ?_
      clear hS; rintro _ w ⟨b48, rfl, hS⟩
      refine VL_rel rfl rfl rfl (yr_append rfl rfl Try.underlying22 T.e29 rfl (by decide) hS 2 rfl (hS.get 4 rfl) rfl (by intro u hu; simp [Value.cells] at hu; subst hu; rfl) (by omega) (by omega)) ?_
      clear hS; rintro v49 w ⟨hS, -⟩
      have hS := bundle_in (hS.front 3 rfl)
      have hS := hS.sub (η' := _) (List.take_sublist 3 _)
      refine VL_val rfl rfl rfl (yd_assign rfl) ?_
      refine VL_nil ?_
      refine VE_block_normal ?_
      refine VE_then ?_
      refine VC_region ?_
      refine VL_val rfl rfl rfl (yd_add rfl rfl ((k + 1 : Nat) : Int) (by rw [wi64 (by omega) (by omega)]; omega)) ?_
      refine VL_val rfl rfl rfl (yd_move rfl) ?_
      refine VL_nil ?_
      refine VE_round3 (k + 1) _ (upd rv k (.slice (some ⟨nb, 0, none⟩) (fwS G s k).length nc)) ⟨rfl, rfl, rfl, rfl, rfl, rfl, trivial⟩ ⟨by omega, ?_⟩ (by omega)
      rw [rv_snoc, ← gRows_snoc rfl]; exact hS
  · replace h14 := Int.not_lt.1 (of_decide_eq_false h14)
    refine VC_exit ?_
    refine VE_then_exit (VE_then_exit (VE_block_exit ?_))
    refine VE_then ?_
    refine VC_seq ?_
    refine VC_region ?_
    refine VL_val rfl rfl rfl (yd_move rfl) ?_
    refine VL_val rfl rfl rfl (yd_assign rfl) ?_
    refine VL_nil ?_
    refine VE_then ?_
    refine VC_ret ?_
    refine VE_ret1 (rfl) rfl ?_
    obtain rfl : k = G.length := by omega
    obtain ⟨ob, oc, rfl, -⟩ := row_form (hS.get 2 rfl) (.inr (by omega))
    have h0 := hS.get 0 rfl
    exact ⟨graph_of_g fwG_len (fun i hi => fwG_get hi) (fun i hi => h0.1 _ (List.mem_map.2 ⟨i, by simpa using hi, rfl⟩)) (hS.get 2 rfl), hS.sub (List.nil_sublist _)⟩

theorem reducible_ok {w0 : World} {u v : Value} {s : SRep} {G : Graph} (hA : ShapeAt w0 u v s G) (hg : Gd G) (hw : ∀ x, x < G.length → Rc G 0 x) : Calls Try.prog 33 #[u] w0 (Ret fun r w' => ∃ b, r = .bool b ∧ (b = true ↔ Red G) ∧ St w0 M0 [] w') := by
  have hA0 := hA
  obtain ⟨rfl, hG, hok, hlive, hdr, hdc⟩ := hA
  obtain ⟨ga, gc, gb, go, rfl, hga, hrow⟩ := hG
  have hpos := hg.pos
  obtain rfl := hga (by omega)
  have hle := hg.le
  have hS := St.refl w0
  refine V_enter (N := 7) Try.func33 rfl Try.ntmps33 rfl ?_
  refine VC.sub (τ := [(0, _)]) ⟨rfl, trivial⟩ ?_
  refine VC_seq ?_
  refine VC_region ?_
  refine VL_box rfl rfl rfl rfl rfl hS ?_
  clear hS; intro b1 w hS
  refine VL_val rfl rfl rfl (yd_assign rfl) ?_
  refine VL_nil ?_
  refine VE_then ?_
  refine VC_seq ?_
  refine VC_region ?_
  refine VL_val rfl rfl rfl (yd_loadn [.slice (some ⟨gb, go, none⟩) G.length gc, s.live G, s.dom G] rfl T.agg37 (fun j u hj => by rw [Nat.zero_add]; exact blk_cell (hS.get 0 rfl) hj)) ?_
  refine VL_call rfl rfl rfl rfl T.call42 rfl (forward_ok (hS.shape hA0) hg) ?_
  rintro u4 w ⟨hG2, hR⟩
  have hS := hS.call0 hR
  refine VL_call rfl rfl rfl rfl T.call41 rfl (circle_ok hG2 (fwG_gd hg hok)) ?_
  rintro _ w ⟨c, rfl, hR, hc⟩
  have hS := hS.call0 hR
  rw [fwG_red hok hw] at hc
  refine VL_val rfl rfl rfl (yd_not rfl) ?_
  refine VL_val rfl rfl rfl (yd_assign rfl) ?_
  refine VL_nil ?_
  refine VE_then ?_
  refine VC_ret ?_
  refine VE_ret1 (rfl) rfl ?_
  refine ⟨_, rfl, ?_, hS.sub (List.nil_sublist _)⟩
  cases c with
  | true => exact ⟨fun h => (by cases h), fun h => absurd h (hc.1 rfl)⟩
  | false => exact ⟨fun _ => Classical.byContradiction fun h => (by have := hc.2 h; cases this), fun _ => rfl⟩

set_option maxHeartbeats 1000000 in
theorem lwhole_ok {w0 : World} {v : Value} {G0 : List (List Int)} (hR : RowsAt w0 v G0) (hl : G0.length ≤ 2147483647) : Calls Try.prog 23 #[v] w0 (Ret fun u w' => ∃ (c1 c2 c3 : Value) (ok : Bool) (η : List Res), u = .tuple #[.agg #[c1, c2, c3], .bool ok] ∧ (∀ x ∈ [c1, c2, c3], x.oneCell' = true) ∧ St w0 M0 η w' ∧ (ok = true → ∃ (G : Graph) (s : SRep), GraphAt w0 v G ∧ Gd G ∧ SOK s G ∧ c1 = v ∧ c2 = s.live G ∧ c3 = s.dom G ∧ (∀ x, x < G.length → Rc G 0 x) ∧ Red G ∧ η = [shapeR s G])) := by
  have hS := St.refl w0
  refine V_enter (N := 18) Try.func23 rfl Try.ntmps23 rfl ?_
  refine VC.sub (τ := [(0, _)]) ⟨rfl, trivial⟩ ?_
  refine VC_seq ?_
  refine VC_region ?_
  refine VL_alloc rfl rfl rfl rfl T.e37 hS ?_
  clear hS; intro b2 w hS
  refine VL_val rfl rfl rfl (yd_assign rfl) ?_
  refine VL_nil ?_
  refine VE_then ?_
  refine VC_seq ?_
  refine VC_seq ?_
  refine VC_region ?_
  refine VL_val rfl rfl rfl (yd_move rfl) ?_
  refine VL_call rfl rfl rfl rfl T.call13 rfl (good_ok (hS.rows hR) hl) ?_
  rintro _ _ ⟨rfl, bg, rfl, hgi⟩
  refine VL_val rfl rfl rfl (yd_not rfl) ?_
  refine VL_nil ?_
  refine VE_then ?_
  refine VC_cond rfl (fun h7 => ?_) (fun h7 => ?_)
  · replace h7 := V.nt h7
    refine VC_seq ?_
    refine VC_region ?_
    refine VL_val rfl rfl rfl (yd_build (cells := #[.slice none 0 0, .slice none 0 0, .slice none 0 0]) T.st37 (vs := []) rfl rfl) ?_
    refine VL_storeN (cs := [.slice none 0 0, .slice none 0 0, .slice none 0 0]) rfl rfl rfl rfl rfl T.agg37 (by intro u hu; simp at hu; subst hu; rfl) hS 0 rfl (by simp [Value.cells]) ?_
    clear hS; intro w hS
    refine VL_val rfl rfl rfl (yd_assign rfl) ?_
    refine VL_nil ?_
    refine VE_then ?_
    refine VC_ret ?_
    refine VE_then_ret (?_)
    refine VE_retCT (cs := [_, _, _]) rfl rfl rfl T.agg37 (hS.get 0 rfl) ?_
    exact ⟨_, _, _, false, [], rfl, by intro u hu; simp at hu; subst hu; rfl, hS.sub (List.nil_sublist _), fun h => by cases h⟩
  · replace h7 := V.nf h7
    obtain ⟨G, hG, hg, hGl⟩ := graph_of_rows hR (hgi.1 h7)
    have hle := hg.le
    have hpos := hg.pos
    have hG0 := hG
    obtain ⟨ga, gc, gb, go, rfl, hga, hrow⟩ := hG
    obtain rfl := hga (by omega)
    refine VC_skip ?_
    refine VE_then ?_
    refine VC_seq ?_
    refine VC_region ?_
    refine VL_val rfl rfl rfl (yd_move rfl) ?_
    refine VL_call rfl rfl rfl rfl T.call31 rfl (of_ok (hS.graph hG0) hg) ?_
    rintro _ w ⟨s, rfl, hok, hR2⟩
    have hS := hS.call0 hR2
    refine VL_alloc rfl rfl rfl rfl T.e37 hS ?_
    clear hS; intro b4 w hS
    refine VL_storeN (cs := [.slice (some ⟨gb, go, none⟩) G.length gc, s.live G, s.dom G]) rfl rfl rfl rfl rfl T.agg37 (by intro u hu; simp at hu; rcases hu with rfl | rfl | rfl <;> rfl) hS 2 rfl (by simp [Value.cells]) ?_
    clear hS; intro w hS
    have hS : St w0 M0 [blk b2 37 [.slice none 0 0, .slice none 0 0, .slice none 0 0], shapeR s G, blk b4 37 [.slice (some ⟨gb, go, none⟩) G.length gc, s.live G, s.dom G]] w := hS
    refine VL_nil ?_
    refine VE_then ?_
    refine VC_seq ?_
    refine VC_drawS (fun w => (blk b4 37 [.slice (some ⟨gb, go, none⟩) G.length gc, s.live G, s.dom G]).holds w) T.mixed hS ?_
    clear hS; intro w hS
    refine VA_take (i := 0) rfl rfl rfl rfl (by kernel_rfl) (by kernel_rfl) (by kernel_rfl) #[true, false, false, false, false, false, false, false, false] (by kernel_rfl) (fun _ _ _ _ h => h) (fun w hC => yd_loadn [.slice (some ⟨gb, go, none⟩) G.length gc, s.live G, s.dom G] rfl T.agg37 (fun j u hj => by rw [Nat.zero_add]; exact blk_cell hC hj)) ?_
    refine VA_take (i := 1) rfl rfl rfl rfl (by kernel_rfl) (by kernel_rfl) (by kernel_rfl) #[true, true, false, false, false, false, false, false, false] (by kernel_rfl) (fun _ _ _ _ h => h) (fun w hC => yd_loadn [.slice (some ⟨gb, go, none⟩) G.length gc, s.live G, s.dom G] rfl T.agg37 (fun j u hj => by rw [Nat.zero_add]; exact blk_cell hC hj)) ?_
    refine VA_only (i := 2) (by kernel_rfl) (hS.get 2 rfl) ?_
    refine VS_call rfl (wanted_none rfl) #[true, true, true, false, false, false, false, false, false] (by kernel_rfl) rfl rfl rfl T.call32 rfl (shWhole_ok (shapeAt (hS.graph hG0) hok (hS.get 1 rfl)) hg) ?_
    rintro _ w ⟨bw, rfl, hbw, hR3⟩
    have hS := hS.call0 hR3
    refine VA_take (i := 3) rfl rfl rfl rfl (by kernel_rfl) (by kernel_rfl) (by kernel_rfl) #[true, true, true, true, false, false, false, false, false] (by kernel_rfl) (fun _ _ _ _ h => h) (fun w hC => yd_move rfl) ?_
    refine VA_split 14 rfl (fun h14 => ?_) (fun h14 => ?_)
    · skip
      have hw := hbw.1 h14
      refine VA_takeG (i := 4) rfl rfl rfl rfl rfl rfl rfl (by kernel_rfl) (by kernel_rfl) (by kernel_rfl) #[true, true, true, true, true, false, false, false, false] (by kernel_rfl) (fun _ _ _ _ h => h) (fun w hC => yd_loadn [.slice (some ⟨gb, go, none⟩) G.length gc, s.live G, s.dom G] rfl T.agg37 (fun j u hj => by rw [Nat.zero_add]; exact blk_cell hC hj)) ?_
      refine VA_only (i := 5) (by kernel_rfl) (hS.get 2 rfl) ?_
      refine VS_call rfl (wanted_yes rfl rfl rfl rfl) #[true, true, true, true, true, true, false, false, false] (by kernel_rfl) rfl rfl rfl T.call33 rfl (reducible_ok (shapeAt (hS.graph hG0) hok (hS.get 1 rfl)) hg hw) ?_
      rintro _ w ⟨br, rfl, hbr, hR4⟩
      have hS := hS.call0 hR4
      refine VA_take (i := 6) rfl rfl rfl rfl (by kernel_rfl) (by kernel_rfl) (by kernel_rfl) #[true, true, true, true, true, true, true, false, false] (by kernel_rfl) (fun _ _ _ _ h => h) (fun w hC => yd_pick_t rfl rfl) ?_
      refine VA_only (i := 7) (by kernel_rfl) (hS.get 2 rfl) ?_
      refine VS_storeN (cs := [.slice (some ⟨gb, go, none⟩) G.length gc, s.live G, s.dom G]) rfl (wanted_none rfl) #[true, true, true, true, true, true, true, true, false] (by kernel_rfl) rfl rfl rfl rfl T.agg37 (by intro u hu; simp at hu; rcases hu with rfl | rfl | rfl <;> rfl) hS 0 rfl (by simp) ?_
      clear hS; intro w hS
      refine VA_take (i := 8) rfl rfl rfl rfl (by kernel_rfl) (by kernel_rfl) (by kernel_rfl) #[true, true, true, true, true, true, true, true, true] (by kernel_rfl) (fun _ _ _ _ h => h) (fun w hC => yd_assign rfl) ?_
      refine VA_done (by kernel_rfl) (hS.get 2 rfl) ?_
      refine VE_then ?_
      refine VC_ret ?_
      refine VE_retCT (cs := [.slice (some ⟨gb, go, none⟩) G.length gc, s.live G, s.dom G]) rfl rfl rfl T.agg37 (hS.get 0 rfl) ?_
      refine ⟨_, _, _, _, [shapeR s G], rfl, by intro u hu; simp at hu; rcases hu with rfl | rfl | rfl <;> rfl, hS.sub (List.Sublist.cons _ (List.Sublist.cons_cons _ (List.nil_sublist _))), ?_⟩
      first
      | exact fun h => ⟨G, s, hG0, hg, hok, rfl, rfl, rfl, hw, hbr.1 h, rfl⟩
      | exact fun h => (by cases h)
    · skip
      refine VA_no (i := 4) rfl rfl rfl rfl rfl rfl rfl rfl (by kernel_rfl) (by kernel_rfl) (by kernel_rfl) #[true, true, true, true, true, false, false, false, false] (by kernel_rfl) (fun _ _ _ _ h => h) ?_
      refine VA_no (i := 5) rfl rfl rfl rfl rfl rfl rfl rfl (by kernel_rfl) (by kernel_rfl) (by kernel_rfl) #[true, true, true, true, true, true, false, false, false] (by kernel_rfl) (fun _ _ _ _ h => h) ?_
      refine VA_take (i := 6) rfl rfl rfl rfl (by kernel_rfl) (by kernel_rfl) (by kernel_rfl) #[true, true, true, true, true, true, true, false, false] (by kernel_rfl) (fun _ _ _ _ h => h) (fun w hC => yd_pick_f rfl rfl) ?_
      refine VA_only (i := 7) (by kernel_rfl) (hS.get 2 rfl) ?_
      refine VS_storeN (cs := [.slice (some ⟨gb, go, none⟩) G.length gc, s.live G, s.dom G]) rfl (wanted_none rfl) #[true, true, true, true, true, true, true, true, false] (by kernel_rfl) rfl rfl rfl rfl T.agg37 (by intro u hu; simp at hu; rcases hu with rfl | rfl | rfl <;> rfl) hS 0 rfl (by simp) ?_
      clear hS; intro w hS
      refine VA_take (i := 8) rfl rfl rfl rfl (by kernel_rfl) (by kernel_rfl) (by kernel_rfl) #[true, true, true, true, true, true, true, true, true] (by kernel_rfl) (fun _ _ _ _ h => h) (fun w hC => yd_assign rfl) ?_
      refine VA_done (by kernel_rfl) (hS.get 2 rfl) ?_
      refine VE_then ?_
      refine VC_ret ?_
      refine VE_retCT (cs := [.slice (some ⟨gb, go, none⟩) G.length gc, s.live G, s.dom G]) rfl rfl rfl T.agg37 (hS.get 0 rfl) ?_
      refine ⟨_, _, _, _, [shapeR s G], rfl, by intro u hu; simp at hu; rcases hu with rfl | rfl | rfl <;> rfl, hS.sub (List.Sublist.cons _ (List.Sublist.cons_cons _ (List.nil_sublist _))), ?_⟩
      first
      | exact fun h => ⟨G, s, hG0, hg, hok, rfl, rfl, rfl, hw, hbr.1 h, rfl⟩
      | exact fun h => (by cases h)

end Go.Proofs.Ytmoooaaiohplhac
