/- Lengauer and Tarjan: dominatorsLTOrig, dominators. -/
import Derived.Test.YtmoooaaiohplhacWo
import Derived.Test.YtmoooaaiohplhacWj
namespace Go.Proofs.Ytmoooaaiohplhac
open Go Go.V
set_option linter.unusedVariables false
set_option maxRecDepth 100000

theorem T.fld93_3 : FieldT Try.prog 93 3 3 := FieldT.of (by kernel_rfl)
theorem T.one65 : OneT Try.prog 65 := ⟨⟨_, Try.underlying65, rfl⟩, by kernel_rfl⟩
theorem T.call70 : CallT Try.prog 70 := CallT.of Try.func70 (by kernel_rfl) (by kernel_rfl)
theorem T.call71 : CallT Try.prog 71 := CallT.of Try.func71 (by kernel_rfl) (by kernel_rfl)
theorem T.call72 : CallT Try.prog 72 := CallT.of Try.func72 (by kernel_rfl) (by kernel_rfl)
theorem T.call73 : CallT Try.prog 73 := CallT.of Try.func73 (by kernel_rfl) (by kernel_rfl)
theorem T.call74 : CallT Try.prog 74 := CallT.of Try.func74 (by kernel_rfl) (by kernel_rfl)
theorem T.call75 : CallT Try.prog 75 := CallT.of Try.func75 (by kernel_rfl) (by kernel_rfl)
theorem T.call76 : CallT Try.prog 76 := CallT.of Try.func76 (by kernel_rfl) (by kernel_rfl)

open Go.PL
theorem lt_init {G : Graph} {n : Nat} {Z vs : List Nat} {pr : Nat → Nat} (hd : ZD n Z vs pr []) (hv : vs.length ≤ n) : SV G (nuL vs) (nuL vs) (vs.length + 1) ∧ FI (nuL vs) pr (nuL vs) (vs.length + 1) (fun _ => none) (fun x => x) ∧ BI G (nuL vs) (vs.length + 1) (fun _ => none) (fun _ => none) ∧ ZF n Z (nuL vs) (nuL vs) (fun _ => none) (fun x => x) ∧ ZM n Z vs pr (fun _ => none) (fun _ => none) := by
  have hle : ∀ x, ¬ vs.length + 1 ≤ nuL vs x := fun x => by have := nuL_le (vs := vs) (x := x); omega
  refine ⟨⟨fun _ _ => rfl, fun x hx => absurd hx (hle x)⟩, ⟨fun _ _ => rfl, fun _ _ _ => rfl, fun x hx => absurd hx (hle x)⟩, fun p => ⟨[], .nil, fun v => ⟨fun h => by simp at h, fun h => absurd h.1 (hle v)⟩⟩, ⟨hd.len, hd.sem, fun x hx hn => hd.lab x hx (nuL_ne.1 hn), fun x hx => hd.z4 _ (by omega)⟩, ⟨hd.ver, hd.par, fun x hx => hd.z5 _ (by omega), fun x hx => hd.z6 _ (by omega)⟩⟩
/-- The answers: none for the first block and for what was not reached. -/
structure LOK (n : Nat) (vs : List Nat) (L : List (Option Nat)) : Prop where
  len : L.length = n + 1
  no : ∀ x, x < n → (x = 0 ∨ x ∉ vs) → L[x + 1]! = none
  lt : ∀ x, x < n → ∀ o, L[x + 1]! = some o → o < n
theorem lok_init (n : Nat) (vs : List Nat) : LOK n vs (List.replicate (n + 1) none) :=
  ⟨by simp, fun x hx _ => get!_replicate _ _ _ (by omega), fun x hx o h => by rw [get!_replicate _ _ _ (by omega)] at h; cases h⟩
theorem LOK.set {n : Nat} {vs : List Nat} {L : List (Option Nat)} (h : LOK n vs L) {v o : Nat} (hv : v < n) (h0 : v ≠ 0) (hm : v ∈ vs) (ho : o < n) : LOK n vs (L.set (v + 1) (some o)) := by
  have hl := h.len
  refine ⟨by rw [List.length_set, hl], fun x hx hc => ?_, fun x hx q hq => ?_⟩
  · have : x ≠ v := fun e => by subst e; rcases hc with k | k; exact h0 k; exact k hm
    rw [get!_set_ne _ _ (by omega)]; exact h.no x hx hc
  · by_cases e : x = v
    · subst e; rw [get!_set_self _ _ _ (by omega)] at hq; cases hq; exact ho
    · rw [get!_set_ne _ _ (by omega)] at hq; exact h.lt x hx q hq
theorem sv_zero {G : Graph} {nu sv : Nat → Nat} {k : Nat} (h : SV G nu sv k) (hk : 0 < k) (v : Nat) : sv v = 0 ↔ nu v = 0 := by
  by_cases c : nu v < k
  · rw [h.lo v c]
  · obtain ⟨s, hs, e⟩ := h.hi v (by omega)
    have := hs.live; omega
theorem sv_zero' {G : Graph} {nu sv : Nat → Nat} {k x c : Nat} (h : SV G nu sv k) (hk : 0 < k) (hx : nu x ≠ 0) (hc : 0 < c) (v : Nat) : oset sv x c v = 0 ↔ nu v = 0 := by
  by_cases e : v = x
  · subst e; rw [oset_same]; omega
  · rw [oset_ne _ _ e]; exact sv_zero h hk v
theorem lt_sd {G : Graph} {vs : List Nat} {pr sv : Nat → Nat} (hT : DT G (nuL vs) pr) (hnd : vs.Nodup) {x c q : Nat} {l : List Nat} (hl : ∀ v, v ∈ l ↔ Ed G v x) (hs : SO (nuL vs) pr (oset sv x c) x l c) (hc : 0 < c) (hx : nuL vs x = q + 1) (h0 : x ≠ 0) (hsv : SV G (nuL vs) sv (q + 2)) : ∃ s, nuL vs s = c ∧ IsSd G (nuL vs) s x := by
  have hle := hs.le
  have hle2 : nuL vs x ≤ vs.length := nuL_le
  have hn : nuL vs vs[c - 1]! = c := by rw [nuL_of hnd (by omega)]; omega
  refine ⟨vs[c - 1]!, hn, hs.done hT hl (by omega) h0 (fun y hy => ?_) hn (by omega)⟩
  rw [oset_ne _ _ (fun e => by subst e; omega)]
  exact hsv.hi y (by omega)
theorem idc {w : World} {f : FRep} {b i o : Nat} {t : TypeId} {L : List (Option Nat)} (h : (blk b t (L.map (pP f))).holds w) (hi : i < L.length) (e : L[i]! = some o) : w.cell? ⟨b, i, none⟩ = some (ptr (f.bb o)) := by
  have := blk_cellM h hi; rw [e] at this; exact this
theorem LOK.idoms {G : Graph} {vs : List Nat} {pr : Nat → Nat} (hT : DT G (nuL vs) pr) {L : List (Option Nat)} (h : LOK G.length vs L) (hd : ∀ x, nuL vs x ≠ 0 → x ≠ 0 → ∃ d, L[x + 1]! = some d ∧ IsIdom G d x) : IdomsOK G (L.drop 1) := by
  have hl := h.len
  refine ⟨by simp [hl], fun y hy => ?_⟩
  rw [get!_drop1 (by omega)]
  by_cases c : y = 0 ∨ y ∉ vs
  · rw [h.no y hy c]
    refine ⟨fun x hx => (by cases hx), fun _ => ?_⟩
    rcases c with c | c
    · exact .inl c
    · exact .inr (fun hr => c (nuL_ne.1 ((hT.live y).2 hr)))
  · have hm : y ∈ vs := Classical.byContradiction fun hm => c (.inr hm)
    obtain ⟨d, h1, h2⟩ := hd y (nuL_ne.2 hm) (fun e => c (.inl e))
    rw [h1]; exact ⟨fun x hx => (by cases hx; exact h2), fun hx => (by cases hx)⟩
def FrL (n : Nat) : List (Option Nat) := none :: (List.range n).map some
theorem frL {n x : Nat} (hx : x < n) : (FrL n)[x + 1]! = some x := by simp [FrL, hx]
theorem frL_len (n : Nat) : (FrL n).length = n + 1 := by simp [FrL]
theorem fr_cell {w : World} {f : FRep} {n b x : Nat} {t : TypeId} (h : (blk b t ((FrL n).map (pP f))).holds w) (hx : x < n) : w.cell? ⟨b, x + 1, none⟩ = some (ptr (f.bb x)) := by
  have := blk_cellM h (i := x + 1) (by rw [frL_len]; omega)
  rw [frL hx] at this; exact this
theorem fr_eq {n : Nat} {L : List (Option Nat)} (hl : L.length = n + 1) (h0 : L[0]! = none) (h : ∀ x, x < n → L[x + 1]! = some x) : L = FrL n := by
  refine List.ext_getElem (by rw [hl, frL_len]) fun i h1 h2 => ?_
  rw [← getElem!_pos L i h1, ← getElem!_pos (FrL n) i h2]
  cases i with
  | zero => rw [h0]; rfl
  | succ i => rw [h i (by omega), frL (by omega)]

set_option maxHeartbeats 1000000 in
theorem dominatorsLT_ok {w0 : World} {f : FRep} {G : Graph} (hF : (funcR f G).holds w0) (hP : PredsOk f G) (hg : Gd G) : Calls Try.prog 56 #[ptr f.bf, ptr (f.bb 0)] w0 (Ret fun u w' => ∃ b, ∃ L : List (Option Nat), u = .slice (some ⟨b, 0, none⟩) (G.length + 1) (G.length + 1) ∧ L.length = G.length + 1 ∧ IdomsOK G (L.drop 1) ∧ St w0 M0 [blk b 82 (L.map (pP f))] w') := by
  have hA := funcAt hF
  have hle := hg.le
  have hpos := hg.pos
  have hS := St.refl w0
  obtain ⟨fcs, hfc⟩ := hA.hf
  have hFk : ∀ {η : List Res} {w : World}, St w0 M0 η w → (funcR f G).holds w := fun h => h.func hF
  refine V_enterD (N := 289) Try.func56 rfl Try.ntmps56 rfl ?_
  refine VC.sub (τ := [(0, _), (1, _)]) ⟨rfl, rfl, trivial⟩ ?_
  refine VC_seq ?_
  refine VC_region ?_
  refine VL_val rfl rfl rfl (yd_assign rfl) ?_
  refine VL_nil ?_
  refine VE_then ?_
  refine VC_seq ?_
  refine VC_region ?_
  refine VL_val rfl rfl rfl (yd_move rfl) ?_
  refine VL_val rfl rfl rfl (yd_nilc rfl) ?_
  refine VL_val rfl rfl rfl (yd_field rfl T.fld93_3) ?_
  refine VL_val rfl rfl rfl (yd_load rfl T.one65 (hS.cell0 (hA.fn 0 hpos))) ?_
  refine VL_call rfl rfl rfl rfl T.call57 rfl (numBlocks_ok (hFk hS) hg) ?_
  rintro _ _ ⟨rfl, rfl⟩
  refine VL_val rfl rfl rfl (yd_assign rfl) ?_
  refine VL_nil ?_
  refine VE_then ?_
  refine VC_seq ?_
  refine VC_region ?_
  refine VL_val rfl rfl rfl (yd_move rfl) ?_
  refine VL_val rfl rfl rfl (yd_nilc rfl) ?_
  refine VL_val rfl rfl rfl (yd_field0 rfl T.fldz89_2 (hS.heap0 hfc)) ?_
  refine VL_val rfl rfl rfl (yd_loadE rfl T.agg87) ?_
  refine VL_val rfl rfl rfl (yd_move rfl) ?_
  refine VL_val rfl rfl rfl (yd_mul rfl rfl ((7 * (G.length + 1) : Nat) : Int) (by rw [wi64 (by omega) (by omega)]; omega)) ?_
  refine VL_call rfl rfl rfl rfl T.call70 rfl (allocID_ok (n := 7 * (G.length + 1)) (by omega)) ?_
  rintro _ w ⟨bs, rfl, hR⟩
  have hS := hS.call0 hR
  refine VL_val rfl rfl rfl (yd_assign rfl) ?_
  refine VL_nil ?_
  refine VE_then ?_
  refine VC_seq ?_
  refine VC_region ?_
  refine VL_val rfl rfl rfl (yd_move rfl) ?_
  refine VL_val rfl rfl rfl (yd_nilc rfl) ?_
  refine VL_val rfl rfl rfl (yd_field0 rfl T.fldz89_2 (hS.heap0 hfc)) ?_
  refine VL_val rfl rfl rfl (yd_loadE rfl T.agg87) ?_
  refine VL_val rfl rfl rfl (yd_move rfl) ?_
  refine VL_defer rfl rfl rfl rfl ?_
  refine VL_nil ?_
  refine VE_then ?_
  refine VC_seq ?_
  refine VC_region ?_
  refine VL_val rfl rfl rfl (yd_move rfl) ?_
  refine VL_val rfl rfl rfl (yd_move rfl) ?_
  refine VL_val rfl rfl rfl (yd_mul rfl rfl ((0 : Nat) : Int) (by rw [wi64 (by omega) (by omega)]; omega)) ?_
  refine VL_val rfl rfl rfl (yd_move rfl) ?_
  refine VL_val rfl rfl rfl (yd_mul rfl rfl ((1 * (G.length + 1) : Nat) : Int) (by rw [wi64 (by omega) (by omega)]; omega)) ?_
  refine VL_val rfl rfl rfl (yd_slice_at (G.length + 1) rfl rfl rfl Try.underlying118 T.sz90 (by omega) (by omega) (by omega)) ?_
  refine VL_val rfl rfl rfl (yd_assign rfl) ?_
  refine VL_nil ?_
  refine VE_then ?_
  refine VC_seq ?_
  refine VC_region ?_
  refine VL_val rfl rfl rfl (yd_move rfl) ?_
  refine VL_val rfl rfl rfl (yd_move rfl) ?_
  refine VL_val rfl rfl rfl (yd_mul rfl rfl ((1 * (G.length + 1) : Nat) : Int) (by rw [wi64 (by omega) (by omega)]; omega)) ?_
  refine VL_val rfl rfl rfl (yd_move rfl) ?_
  refine VL_val rfl rfl rfl (yd_mul rfl rfl ((2 * (G.length + 1) : Nat) : Int) (by rw [wi64 (by omega) (by omega)]; omega)) ?_
  refine VL_val rfl rfl rfl (yd_slice_at (G.length + 1) rfl rfl rfl Try.underlying118 T.sz90 (by omega) (by omega) (by omega)) ?_
  refine VL_val rfl rfl rfl (yd_assign rfl) ?_
  refine VL_nil ?_
  refine VE_then ?_
  refine VC_seq ?_
  refine VC_region ?_
  refine VL_val rfl rfl rfl (yd_move rfl) ?_
  refine VL_val rfl rfl rfl (yd_move rfl) ?_
  refine VL_val rfl rfl rfl (yd_mul rfl rfl ((2 * (G.length + 1) : Nat) : Int) (by rw [wi64 (by omega) (by omega)]; omega)) ?_
  refine VL_val rfl rfl rfl (yd_move rfl) ?_
  refine VL_val rfl rfl rfl (yd_mul rfl rfl ((3 * (G.length + 1) : Nat) : Int) (by rw [wi64 (by omega) (by omega)]; omega)) ?_
  refine VL_val rfl rfl rfl (yd_slice_at (G.length + 1) rfl rfl rfl Try.underlying118 T.sz90 (by omega) (by omega) (by omega)) ?_
  refine VL_val rfl rfl rfl (yd_assign rfl) ?_
  refine VL_nil ?_
  refine VE_then ?_
  refine VC_seq ?_
  refine VC_region ?_
  refine VL_val rfl rfl rfl (yd_move rfl) ?_
  refine VL_val rfl rfl rfl (yd_move rfl) ?_
  refine VL_val rfl rfl rfl (yd_mul rfl rfl ((3 * (G.length + 1) : Nat) : Int) (by rw [wi64 (by omega) (by omega)]; omega)) ?_
  refine VL_val rfl rfl rfl (yd_move rfl) ?_
  refine VL_val rfl rfl rfl (yd_mul rfl rfl ((4 * (G.length + 1) : Nat) : Int) (by rw [wi64 (by omega) (by omega)]; omega)) ?_
  refine VL_val rfl rfl rfl (yd_slice_at (G.length + 1) rfl rfl rfl Try.underlying118 T.sz90 (by omega) (by omega) (by omega)) ?_
  refine VL_val rfl rfl rfl (yd_assign rfl) ?_
  refine VL_nil ?_
  refine VE_then ?_
  refine VC_seq ?_
  refine VC_region ?_
  refine VL_val rfl rfl rfl (yd_move rfl) ?_
  refine VL_val rfl rfl rfl (yd_move rfl) ?_
  refine VL_val rfl rfl rfl (yd_mul rfl rfl ((4 * (G.length + 1) : Nat) : Int) (by rw [wi64 (by omega) (by omega)]; omega)) ?_
  refine VL_val rfl rfl rfl (yd_move rfl) ?_
  refine VL_val rfl rfl rfl (yd_mul rfl rfl ((5 * (G.length + 1) : Nat) : Int) (by rw [wi64 (by omega) (by omega)]; omega)) ?_
  refine VL_val rfl rfl rfl (yd_slice_at (G.length + 1) rfl rfl rfl Try.underlying118 T.sz90 (by omega) (by omega) (by omega)) ?_
  refine VL_val rfl rfl rfl (yd_assign rfl) ?_
  refine VL_nil ?_
  refine VE_then ?_
  refine VC_seq ?_
  refine VC_region ?_
  refine VL_val rfl rfl rfl (yd_move rfl) ?_
  refine VL_val rfl rfl rfl (yd_move rfl) ?_
  refine VL_val rfl rfl rfl (yd_mul rfl rfl ((5 * (G.length + 1) : Nat) : Int) (by rw [wi64 (by omega) (by omega)]; omega)) ?_
  refine VL_val rfl rfl rfl (yd_move rfl) ?_
  refine VL_val rfl rfl rfl (yd_mul rfl rfl ((6 * (G.length + 1) : Nat) : Int) (by rw [wi64 (by omega) (by omega)]; omega)) ?_
  refine VL_val rfl rfl rfl (yd_slice_at (G.length + 1) rfl rfl rfl Try.underlying118 T.sz90 (by omega) (by omega) (by omega)) ?_
  refine VL_val rfl rfl rfl (yd_assign rfl) ?_
  refine VL_nil ?_
  refine VE_then ?_
  refine VC_seq ?_
  refine VC_region ?_
  refine VL_val rfl rfl rfl (yd_move rfl) ?_
  refine VL_val rfl rfl rfl (yd_move rfl) ?_
  refine VL_val rfl rfl rfl (yd_mul rfl rfl ((6 * (G.length + 1) : Nat) : Int) (by rw [wi64 (by omega) (by omega)]; omega)) ?_
  refine VL_val rfl rfl rfl (yd_move rfl) ?_
  refine VL_val rfl rfl rfl (yd_mul rfl rfl ((7 * (G.length + 1) : Nat) : Int) (by rw [wi64 (by omega) (by omega)]; omega)) ?_
  refine VL_val rfl rfl rfl (yd_slice_at (G.length + 1) rfl rfl rfl Try.underlying118 T.sz90 (by omega) (by omega) (by omega)) ?_
  refine VL_val rfl rfl rfl (yd_assign rfl) ?_
  refine VL_nil ?_
  refine VE_then ?_
  refine VC_seq ?_
  refine VC_region ?_
  refine VL_val rfl rfl rfl (yd_move rfl) ?_
  refine VL_val rfl rfl rfl (yd_nilc rfl) ?_
  refine VL_val rfl rfl rfl (yd_field0 rfl T.fldz89_2 (hS.heap0 hfc)) ?_
  refine VL_val rfl rfl rfl (yd_loadE rfl T.agg87) ?_
  refine VL_val rfl rfl rfl (yd_move rfl) ?_
  refine VL_call rfl rfl rfl rfl T.call72 rfl (allocBlock_ok (f := f) (by omega)) ?_
  rintro _ w ⟨bF, rfl, hR⟩
  have hS := hS.call0 hR
  refine VL_val rfl rfl rfl (yd_assign rfl) ?_
  refine VL_nil ?_
  refine VE_then ?_
  refine VC_seq ?_
  refine VC_region ?_
  refine VL_val rfl rfl rfl (yd_move rfl) ?_
  refine VL_val rfl rfl rfl (yd_nilc rfl) ?_
  refine VL_val rfl rfl rfl (yd_field0 rfl T.fldz89_2 (hS.heap0 hfc)) ?_
  refine VL_val rfl rfl rfl (yd_loadE rfl T.agg87) ?_
  refine VL_val rfl rfl rfl (yd_move rfl) ?_
  refine VL_defer rfl rfl rfl rfl ?_
  refine VL_nil ?_
  refine VE_then ?_
  refine VC_seq ?_
  refine VC_seq ?_
  refine VC_region ?_
  refine VL_val rfl rfl rfl (yd_move rfl) ?_
  refine VL_val rfl rfl rfl (yd_nilc rfl) ?_
  refine VL_val rfl rfl rfl (yd_field rfl T.fld89_1) ?_
  refine VL_val rfl rfl rfl (yd_load rfl T.one72 (hS.cell0 hA.blocks)) ?_
  refine VL_val rfl rfl rfl (yd_len rfl Try.underlying72) ?_
  refine VL_val rfl rfl rfl (yd_move rfl) ?_
  refine VL_nil ?_
  refine VE_then ?_
  refine VC_block ?_
  refine VC_loop2 [0, 1, 4, 5, 7, 8, 9, 10, 11, 12, 13, 14, 103, 104] [_, _, _, _, _, _, _, _, _, _, _, _, _, _] rfl (fun (k : Nat) (FL : List (Option Nat)) => [(105, .int .i64 ((k : Nat) : Int))]) (fun (k : Nat) (FL : List (Option Nat)) w => k ≤ G.length ∧ FL.length = G.length + 1 ∧ FL[0]! = none ∧ (∀ x, x < k → FL[x + 1]! = some x) ∧ St w0 M0 [blk bs 90 ((List.replicate (7 * (G.length + 1)) 0).map iN), blk bF 82 (FL.map (pP f))] w) (fun (k : Nat) (FL : List (Option Nat)) => G.length - k) 0 _ ⟨rfl, trivial⟩ (⟨Nat.zero_le _, by simp, get!_replicate _ _ _ (by omega), fun i h => absurd h (Nat.not_lt_zero _), hS⟩) ?_
  clear hS; rintro k FL w ⟨hk, hfl, hf0, hfs, hS⟩
  refine VC_seq ?_
  refine VC_region ?_
  refine VL_val rfl rfl rfl (yd_lss rfl rfl) ?_
  refine VL_nil ?_
  refine VE_then ?_
  refine VC_seq ?_
  refine VC_cond rfl (fun h106 => ?_) (fun h106 => ?_)
  · replace h106 := of_decide_eq_true h106
    refine VC_skip ?_
    refine VE_then ?_
    refine VC_seq ?_
    refine VC_block ?_
    refine VC_seq ?_
    refine VC_region ?_
    refine VL_val rfl rfl rfl (yd_index0 rfl rfl Try.underlying72 T.sz82 (by omega)) ?_
    refine VL_val rfl rfl rfl (yd_load rfl T.one82 (hS.cell0 (hA.blk k (by omega)))) ?_
    refine VL_val rfl rfl rfl (yd_assign rfl) ?_
    refine VL_nil ?_
    refine VE_then ?_
    refine VC_region ?_
    refine VL_val rfl rfl rfl (yd_move rfl) ?_
    refine VL_val rfl rfl rfl (yd_move rfl) ?_
    refine VL_val rfl rfl rfl (yd_nilc rfl) ?_
    refine VL_val rfl rfl rfl (yd_field rfl T.fld93_0) ?_
    refine VL_val rfl rfl rfl (yd_load rfl T.one90 (hS.cell0 (hA.id k (by omega)))) ?_
    refine VL_val rfl rfl rfl (yd_move rfl) ?_
    refine VL_val rfl rfl rfl (yd_index0 rfl rfl Try.underlying72 T.sz82 (by omega)) ?_
    refine VL_storeM (f := pP f) (v := some k) rfl rfl rfl rfl rfl T.one82 rfl hS 1 rfl (by omega) rfl ?_
    clear hS; intro w hS
    refine VL_nil ?_
    refine VE_block_normal ?_
    refine VE_then ?_
    refine VC_region ?_
    refine VL_val rfl rfl rfl (yd_add rfl rfl ((k + 1 : Nat) : Int) (by rw [wi64 (by omega) (by omega)]; omega)) ?_
    refine VL_val rfl rfl rfl (yd_move rfl) ?_
    refine VL_nil ?_
    refine VE_round2 (k + 1) _ ⟨rfl, rfl, rfl, rfl, rfl, rfl, rfl, rfl, rfl, rfl, rfl, rfl, rfl, rfl, rfl, trivial⟩ ⟨by omega, by simp [hfl], by rw [get!_set_ne _ _ (by omega)]; exact hf0, fun x hx => ?_, hS⟩ (by omega)
    by_cases e : x = k
    · subst e; rw [get!_set_self _ _ _ (by omega)]
    · rw [get!_set_ne _ _ (by omega)]; exact hfs x (by omega)
  · replace h106 := Int.not_lt.1 (of_decide_eq_false h106)
    refine VC_exit ?_
    refine VE_then_exit (VE_then_exit (VE_block_exit ?_))
    refine VE_then ?_
    refine VC_seq ?_
    refine VC_region ?_
    obtain rfl := fr_eq hfl hf0 (fun x hx => hfs x (by omega))
    refine VL_val rfl rfl rfl (yd_move rfl) ?_
    refine VL_makeM (pP f) none rfl rfl rfl rfl rfl rfl Try.underlying72 T.e82 rfl rfl (by omega) (by omega) (by omega) hS ?_
    clear hS; intro bI w hS
    refine VL_val rfl rfl rfl (yd_assign rfl) ?_
    refine VL_nil ?_
    refine VE_then ?_
    refine VC_seq ?_
    refine VC_region ?_
    refine VL_val rfl rfl rfl (yd_move rfl) ?_
    refine VL_val rfl rfl rfl (yd_move rfl) ?_
    refine VL_val rfl rfl rfl (yd_move rfl) ?_
    refine VL_val rfl rfl rfl (yd_move rfl) ?_
    refine VL_val rfl rfl rfl (yd_move rfl) ?_
    refine VL_val rfl rfl rfl (yd_move rfl) ?_
    refine VL_call rfl rfl rfl rfl T.call74 rfl (dfs_ok (hFk hS) hg (hS.get 0 rfl) (fun b hb e => by
      subst e
      rcases hS.own _ (List.mem_of_getElem? (i := 0) rfl) b rfl with h | h
      · exact h
      · have := (funcR f G).dom _ hF b hb; omega)) ?_
    rintro _ w ⟨Z, vs, pr, rfl, hDI, hzd, hR⟩
    have hS := hS.call1 0 rfl hR
    have hT : DT G (nuL vs) pr := DI.done hDI
    have hvl := hDI.len
    have hvp := hDI.pos
    have hlt : ∀ x, nuL vs x ≠ 0 → x < G.length := fun x hx => hDI.vlt x (nuL_ne.1 hx)
    obtain ⟨i1, i2, i3, i4, i5⟩ := lt_init (G := G) hzd hvl
    refine VL_val rfl rfl rfl (yd_assign rfl) ?_
    refine VL_nil ?_
    refine VE_then ?_
    refine VC_seq ?_
    refine VC_seq ?_
    refine VC_region ?_
    refine VL_val rfl rfl rfl (yd_move rfl) ?_
    refine VL_val rfl rfl rfl (yd_assign rfl) ?_
    refine VL_nil ?_
    refine VE_then ?_
    refine VC_block ?_
    refine VC_loop8 [4, 7, 8, 9, 10, 11, 12, 13, 14, 17, 18] [_, _, _, _, _, _, _, _, _, _, _] rfl (fun (i : Nat) (Z : List Nat) (anc : Nat → Option Nat) (lab : Nat → Nat) (sv : Nat → Nat) (hd : Nat → Option Nat) (lk : Nat → Option Nat) (L : List (Option Nat)) => [(19, .int .i32 ((i : Nat) : Int))]) (fun (i : Nat) (Z : List Nat) (anc : Nat → Option Nat) (lab : Nat → Nat) (sv : Nat → Nat) (hd : Nat → Option Nat) (lk : Nat → Option Nat) (L : List (Option Nat)) w => 1 ≤ i ∧ i ≤ vs.length ∧ SV G (nuL vs) sv (i + 1) ∧ FI (nuL vs) pr sv (i + 1) anc lab ∧ BI G (nuL vs) (i + 1) hd lk ∧ ZF G.length Z (nuL vs) sv anc lab ∧ ZM G.length Z vs pr hd lk ∧ STL G (nuL vs) pr (i + 1) L ∧ LOK G.length vs L ∧ St w0 M0 [blk bs 90 (Z.map iN), blk bF 82 ((FrL G.length).map (pP f)), blk bI 82 (L.map (pP f))] w) (fun (i : Nat) (Z : List Nat) (anc : Nat → Option Nat) (lab : Nat → Nat) (sv : Nat → Nat) (hd : Nat → Option Nat) (lk : Nat → Option Nat) (L : List (Option Nat)) => i) vs.length Z (fun _ => none) (fun x => x) (nuL vs) (fun _ => none) (fun _ => none) (List.replicate (G.length + 1) none) ⟨rfl, trivial⟩ (⟨by omega, Nat.le_refl _, i1, i2, i3, i4, i5, fun v c _ hc => by have := nuL_le (vs := vs) (x := c); omega, lok_init _ _, hS⟩) ?_
    clear hS i1 i2 i3 i4 i5 hzd; rintro i Z anc lab sv hd lk L w ⟨hi1, hi2, hsv, hf, hbi, hz, hzm, hst, hL, hS⟩
    have hZ := hz.len
    refine VC_seq ?_
    refine VC_seq ?_
    refine VC_region ?_
    refine VL_val rfl rfl rfl (yd_move rfl) ?_
    refine VL_val rfl rfl rfl (yd_geq rfl rfl) ?_
    refine VL_nil ?_
    refine VE_then ?_
    refine VC_cond rfl (fun h128 => ?_) (fun h128 => ?_)
    · replace h128 := of_decide_eq_true h128
      obtain ⟨q, rfl⟩ : ∃ q, i = q + 1 := ⟨i - 1, by omega⟩
      obtain ⟨x, hx⟩ : ∃ x, x = vs[q]! := ⟨_, rfl⟩
      have hnx : nuL vs x = q + 1 := by rw [hx]; exact nuL_of hDI.nd (by omega)
      have hxm : x ∈ vs := nuL_ne.1 (by omega)
      have hxn := hDI.vlt x hxm
      have hx0 : x ≠ 0 := fun e => by subst e; have := hT.zero; omega
      have e1 : Z[1 * (G.length + 1) + (q + 1)]! = x + 1 := by rw [hzm.ver q (by omega), hx]
      obtain ⟨hpe, hpl, hpz⟩ := hT.par x hx0 (by omega)
      have hpn := hlt _ hpz
      obtain ⟨pa, pc, pb, hpre, hpa, hpcs, _⟩ := hA.pre x hxn
      have hQl := hP.len x
      have hsame : oset sv x (nuL vs x) = sv := by
        funext y; by_cases e : y = x
        · subst e; rw [oset_same, hsv.lo y (by omega)]
        · rw [oset_ne _ _ e]
      refine VC_skip ?_
      refine VE_then ?_
      refine VC_seq ?_
      refine VC_block ?_
      refine VC_seq ?_
      refine VC_region ?_
      refine VL_val rfl rfl rfl (yd_move rfl) ?_
      refine VL_val rfl rfl rfl (yd_move rfl) ?_
      refine VL_val rfl rfl rfl (yd_index1 rfl rfl Try.underlying118 T.sz90 (by omega)) ?_
      refine VL_val rfl rfl rfl (yd_load rfl T.one90 (zc (hS.get 0 rfl) (by omega) e1)) ?_
      refine VL_val rfl rfl rfl (yd_assign rfl) ?_
      refine VL_nil ?_
      refine VE_then ?_
      refine VC_seq ?_
      refine VC_seq ?_
      refine VC_region ?_
      refine VL_val rfl rfl rfl (yd_move rfl) ?_
      refine VL_val rfl rfl rfl (yd_move rfl) ?_
      refine VL_val rfl rfl rfl (yd_index0 rfl rfl Try.underlying72 T.sz82 (by omega)) ?_
      refine VL_val rfl rfl rfl (yd_load rfl T.one82 (fr_cell (hS.get 1 rfl) hxn)) ?_
      refine VL_val rfl rfl rfl (yd_nilc rfl) ?_
      refine VL_val rfl rfl rfl (yd_field rfl T.fld93_2) ?_
      refine VL_val rfl rfl rfl (yd_load rfl T.one91 (hS.cell0 hpre)) ?_
      refine VL_val rfl rfl rfl (yd_len rfl Try.underlying91) ?_
      refine VL_val rfl rfl rfl (yd_move rfl) ?_
      refine VL_nil ?_
      refine VE_then ?_
      refine VC_block ?_
      refine VC_loop5 [4, 7, 8, 9, 10, 11, 12, 13, 14, 17, 18, 19, 20, 127, 128, 131, 132, 133, 134, 135, 136, 137, 138, 139, 140, 141, 142] [_, _, _, _, _, _, _, _, _, _, _, _, _, _, _, _, _, _, _, _, _, _, _, _, _, _, _] rfl (fun (j : Nat) (Z : List Nat) (anc : Nat → Option Nat) (lab : Nat → Nat) (c : Nat) => [(143, .int .i64 ((j : Nat) : Int))]) (fun (j : Nat) (Z : List Nat) (anc : Nat → Option Nat) (lab : Nat → Nat) (c : Nat) w => j ≤ (f.Q x).length ∧ 0 < c ∧ ZF G.length Z (nuL vs) (oset sv x c) anc lab ∧ FI (nuL vs) pr (oset sv x c) (q + 2) anc lab ∧ SO (nuL vs) pr (oset sv x c) x ((f.Q x).take j) c ∧ ZM G.length Z vs pr hd lk ∧ St w0 M0 [blk bs 90 (Z.map iN), blk bF 82 ((FrL G.length).map (pP f)), blk bI 82 (L.map (pP f))] w) (fun (j : Nat) (Z : List Nat) (anc : Nat → Option Nat) (lab : Nat → Nat) (c : Nat) => (f.Q x).length - j) 0 Z anc lab (nuL vs x) ⟨rfl, trivial⟩ (⟨Nat.zero_le _, by omega, by rw [hsame]; exact hz, by rw [hsame]; exact hf, so_nil, hzm, hS⟩) ?_
      clear hS hz hf hzm e1 hZ; rintro j Z anc lab c w ⟨hj, hc, hz, hf, hso, hzm, hS⟩
      have hZ := hz.len
      refine VC_seq ?_
      refine VC_region ?_
      refine VL_val rfl rfl rfl (yd_lss rfl rfl) ?_
      refine VL_nil ?_
      refine VE_then ?_
      refine VC_seq ?_
      refine VC_cond rfl (fun h144 => ?_) (fun h144 => ?_)
      · replace h144 := of_decide_eq_true h144
        refine VC_skip ?_
        refine VE_then ?_
        refine VC_seq ?_
        refine VC_block ?_
        refine VC_seq ?_
        refine VC_region ?_
        obtain rfl := hpa (by omega)
        have hvn := hP.lt (t := x) (j := j) (by omega)
        obtain ⟨v, hv⟩ : ∃ v, v = (f.Q x)[j]! := ⟨_, rfl⟩
        have hcv := hpcs j (by omega)
        rw [← hv] at hvn hcv
        have htk : (f.Q x).take (j + 1) = (f.Q x).take j ++ [v] := by rw [hv]; exact take_snoc (by omega)
        refine VL_val rfl rfl rfl (yd_index0 rfl rfl Try.underlying91 T.sz96 (by omega)) ?_
        refine VL_val rfl rfl rfl (yd_loadn [ptr (f.bb v)] rfl T.agg96 (one_cell (hS.cell0 hcv))) ?_
        refine VL_alloc rfl rfl rfl rfl T.e96 hS ?_
        clear hS; intro b22 w hS
        refine VL_storeN (cs := [ptr (f.bb v)]) rfl rfl rfl rfl rfl T.agg96 (by intro u hu; cases List.mem_singleton.1 hu; rfl) hS 3 rfl (by simp [Value.cells]) ?_
        clear hS; intro w hS
        refine VL_nil ?_
        refine VE_then ?_
        refine VC_seq ?_
        refine VC_region ?_
        refine VL_val rfl rfl rfl (yd_field rfl T.fld96_0) ?_
        refine VL_val rfl rfl rfl (yd_load rfl T.one82 (blk_cell (hS.get 3 rfl) rfl)) ?_
        refine VL_val rfl rfl rfl (yd_assign rfl) ?_
        refine VL_nil ?_
        have hS := hS.sub (η' := _) (List.take_sublist 3 _)
        have hs0 := sv_zero' (x := x) hsv (by omega) (by omega) hc v
        refine VE_then ?_
        refine VC_seq ?_
        refine VC_seq ?_
        refine VC_region ?_
        refine VL_val rfl rfl rfl (yd_move rfl) ?_
        refine VL_val rfl rfl rfl (yd_move rfl) ?_
        refine VL_val rfl rfl rfl (yd_nilc rfl) ?_
        refine VL_val rfl rfl rfl (yd_field rfl T.fld93_0) ?_
        refine VL_val rfl rfl rfl (yd_load rfl T.one90 (hS.cell0 (hA.id v hvn))) ?_
        refine VL_val rfl rfl rfl (yd_index0 rfl rfl Try.underlying118 T.sz90 (by omega)) ?_
        refine VL_val rfl rfl rfl (yd_load rfl T.one90 (zc (hS.get 0 rfl) (by omega) (hz.sem v hvn))) ?_
        refine VL_val rfl rfl rfl (yd_eql rfl rfl) ?_
        refine VL_nil ?_
        refine VE_then ?_
        refine VC_cond rfl (fun h156 => ?_) (fun h156 => ?_)
        · replace h156 := of_decide_eq_true h156
          have hv0 : nuL vs v = 0 := hs0.1 (by omega)
          have hn1 := hso.skip hv0
          rw [← htk] at hn1
          refine VC_exit ?_
          refine VE_then_exit (VE_block_exit ?_)
          refine VE_then ?_
          refine VC_region ?_
          refine VL_val rfl rfl rfl (yd_add rfl rfl ((j + 1 : Nat) : Int) (by rw [wi64 (by omega) (by omega)]; omega)) ?_
          refine VL_val rfl rfl rfl (yd_move rfl) ?_
          refine VL_nil ?_
          first
          | exact VE_round5 (j + 1) _ anc1 lab1 (oset sv x c u) ⟨rfl, rfl, rfl, rfl, rfl, rfl, rfl, rfl, rfl, rfl, rfl, rfl, rfl, rfl, rfl, rfl, rfl, rfl, rfl, rfl, rfl, rfl, rfl, rfl, rfl, rfl, rfl, rfl, trivial⟩ ⟨by omega, hcu, hz3, hf1.cong (fun y hy => by rw [oset_ne _ _ (fun e => by subst e; omega), oset_ne _ _ (fun e => by subst e; omega)]), hn2.cong (fun y hy => by rw [oset_ne _ _ (fun e => by subst e; omega), oset_ne _ _ (fun e => by subst e; omega)]), hzm1.setsem hvl hxn, hS⟩ (by omega)
          | exact VE_round5 (j + 1) Z1 anc1 lab1 c ⟨rfl, rfl, rfl, rfl, rfl, rfl, rfl, rfl, rfl, rfl, rfl, rfl, rfl, rfl, rfl, rfl, rfl, rfl, rfl, rfl, rfl, rfl, rfl, rfl, rfl, rfl, rfl, rfl, trivial⟩ ⟨by omega, hc, hz1, hf1, hn2, hzm1, hS⟩ (by omega)
          | exact VE_round5 (j + 1) Z anc lab c ⟨rfl, rfl, rfl, rfl, rfl, rfl, rfl, rfl, rfl, rfl, rfl, rfl, rfl, rfl, rfl, rfl, rfl, rfl, rfl, rfl, rfl, rfl, rfl, rfl, rfl, rfl, rfl, rfl, trivial⟩ ⟨by omega, hc, hz, hf, hn1, hzm, hS⟩ (by omega)
        · replace h156 := of_decide_eq_false h156
          have hv0 : nuL vs v ≠ 0 := fun e => by have := hs0.2 e; omega
          refine VC_skip ?_
          refine VE_then ?_
          refine VC_seq ?_
          refine VC_region ?_
          refine VL_val rfl rfl rfl (yd_move rfl) ?_
          refine VL_val rfl rfl rfl (yd_nilc rfl) ?_
          refine VL_val rfl rfl rfl (yd_field rfl T.fld93_0) ?_
          refine VL_val rfl rfl rfl (yd_load rfl T.one90 (hS.cell0 (hA.id v hvn))) ?_
          refine VL_val rfl rfl rfl (yd_move rfl) ?_
          refine VL_val rfl rfl rfl (yd_move rfl) ?_
          refine VL_val rfl rfl rfl (yd_move rfl) ?_
          refine VL_call rfl rfl rfl rfl T.call75 rfl (eval_ok (x := v) hT hlt (show 0 < q + 2 by omega) (hS.get 0 rfl) hz hf hv0) ?_
          rintro _ w ⟨Z1, anc1, lab1, u, rfl, hev, hul, hR, hz1, hf1, hkp⟩
          have hS := hS.call1 0 rfl hR
          have hzm1 := hzm.kept hvl hkp
          have hZ1 := hz1.len
          have hun := hlt u hul
          have eu := hz1.sem u hun
          have ex : Z1[x + 1]! = c := by rw [hz1.sem x hxn, oset_same]
          have hn2 := hso.take hT hv0 (by rw [hnx]; exact hev) (fun y hy hne => by rw [oset_ne _ _ hne]; exact hsv.lo y (by omega)) (oset_same _ _ _)
          rw [← htk] at hn2
          refine VL_val rfl rfl rfl (yd_assign rfl) ?_
          refine VL_nil ?_
          refine VE_then ?_
          refine VC_seq ?_
          refine VC_draw T.mixed hS ?_
          clear hS; intro w hS
          refine VA_take (i := 0) rfl rfl rfl rfl (by kernel_rfl) (by kernel_rfl) (by kernel_rfl) #[true, false, false, false, false, false, false, false, false] (by kernel_rfl) (fun _ _ _ _ h => h) (fun w hS => yd_move rfl) ?_
          refine VA_take (i := 1) rfl rfl rfl rfl (by kernel_rfl) (by kernel_rfl) (by kernel_rfl) #[true, true, false, false, false, false, false, false, false] (by kernel_rfl) (fun _ _ _ _ h => h) (fun w hS => yd_move rfl) ?_
          refine VA_take (i := 2) rfl rfl rfl rfl (by kernel_rfl) (by kernel_rfl) (by kernel_rfl) #[true, true, true, false, false, false, false, false, false] (by kernel_rfl) (fun _ _ _ _ h => h) (fun w hS => yd_index0 rfl rfl Try.underlying118 T.sz90 (by omega)) ?_
          refine VA_take (i := 3) rfl rfl rfl rfl (by kernel_rfl) (by kernel_rfl) (by kernel_rfl) #[true, true, true, true, false, false, false, false, false] (by kernel_rfl) (fun _ _ _ _ h => h) (fun w hS => yd_load rfl T.one90 (zc (hS.get 0 rfl) (by omega) eu)) ?_
          refine VA_take (i := 4) rfl rfl rfl rfl (by kernel_rfl) (by kernel_rfl) (by kernel_rfl) #[true, true, true, true, true, false, false, false, false] (by kernel_rfl) (fun _ _ _ _ h => h) (fun w hS => yd_move rfl) ?_
          refine VA_take (i := 5) rfl rfl rfl rfl (by kernel_rfl) (by kernel_rfl) (by kernel_rfl) #[true, true, true, true, true, true, false, false, false] (by kernel_rfl) (fun _ _ _ _ h => h) (fun w hS => yd_move rfl) ?_
          refine VA_take (i := 6) rfl rfl rfl rfl (by kernel_rfl) (by kernel_rfl) (by kernel_rfl) #[true, true, true, true, true, true, true, false, false] (by kernel_rfl) (fun _ _ _ _ h => h) (fun w hS => yd_index0 rfl rfl Try.underlying118 T.sz90 (by omega)) ?_
          refine VA_take (i := 7) rfl rfl rfl rfl (by kernel_rfl) (by kernel_rfl) (by kernel_rfl) #[true, true, true, true, true, true, true, true, false] (by kernel_rfl) (fun _ _ _ _ h => h) (fun w hS => yd_load rfl T.one90 (zc (hS.get 0 rfl) (by omega) ex)) ?_
          refine VA_take (i := 8) rfl rfl rfl rfl (by kernel_rfl) (by kernel_rfl) (by kernel_rfl) #[true, true, true, true, true, true, true, true, true] (by kernel_rfl) (fun _ _ _ _ h => h) (fun w hS => yd_lss rfl rfl) ?_
          refine VA_done (by kernel_rfl) hS ?_
          refine VE_then ?_
          refine VC_cond rfl (fun h173 => ?_) (fun h173 => ?_)
          · replace h173 := of_decide_eq_true h173
            rw [if_pos (by omega)] at hn2
            have hoo : oset (oset sv x c) x (oset sv x c u) = oset sv x (oset sv x c u) := by
              funext y; by_cases e : y = x
              · subst e; rw [oset_same, oset_same]
              · rw [oset_ne _ _ e, oset_ne _ _ e, oset_ne _ _ e]
            have hcu : 0 < oset sv x c u := by
              have := sv_zero' (x := x) hsv (by omega) (by omega) hc u; omega
            refine VC_region ?_
            refine VL_val rfl rfl rfl (yd_move rfl) ?_
            refine VL_val rfl rfl rfl (yd_move rfl) ?_
            refine VL_val rfl rfl rfl (yd_move rfl) ?_
            refine VL_val rfl rfl rfl (yd_move rfl) ?_
            refine VL_val rfl rfl rfl (yd_index0 rfl rfl Try.underlying118 T.sz90 (by omega)) ?_
            refine VL_val rfl rfl rfl (yd_load rfl T.one90 (zc (hS.get 0 rfl) (by omega) eu)) ?_
            refine VL_val rfl rfl rfl (yd_index0 rfl rfl Try.underlying118 T.sz90 (by omega)) ?_
            refine VL_storeM (f := iN) rfl rfl rfl rfl rfl T.one90 rfl hS 0 rfl (by omega) rfl ?_
            clear hS; intro w hS
            have hz3 := hz1.setsem (c := oset sv x c u) hxn
            rw [hoo] at hz3
            refine VL_nil ?_
            refine VE_block_normal ?_
            refine VE_then ?_
            refine VC_region ?_
            refine VL_val rfl rfl rfl (yd_add rfl rfl ((j + 1 : Nat) : Int) (by rw [wi64 (by omega) (by omega)]; omega)) ?_
            refine VL_val rfl rfl rfl (yd_move rfl) ?_
            refine VL_nil ?_
            first
            | exact VE_round5 (j + 1) _ anc1 lab1 (oset sv x c u) ⟨rfl, rfl, rfl, rfl, rfl, rfl, rfl, rfl, rfl, rfl, rfl, rfl, rfl, rfl, rfl, rfl, rfl, rfl, rfl, rfl, rfl, rfl, rfl, rfl, rfl, rfl, rfl, rfl, trivial⟩ ⟨by omega, hcu, hz3, hf1.cong (fun y hy => by rw [oset_ne _ _ (fun e => by subst e; omega), oset_ne _ _ (fun e => by subst e; omega)]), hn2.cong (fun y hy => by rw [oset_ne _ _ (fun e => by subst e; omega), oset_ne _ _ (fun e => by subst e; omega)]), hzm1.setsem hvl hxn, hS⟩ (by omega)
            | exact VE_round5 (j + 1) Z1 anc1 lab1 c ⟨rfl, rfl, rfl, rfl, rfl, rfl, rfl, rfl, rfl, rfl, rfl, rfl, rfl, rfl, rfl, rfl, rfl, rfl, rfl, rfl, rfl, rfl, rfl, rfl, rfl, rfl, rfl, rfl, trivial⟩ ⟨by omega, hc, hz1, hf1, hn2, hzm1, hS⟩ (by omega)
            | exact VE_round5 (j + 1) Z anc lab c ⟨rfl, rfl, rfl, rfl, rfl, rfl, rfl, rfl, rfl, rfl, rfl, rfl, rfl, rfl, rfl, rfl, rfl, rfl, rfl, rfl, rfl, rfl, rfl, rfl, rfl, rfl, rfl, rfl, trivial⟩ ⟨by omega, hc, hz, hf, hn1, hzm, hS⟩ (by omega)
          · replace h173 := Int.not_lt.1 (of_decide_eq_false h173)
            rw [if_neg (by omega)] at hn2
            refine VC_skip ?_
            refine VE_block_normal ?_
            refine VE_then ?_
            refine VC_region ?_
            refine VL_val rfl rfl rfl (yd_add rfl rfl ((j + 1 : Nat) : Int) (by rw [wi64 (by omega) (by omega)]; omega)) ?_
            refine VL_val rfl rfl rfl (yd_move rfl) ?_
            refine VL_nil ?_
            first
            | exact VE_round5 (j + 1) _ anc1 lab1 (oset sv x c u) ⟨rfl, rfl, rfl, rfl, rfl, rfl, rfl, rfl, rfl, rfl, rfl, rfl, rfl, rfl, rfl, rfl, rfl, rfl, rfl, rfl, rfl, rfl, rfl, rfl, rfl, rfl, rfl, rfl, trivial⟩ ⟨by omega, hcu, hz3, hf1.cong (fun y hy => by rw [oset_ne _ _ (fun e => by subst e; omega), oset_ne _ _ (fun e => by subst e; omega)]), hn2.cong (fun y hy => by rw [oset_ne _ _ (fun e => by subst e; omega), oset_ne _ _ (fun e => by subst e; omega)]), hzm1.setsem hvl hxn, hS⟩ (by omega)
            | exact VE_round5 (j + 1) Z1 anc1 lab1 c ⟨rfl, rfl, rfl, rfl, rfl, rfl, rfl, rfl, rfl, rfl, rfl, rfl, rfl, rfl, rfl, rfl, rfl, rfl, rfl, rfl, rfl, rfl, rfl, rfl, rfl, rfl, rfl, rfl, trivial⟩ ⟨by omega, hc, hz1, hf1, hn2, hzm1, hS⟩ (by omega)
            | exact VE_round5 (j + 1) Z anc lab c ⟨rfl, rfl, rfl, rfl, rfl, rfl, rfl, rfl, rfl, rfl, rfl, rfl, rfl, rfl, rfl, rfl, rfl, rfl, rfl, rfl, rfl, rfl, rfl, rfl, rfl, rfl, rfl, rfl, trivial⟩ ⟨by omega, hc, hz, hf, hn1, hzm, hS⟩ (by omega)
      · replace h144 := Int.not_lt.1 (of_decide_eq_false h144)
        refine VC_exit ?_
        refine VE_then_exit (VE_then_exit (VE_block_exit ?_))
        refine VE_then ?_
        refine VC_seq ?_
        refine VC_region ?_
        obtain rfl : j = (f.Q x).length := by omega
        rw [List.take_length] at hso
        obtain ⟨s, hs, hsd⟩ := lt_sd hT hDI.nd (hP.mem x) hso hc hnx hx0 hsv
        have hsl : nuL vs s ≠ 0 := by omega
        have hsn := hlt s hsl
        have hsle : nuL vs s ≤ vs.length := nuL_le
        have e12 : Z[x + 1]! = c := by rw [hz.sem x hxn, oset_same]
        have e13 : Z[1 * (G.length + 1) + c]! = s + 1 := by
          have h1 := hzm.ver (c - 1) (by omega)
          rw [show c - 1 + 1 = c by omega] at h1
          rw [h1, ← hs, nuL_get (nuL_ne.1 hsl)]
        refine VL_val rfl rfl rfl (yd_move rfl) ?_
        refine VL_val rfl rfl rfl (yd_move rfl) ?_
        refine VL_val rfl rfl rfl (yd_move rfl) ?_
        refine VL_val rfl rfl rfl (yd_index0 rfl rfl Try.underlying118 T.sz90 (by omega)) ?_
        refine VL_val rfl rfl rfl (yd_load rfl T.one90 (zc (hS.get 0 rfl) (by omega) e12)) ?_
        refine VL_val rfl rfl rfl (yd_index1 rfl rfl Try.underlying118 T.sz90 (by omega)) ?_
        refine VL_val rfl rfl rfl (yd_load rfl T.one90 (zc (hS.get 0 rfl) (by omega) e13)) ?_
        refine VL_val rfl rfl rfl (yd_assign rfl) ?_
        refine VL_nil ?_
        refine VE_then ?_
        refine VC_seq ?_
        refine VC_region ?_
        refine VL_val rfl rfl rfl (yd_move rfl) ?_
        refine VL_val rfl rfl rfl (yd_move rfl) ?_
        refine VL_val rfl rfl rfl (yd_move rfl) ?_
        refine VL_val rfl rfl rfl (yd_move rfl) ?_
        refine VL_val rfl rfl rfl (yd_index1 rfl rfl Try.underlying118 T.sz90 (by omega)) ?_
        refine VL_val rfl rfl rfl (yd_load rfl T.one90 (zc (hS.get 0 rfl) (by omega) (hzm.hd s hsn))) ?_
        refine VL_val rfl rfl rfl (yd_index1 rfl rfl Try.underlying118 T.sz90 (by omega)) ?_
        refine VL_storeM (f := iN) rfl rfl rfl rfl rfl T.one90 rfl hS 0 rfl (by omega) rfl ?_
        clear hS; intro w hS
        have hz2 := hz.set6 (c := oN (hd s)) hxn
        have hzm2 := hzm.setlk hvl hZ (hd s) hxn
        have hZ2 := hz2.len
        refine VL_nil ?_
        refine VE_then ?_
        refine VC_seq ?_
        refine VC_region ?_
        refine VL_val rfl rfl rfl (yd_move rfl) ?_
        refine VL_val rfl rfl rfl (yd_move rfl) ?_
        refine VL_val rfl rfl rfl (yd_move rfl) ?_
        refine VL_val rfl rfl rfl (yd_index1 rfl rfl Try.underlying118 T.sz90 (by omega)) ?_
        refine VL_storeM (f := iN) (v := oN (some x)) rfl rfl rfl rfl rfl T.one90 rfl hS 0 rfl (by omega) rfl ?_
        clear hS; intro w hS
        have hz3 := hz2.set5 (c := oN (some x)) hsn
        have hzm3 := hzm2.sethd hvl hZ2 (some x) hsn
        have hZ3 := hz3.len
        refine VL_nil ?_
        refine VE_then ?_
        refine VC_seq ?_
        refine VC_region ?_
        refine VL_val rfl rfl rfl (yd_move rfl) ?_
        refine VL_val rfl rfl rfl (yd_move rfl) ?_
        refine VL_val rfl rfl rfl (yd_index1 rfl rfl Try.underlying118 T.sz90 (by omega)) ?_
        refine VL_val rfl rfl rfl (yd_load rfl T.one90 (zc (hS.get 0 rfl) (by omega) (hzm3.par x hxn hx0 hxm))) ?_
        refine VL_val rfl rfl rfl (yd_move rfl) ?_
        refine VL_val rfl rfl rfl (yd_move rfl) ?_
        refine VL_call rfl rfl rfl rfl T.call76 rfl (link_ok (hS.get 0 rfl) hZ3 hxn) ?_
        rintro _ w hR
        have hS := hS.call1 0 rfl hR
        have hz4 := hz3.setanc (some (pr x)) hxn
        have hzm4 := hzm3.setanc (c := oN (some (pr x))) hvl hxn
        have hf4 := FI.link hT hf hnx (by omega) hx0
        have hsv4 := hsv.step hT hnx (by omega) hsd hs.symm
        have hbi4 := BI.add hT hbi hnx (by omega) hsd
        have hZ4 := hz4.len
        obtain ⟨B, hch, hBm⟩ := hbi4 (pr x)
        refine VL_nil ?_
        refine VE_then ?_
        refine VC_seq ?_
        refine VC_region ?_
        refine VL_val rfl rfl rfl (yd_move rfl) ?_
        refine VL_val rfl rfl rfl (yd_move rfl) ?_
        refine VL_val rfl rfl rfl (yd_move rfl) ?_
        refine VL_val rfl rfl rfl (yd_index1 rfl rfl Try.underlying118 T.sz90 (by omega)) ?_
        refine VL_val rfl rfl rfl (yd_load rfl T.one90 (zc (hS.get 0 rfl) (by rw [List.length_set]; omega) (hzm4.par x hxn hx0 hxm))) ?_
        refine VL_val rfl rfl rfl (yd_index1 rfl rfl Try.underlying118 T.sz90 (by omega)) ?_
        refine VL_val rfl rfl rfl (yd_load rfl T.one90 (zc (hS.get 0 rfl) (by rw [List.length_set]; omega) (hzm4.hd (pr x) hpn))) ?_
        refine VL_val rfl rfl rfl (yd_assign rfl) ?_
        refine VL_nil ?_
        refine VE_then ?_
        refine VC_block ?_
        refine VC_loop6 [4, 7, 8, 9, 10, 11, 12, 13, 14, 17, 18, 19, 20, 25, 127, 128, 131, 132, 133, 134, 135, 136, 137, 138, 139, 140, 141, 142, 143, 144, 182, 183, 184, 185, 186, 187, 188, 189, 190, 191, 192, 193, 194, 195, 196, 197, 198, 199, 200, 201, 202, 203, 204, 205, 207, 208, 209, 210, 211, 212, 213] [_, _, _, _, _, _, _, _, _, _, _, _, _, _, _, _, _, _, _, _, _, _, _, _, _, _, _, _, _, _, _, _, _, _, _, _, _, _, _, _, _, _, _, _, _, _, _, _, _, _, _, _, _, _, _, _, _, _, _, _, _] rfl (fun (cur : Option Nat) (rem : List Nat) (Z : List Nat) (anc : Nat → Option Nat) (lab : Nat → Nat) (L1 : List (Option Nat)) => [(26, .int .i32 ((oN cur : Nat) : Int))]) (fun (cur : Option Nat) (rem : List Nat) (Z : List Nat) (anc : Nat → Option Nat) (lab : Nat → Nat) (L1 : List (Option Nat)) w => Ch (oset lk x (hd s)) cur rem ∧ (∀ v ∈ rem, v ∈ B) ∧ (∀ v ∈ B, v ∈ rem ∨ ∃ o, L1[v + 1]! = some o ∧ RelD G (nuL vs) pr v o) ∧ (∀ v, v ∉ B → L1[v + 1]! = L[v + 1]!) ∧ ZF G.length Z (nuL vs) (oset sv x c) anc lab ∧ FI (nuL vs) pr (oset sv x c) (q + 1) anc lab ∧ ZM G.length Z vs pr (oset hd s (some x)) (oset lk x (hd s)) ∧ LOK G.length vs L1 ∧ St w0 M0 [blk bs 90 (Z.map iN), blk bF 82 ((FrL G.length).map (pP f)), blk bI 82 (L1.map (pP f))] w) (fun (cur : Option Nat) (rem : List Nat) (Z : List Nat) (anc : Nat → Option Nat) (lab : Nat → Nat) (L1 : List (Option Nat)) => rem.length) (oset hd s (some x) (pr x)) B _ _ _ L ⟨rfl, trivial⟩ (⟨hch, fun _ h => h, fun _ h => .inl h, fun _ _ => rfl, hz4, hf4, hzm4, hL, hS⟩) ?_
        clear hS hz hf hzm hz2 hz3 hz4 hzm2 hzm3 hzm4 hf4 hZ hZ2 hZ3 hZ4 hL hch e12 e13 hso; rintro cur rem Z anc lab L1 w ⟨hch, hrB, hBd, hBn, hz, hf, hzm, hL, hS⟩
        have hZ := hz.len
        refine VC_seq ?_
        refine VC_seq ?_
        refine VC_region ?_
        refine VL_val rfl rfl rfl (yd_move rfl) ?_
        refine VL_val rfl rfl rfl (yd_neq rfl rfl) ?_
        refine VL_nil ?_
        refine VE_then ?_
        refine VC_cond rfl (fun h215 => ?_) (fun h215 => ?_)
        · replace h215 := of_decide_eq_true h215
          obtain ⟨v, rem1, rfl, rfl, hch1⟩ : ∃ v rem1, cur = some v ∧ rem = v :: rem1 ∧ Ch (oset lk x (hd s)) (oset lk x (hd s) v) rem1 := by
            cases hch with
            | nil => exact absurd rfl h215
            | cons h => exact ⟨_, _, rfl, rfl, h⟩
          obtain ⟨hvk, hvp⟩ := (hBm v).1 (hrB v (by simp))
          have hvz : nuL vs v ≠ 0 := by omega
          have hvn := hlt v hvz
          have hv0 : v ≠ 0 := fun e => by subst e; have := hT.zero; omega
          refine VC_skip ?_
          refine VE_then ?_
          refine VC_seq ?_
          refine VC_block ?_
          refine VC_seq ?_
          refine VC_region ?_
          refine VL_val rfl rfl rfl (yd_move rfl) ?_
          refine VL_val rfl rfl rfl (yd_move rfl) ?_
          refine VL_val rfl rfl rfl (yd_move rfl) ?_
          refine VL_val rfl rfl rfl (yd_move rfl) ?_
          refine VL_call rfl rfl rfl rfl T.call75 rfl (eval_ok (x := v) hT hlt (show 0 < q + 1 by omega) (hS.get 0 rfl) hz hf hvz) ?_
          rintro _ w ⟨Z1, anc1, lab1, u, rfl, hev, hul, hR, hz1, hf1, hkp⟩
          have hS := hS.call1 0 rfl hR
          have hzm1 := hzm.kept hvl hkp
          have hZ1 := hz1.len
          have hun := hlt u hul
          have eu := hz1.sem u hun
          have ev := hz1.sem v hvn
          have hrel := hsv4.rel hT hnx (by omega) hx0 hvk hvp hev
          have hLl := hL.len
          refine VL_val rfl rfl rfl (yd_assign rfl) ?_
          refine VL_nil ?_
          refine VE_then ?_
          refine VC_seq ?_
          refine VC_draw T.mixed hS ?_
          clear hS; intro w hS
          refine VA_take (i := 0) rfl rfl rfl rfl (by kernel_rfl) (by kernel_rfl) (by kernel_rfl) #[true, false, false, false, false, false, false, false, false] (by kernel_rfl) (fun _ _ _ _ h => h) (fun w hS => yd_move rfl) ?_
          refine VA_take (i := 1) rfl rfl rfl rfl (by kernel_rfl) (by kernel_rfl) (by kernel_rfl) #[true, true, false, false, false, false, false, false, false] (by kernel_rfl) (fun _ _ _ _ h => h) (fun w hS => yd_move rfl) ?_
          refine VA_take (i := 2) rfl rfl rfl rfl (by kernel_rfl) (by kernel_rfl) (by kernel_rfl) #[true, true, true, false, false, false, false, false, false] (by kernel_rfl) (fun _ _ _ _ h => h) (fun w hS => yd_index0 rfl rfl Try.underlying118 T.sz90 (by omega)) ?_
          refine VA_take (i := 3) rfl rfl rfl rfl (by kernel_rfl) (by kernel_rfl) (by kernel_rfl) #[true, true, true, true, false, false, false, false, false] (by kernel_rfl) (fun _ _ _ _ h => h) (fun w hS => yd_load rfl T.one90 (zc (hS.get 0 rfl) (by omega) eu)) ?_
          refine VA_take (i := 4) rfl rfl rfl rfl (by kernel_rfl) (by kernel_rfl) (by kernel_rfl) #[true, true, true, true, true, false, false, false, false] (by kernel_rfl) (fun _ _ _ _ h => h) (fun w hS => yd_move rfl) ?_
          refine VA_take (i := 5) rfl rfl rfl rfl (by kernel_rfl) (by kernel_rfl) (by kernel_rfl) #[true, true, true, true, true, true, false, false, false] (by kernel_rfl) (fun _ _ _ _ h => h) (fun w hS => yd_move rfl) ?_
          refine VA_take (i := 6) rfl rfl rfl rfl (by kernel_rfl) (by kernel_rfl) (by kernel_rfl) #[true, true, true, true, true, true, true, false, false] (by kernel_rfl) (fun _ _ _ _ h => h) (fun w hS => yd_index0 rfl rfl Try.underlying118 T.sz90 (show v + 1 < G.length + 1 by omega)) ?_
          refine VA_take (i := 7) rfl rfl rfl rfl (by kernel_rfl) (by kernel_rfl) (by kernel_rfl) #[true, true, true, true, true, true, true, true, false] (by kernel_rfl) (fun _ _ _ _ h => h) (fun w hS => yd_load rfl T.one90 (zc (hS.get 0 rfl) (show v + 1 < Z1.length by omega) ev)) ?_
          refine VA_take (i := 8) rfl rfl rfl rfl (by kernel_rfl) (by kernel_rfl) (by kernel_rfl) #[true, true, true, true, true, true, true, true, true] (by kernel_rfl) (fun _ _ _ _ h => h) (fun w hS => yd_lss rfl rfl) ?_
          refine VA_done (by kernel_rfl) hS ?_
          refine VE_then ?_
          refine VC_cond rfl (fun h233 => ?_) (fun h233 => ?_)
          · replace h233 := of_decide_eq_true h233
            rw [if_pos (by omega)] at hrel
            refine VC_region ?_
            refine VL_val rfl rfl rfl (yd_move rfl) ?_
            refine VL_val rfl rfl rfl (yd_move rfl) ?_
            refine VL_val rfl rfl rfl (yd_move rfl) ?_
            refine VL_val rfl rfl rfl (yd_move rfl) ?_
            refine VL_val rfl rfl rfl (yd_index0 rfl rfl Try.underlying72 T.sz82 (by omega)) ?_
            refine VL_val rfl rfl rfl (yd_load rfl T.one82 (fr_cell (hS.get 1 rfl) hun)) ?_
            refine VL_val rfl rfl rfl (yd_index0 rfl rfl Try.underlying72 T.sz82 (show v + 1 < G.length + 1 by omega)) ?_
            refine VL_storeM (f := pP f) (v := some u) rfl rfl rfl rfl rfl T.one82 rfl hS 2 rfl (show v + 1 < L1.length by omega) rfl ?_
            clear hS; intro w hS
            refine VL_nil ?_
            refine VE_block_normal ?_
            refine VE_then ?_
            refine VC_region ?_
            refine VL_val rfl rfl rfl (yd_move rfl) ?_
            refine VL_val rfl rfl rfl (yd_move rfl) ?_
            refine VL_val rfl rfl rfl (yd_index1 rfl rfl Try.underlying118 T.sz90 (show v + 1 < G.length + 1 by omega)) ?_
            refine VL_val rfl rfl rfl (yd_load rfl T.one90 (zc (hS.get 0 rfl) (show 6 * (G.length + 1) + (v + 1) < Z1.length by omega) (hzm1.lk v hvn))) ?_
            refine VL_val rfl rfl rfl (yd_assign rfl) ?_
            refine VL_nil ?_
            have key : ∀ o, RelD G (nuL vs) pr v o → o < G.length → (∀ y ∈ rem1, y ∈ B) ∧ (∀ y ∈ B, y ∈ rem1 ∨ ∃ o', (L1.set (v + 1) (some o))[y + 1]! = some o' ∧ RelD G (nuL vs) pr y o') ∧ (∀ y, y ∉ B → (L1.set (v + 1) (some o))[y + 1]! = L[y + 1]!) ∧ LOK G.length vs (L1.set (v + 1) (some o)) := by
              intro o ho hon
              refine ⟨fun y hy => hrB y (by simp [hy]), fun y hy => ?_, fun y hy => ?_, hL.set hvn hv0 (nuL_ne.1 hvz) hon⟩
              · by_cases e : y = v
                · subst e; exact .inr ⟨o, get!_set_self _ _ _ (by omega), ho⟩
                · rw [get!_set_ne _ _ (by omega)]
                  rcases hBd y hy with h1 | h1
                  · rcases List.mem_cons.1 h1 with h1 | h1
                    · exact absurd h1 e
                    · exact .inl h1
                  · exact .inr h1
              · have e : y ≠ v := fun e => hy (by rw [e]; exact hrB v (by simp))
                rw [get!_set_ne _ _ (by omega)]; exact hBn y hy
            first
            | (obtain ⟨k1, k2, k3, k4⟩ := key u hrel hun; exact VE_round6 (oset lk x (hd s) v) rem1 Z1 anc1 lab1 (L1.set (v + 1) (some u)) ⟨rfl, rfl, rfl, rfl, rfl, rfl, rfl, rfl, rfl, rfl, rfl, rfl, rfl, rfl, rfl, rfl, rfl, rfl, rfl, rfl, rfl, rfl, rfl, rfl, rfl, rfl, rfl, rfl, rfl, rfl, rfl, rfl, rfl, rfl, rfl, rfl, rfl, rfl, rfl, rfl, rfl, rfl, rfl, rfl, rfl, rfl, rfl, rfl, rfl, rfl, rfl, rfl, rfl, rfl, rfl, rfl, rfl, rfl, rfl, rfl, rfl, rfl, trivial⟩ ⟨hch1, k1, k2, k3, hz1, hf1, hzm1, k4, hS⟩ (by simp))
            | (obtain ⟨k1, k2, k3, k4⟩ := key (pr x) hrel hpn; exact VE_round6 (oset lk x (hd s) v) rem1 Z1 anc1 lab1 (L1.set (v + 1) (some (pr x))) ⟨rfl, rfl, rfl, rfl, rfl, rfl, rfl, rfl, rfl, rfl, rfl, rfl, rfl, rfl, rfl, rfl, rfl, rfl, rfl, rfl, rfl, rfl, rfl, rfl, rfl, rfl, rfl, rfl, rfl, rfl, rfl, rfl, rfl, rfl, rfl, rfl, rfl, rfl, rfl, rfl, rfl, rfl, rfl, rfl, rfl, rfl, rfl, rfl, rfl, rfl, rfl, rfl, rfl, rfl, rfl, rfl, rfl, rfl, rfl, rfl, rfl, rfl, trivial⟩ ⟨hch1, k1, k2, k3, hz1, hf1, hzm1, k4, hS⟩ (by simp))
          · replace h233 := Int.not_lt.1 (of_decide_eq_false h233)
            rw [if_neg (by omega)] at hrel
            refine VC_region ?_
            refine VL_val rfl rfl rfl (yd_move rfl) ?_
            refine VL_val rfl rfl rfl (yd_move rfl) ?_
            refine VL_val rfl rfl rfl (yd_move rfl) ?_
            refine VL_val rfl rfl rfl (yd_move rfl) ?_
            refine VL_val rfl rfl rfl (yd_move rfl) ?_
            refine VL_val rfl rfl rfl (yd_index1 rfl rfl Try.underlying118 T.sz90 (by omega)) ?_
            refine VL_val rfl rfl rfl (yd_load rfl T.one90 (zc (hS.get 0 rfl) (by omega) (hzm1.par x hxn hx0 hxm))) ?_
            refine VL_val rfl rfl rfl (yd_index0 rfl rfl Try.underlying72 T.sz82 (by omega)) ?_
            refine VL_val rfl rfl rfl (yd_load rfl T.one82 (fr_cell (hS.get 1 rfl) hpn)) ?_
            refine VL_val rfl rfl rfl (yd_index0 rfl rfl Try.underlying72 T.sz82 (show v + 1 < G.length + 1 by omega)) ?_
            refine VL_storeM (f := pP f) (v := some (pr x)) rfl rfl rfl rfl rfl T.one82 rfl hS 2 rfl (show v + 1 < L1.length by omega) rfl ?_
            clear hS; intro w hS
            refine VL_nil ?_
            refine VE_block_normal ?_
            refine VE_then ?_
            refine VC_region ?_
            refine VL_val rfl rfl rfl (yd_move rfl) ?_
            refine VL_val rfl rfl rfl (yd_move rfl) ?_
            refine VL_val rfl rfl rfl (yd_index1 rfl rfl Try.underlying118 T.sz90 (show v + 1 < G.length + 1 by omega)) ?_
            refine VL_val rfl rfl rfl (yd_load rfl T.one90 (zc (hS.get 0 rfl) (show 6 * (G.length + 1) + (v + 1) < Z1.length by omega) (hzm1.lk v hvn))) ?_
            refine VL_val rfl rfl rfl (yd_assign rfl) ?_
            refine VL_nil ?_
            have key : ∀ o, RelD G (nuL vs) pr v o → o < G.length → (∀ y ∈ rem1, y ∈ B) ∧ (∀ y ∈ B, y ∈ rem1 ∨ ∃ o', (L1.set (v + 1) (some o))[y + 1]! = some o' ∧ RelD G (nuL vs) pr y o') ∧ (∀ y, y ∉ B → (L1.set (v + 1) (some o))[y + 1]! = L[y + 1]!) ∧ LOK G.length vs (L1.set (v + 1) (some o)) := by
              intro o ho hon
              refine ⟨fun y hy => hrB y (by simp [hy]), fun y hy => ?_, fun y hy => ?_, hL.set hvn hv0 (nuL_ne.1 hvz) hon⟩
              · by_cases e : y = v
                · subst e; exact .inr ⟨o, get!_set_self _ _ _ (by omega), ho⟩
                · rw [get!_set_ne _ _ (by omega)]
                  rcases hBd y hy with h1 | h1
                  · rcases List.mem_cons.1 h1 with h1 | h1
                    · exact absurd h1 e
                    · exact .inl h1
                  · exact .inr h1
              · have e : y ≠ v := fun e => hy (by rw [e]; exact hrB v (by simp))
                rw [get!_set_ne _ _ (by omega)]; exact hBn y hy
            first
            | (obtain ⟨k1, k2, k3, k4⟩ := key u hrel hun; exact VE_round6 (oset lk x (hd s) v) rem1 Z1 anc1 lab1 (L1.set (v + 1) (some u)) ⟨rfl, rfl, rfl, rfl, rfl, rfl, rfl, rfl, rfl, rfl, rfl, rfl, rfl, rfl, rfl, rfl, rfl, rfl, rfl, rfl, rfl, rfl, rfl, rfl, rfl, rfl, rfl, rfl, rfl, rfl, rfl, rfl, rfl, rfl, rfl, rfl, rfl, rfl, rfl, rfl, rfl, rfl, rfl, rfl, rfl, rfl, rfl, rfl, rfl, rfl, rfl, rfl, rfl, rfl, rfl, rfl, rfl, rfl, rfl, rfl, rfl, rfl, trivial⟩ ⟨hch1, k1, k2, k3, hz1, hf1, hzm1, k4, hS⟩ (by simp))
            | (obtain ⟨k1, k2, k3, k4⟩ := key (pr x) hrel hpn; exact VE_round6 (oset lk x (hd s) v) rem1 Z1 anc1 lab1 (L1.set (v + 1) (some (pr x))) ⟨rfl, rfl, rfl, rfl, rfl, rfl, rfl, rfl, rfl, rfl, rfl, rfl, rfl, rfl, rfl, rfl, rfl, rfl, rfl, rfl, rfl, rfl, rfl, rfl, rfl, rfl, rfl, rfl, rfl, rfl, rfl, rfl, rfl, rfl, rfl, rfl, rfl, rfl, rfl, rfl, rfl, rfl, rfl, rfl, rfl, rfl, rfl, rfl, rfl, rfl, rfl, rfl, rfl, rfl, rfl, rfl, rfl, rfl, rfl, rfl, rfl, rfl, trivial⟩ ⟨hch1, k1, k2, k3, hz1, hf1, hzm1, k4, hS⟩ (by simp))
        · replace h215 := Decidable.not_not.1 (of_decide_eq_false h215)
          have hrem : rem = [] := by
            cases hch with
            | nil => rfl
            | cons h => exact absurd h215 (by simp [oN]; omega)
          refine VC_exit ?_
          refine VE_then_exit (VE_then_exit (VE_block_exit ?_))
          refine VE_block_normal ?_
          refine VE_then ?_
          refine VC_region ?_
          refine VL_val rfl rfl rfl (yd_move rfl) ?_
          refine VL_val rfl rfl rfl (yd_sub rfl rfl ((q : Nat) : Int) (by rw [wi32 (by omega) (by omega)]; omega)) ?_
          refine VL_val rfl rfl rfl (yd_assign rfl) ?_
          refine VL_nil ?_
          subst hrem
          have hst4 := hst.step hT hnx (by omega) (L' := L1) (fun v h1 h2 => by
            rcases hBd v ((hBm v).2 ⟨h1, h2⟩) with k | k
            · simp at k
            · exact k) (fun v h => hBn v (fun hm => h ((hBm v).1 hm)))
          exact VE_round8 q Z anc lab (oset sv x c) (oset hd s (some x)) (oset lk x (hd s)) L1 ⟨rfl, rfl, rfl, rfl, rfl, rfl, rfl, rfl, rfl, rfl, rfl, rfl, trivial⟩ ⟨by omega, by omega, hsv4, hf, hbi4, hz, hzm, hst4, hL, hS⟩ (by omega)
    · replace h128 := Int.not_le.1 (of_decide_eq_false h128)
      obtain rfl : i = 1 := by omega
      refine VC_exit ?_
      refine VE_then_exit (VE_then_exit (VE_block_exit ?_))
      refine VE_then ?_
      refine VC_seq ?_
      refine VC_seq ?_
      refine VC_region ?_
      have ge2 : ∀ y, nuL vs y ≠ 0 → y ≠ 0 → 2 ≤ nuL vs y := fun y hy h0 => by
        have h1 := hT.zero
        have h2 : nuL vs y ≠ nuL vs 0 := fun e => h0 (hT.inj y 0 e hy)
        omega
      have hex : ∀ y, nuL vs y ≠ 0 → y ≠ 0 → ∃ t, IsSd G (nuL vs) t y := fun y hy h0 => by
        obtain ⟨t, ht, _⟩ := hsv.hi y (ge2 y hy h0); exact ⟨t, ht⟩
      refine VL_val rfl rfl rfl (yd_assign rfl) ?_
      refine VL_nil ?_
      refine VE_then ?_
      refine VC_block ?_
      refine VC_loop2 [4, 7, 8, 17, 18] [_, _, _, _, _] rfl (fun (i : Nat) (L1 : List (Option Nat)) => [(28, .int .i32 ((i : Nat) : Int))]) (fun (i : Nat) (L1 : List (Option Nat)) w => 2 ≤ i ∧ i ≤ vs.length + 1 ∧ LOK G.length vs L1 ∧ (∀ x, nuL vs x ≠ 0 → x ≠ 0 → nuL vs x < i → ∃ d, L1[x + 1]! = some d ∧ IsIdom G d x) ∧ (∀ x, i ≤ nuL vs x → ∃ o, L1[x + 1]! = some o ∧ RelD G (nuL vs) pr x o) ∧ St w0 M0 [blk bs 90 (Z.map iN), blk bF 82 ((FrL G.length).map (pP f)), blk bI 82 (L1.map (pP f))] w) (fun (i : Nat) (L1 : List (Option Nat)) => vs.length + 1 - i) 2 L ⟨rfl, trivial⟩ (⟨by omega, by omega, hL, fun x hx h0 h2 => by have := ge2 x hx h0; omega, fun x hx => hst.all hT hsv (by omega) (fun e => by subst e; have := hT.zero; omega), hS⟩) ?_
      clear hS hL hst; rintro i L1 w ⟨hi2, hil, hL, hfin, hrest, hS⟩
      refine VC_seq ?_
      refine VC_seq ?_
      refine VC_region ?_
      refine VL_val rfl rfl rfl (yd_move rfl) ?_
      refine VL_val rfl rfl rfl (yd_move rfl) ?_
      refine VL_val rfl rfl rfl (yd_leq rfl rfl) ?_
      refine VL_nil ?_
      refine VE_then ?_
      refine VC_cond rfl (fun h253 => ?_) (fun h253 => ?_)
      · replace h253 := of_decide_eq_true h253
        obtain ⟨q, rfl⟩ : ∃ q, i = q + 1 := ⟨i - 1, by omega⟩
        obtain ⟨x, hx⟩ : ∃ x, x = vs[q]! := ⟨_, rfl⟩
        have hnx : nuL vs x = q + 1 := by rw [hx]; exact nuL_of hDI.nd (by omega)
        have hxm : x ∈ vs := nuL_ne.1 (by omega)
        have hxn := hDI.vlt x hxm
        have hx0 : x ≠ 0 := fun e => by subst e; have := hT.zero; omega
        have e1 : Z[1 * (G.length + 1) + (q + 1)]! = x + 1 := by rw [hzm.ver q (by omega), hx]
        obtain ⟨o, ho, hrel⟩ := hrest x (by omega)
        have hon := hL.lt x hxn o ho
        obtain ⟨s, hsd, hss⟩ := hsv.hi x (by omega)
        have e2 : Z[x + 1]! = nuL vs s := by rw [hz.sem x hxn, hss]
        have hsl := hsd.live
        have hsle : nuL vs s ≤ vs.length := nuL_le
        have e3 : Z[1 * (G.length + 1) + nuL vs s]! = s + 1 := by
          have h1 := hzm.ver (nuL vs s - 1) (by omega)
          rw [show nuL vs s - 1 + 1 = nuL vs s by omega] at h1
          rw [h1, nuL_get (nuL_ne.1 hsl)]
        have hLl := hL.len
        have hlast := hrel.last hT (by omega) hx0 hsd hex
        refine VC_skip ?_
        refine VE_then ?_
        refine VC_seq ?_
        refine VC_block ?_
        refine VC_seq ?_
        refine VC_region ?_
        refine VL_val rfl rfl rfl (yd_move rfl) ?_
        refine VL_val rfl rfl rfl (yd_move rfl) ?_
        refine VL_val rfl rfl rfl (yd_index1 rfl rfl Try.underlying118 T.sz90 (by omega)) ?_
        refine VL_val rfl rfl rfl (yd_load rfl T.one90 (zc (hS.get 0 rfl) (by omega) e1)) ?_
        refine VL_val rfl rfl rfl (yd_assign rfl) ?_
        refine VL_nil ?_
        refine VE_then ?_
        refine VC_seq ?_
        refine VC_draw T.mixed hS ?_
        clear hS; intro w hS
        refine VA_take (i := 0) rfl rfl rfl rfl (by kernel_rfl) (by kernel_rfl) (by kernel_rfl) #[true, false, false, false, false, false, false, false, false, false, false, false, false, false, false] (by kernel_rfl) (fun _ _ _ _ h => h) (fun w hS => yd_move rfl) ?_
        refine VA_take (i := 1) rfl rfl rfl rfl (by kernel_rfl) (by kernel_rfl) (by kernel_rfl) #[true, true, false, false, false, false, false, false, false, false, false, false, false, false, false] (by kernel_rfl) (fun _ _ _ _ h => h) (fun w hS => yd_move rfl) ?_
        refine VA_take (i := 2) rfl rfl rfl rfl (by kernel_rfl) (by kernel_rfl) (by kernel_rfl) #[true, true, true, false, false, false, false, false, false, false, false, false, false, false, false] (by kernel_rfl) (fun _ _ _ _ h => h) (fun w hS => yd_index0 rfl rfl Try.underlying72 T.sz82 (by omega)) ?_
        refine VA_take (i := 3) rfl rfl rfl rfl (by kernel_rfl) (by kernel_rfl) (by kernel_rfl) #[true, true, true, true, false, false, false, false, false, false, false, false, false, false, false] (by kernel_rfl) (fun _ _ _ _ h => h) (fun w hS => yd_load rfl T.one82 (idc (hS.get 2 rfl) (by omega) ho)) ?_
        refine VA_take (i := 4) rfl rfl rfl rfl (by kernel_rfl) (by kernel_rfl) (by kernel_rfl) #[true, true, true, true, true, false, false, false, false, false, false, false, false, false, false] (by kernel_rfl) (fun _ _ _ _ h => h) (fun w hS => yd_nilc rfl) ?_
        refine VA_take (i := 5) rfl rfl rfl rfl (by kernel_rfl) (by kernel_rfl) (by kernel_rfl) #[true, true, true, true, true, true, false, false, false, false, false, false, false, false, false] (by kernel_rfl) (fun _ _ _ _ h => h) (fun w hS => yd_field rfl T.fld93_0) ?_
        refine VA_take (i := 6) rfl rfl rfl rfl (by kernel_rfl) (by kernel_rfl) (by kernel_rfl) #[true, true, true, true, true, true, true, false, false, false, false, false, false, false, false] (by kernel_rfl) (fun _ _ _ _ h => h) (fun w hS => yd_load rfl T.one90 (hS.cell0 (hA.id o hon))) ?_
        refine VA_take (i := 7) rfl rfl rfl rfl (by kernel_rfl) (by kernel_rfl) (by kernel_rfl) #[true, true, true, true, true, true, true, true, false, false, false, false, false, false, false] (by kernel_rfl) (fun _ _ _ _ h => h) (fun w hS => yd_move rfl) ?_
        refine VA_take (i := 8) rfl rfl rfl rfl (by kernel_rfl) (by kernel_rfl) (by kernel_rfl) #[true, true, true, true, true, true, true, true, true, false, false, false, false, false, false] (by kernel_rfl) (fun _ _ _ _ h => h) (fun w hS => yd_move rfl) ?_
        refine VA_take (i := 9) rfl rfl rfl rfl (by kernel_rfl) (by kernel_rfl) (by kernel_rfl) #[true, true, true, true, true, true, true, true, true, true, false, false, false, false, false] (by kernel_rfl) (fun _ _ _ _ h => h) (fun w hS => yd_move rfl) ?_
        refine VA_take (i := 10) rfl rfl rfl rfl (by kernel_rfl) (by kernel_rfl) (by kernel_rfl) #[true, true, true, true, true, true, true, true, true, true, true, false, false, false, false] (by kernel_rfl) (fun _ _ _ _ h => h) (fun w hS => yd_index0 rfl rfl Try.underlying118 T.sz90 (by omega)) ?_
        refine VA_take (i := 11) rfl rfl rfl rfl (by kernel_rfl) (by kernel_rfl) (by kernel_rfl) #[true, true, true, true, true, true, true, true, true, true, true, true, false, false, false] (by kernel_rfl) (fun _ _ _ _ h => h) (fun w hS => yd_load rfl T.one90 (zc (hS.get 0 rfl) (by omega) e2)) ?_
        refine VA_take (i := 12) rfl rfl rfl rfl (by kernel_rfl) (by kernel_rfl) (by kernel_rfl) #[true, true, true, true, true, true, true, true, true, true, true, true, true, false, false] (by kernel_rfl) (fun _ _ _ _ h => h) (fun w hS => yd_index1 rfl rfl Try.underlying118 T.sz90 (by omega)) ?_
        refine VA_take (i := 13) rfl rfl rfl rfl (by kernel_rfl) (by kernel_rfl) (by kernel_rfl) #[true, true, true, true, true, true, true, true, true, true, true, true, true, true, false] (by kernel_rfl) (fun _ _ _ _ h => h) (fun w hS => yd_load rfl T.one90 (zc (hS.get 0 rfl) (by omega) e3)) ?_
        refine VA_take (i := 14) rfl rfl rfl rfl (by kernel_rfl) (by kernel_rfl) (by kernel_rfl) #[true, true, true, true, true, true, true, true, true, true, true, true, true, true, true] (by kernel_rfl) (fun _ _ _ _ h => h) (fun w hS => yd_neq rfl rfl) ?_
        refine VA_done (by kernel_rfl) hS ?_
        refine VE_then ?_
        refine VC_cond rfl (fun h274 => ?_) (fun h274 => ?_)
        · replace h274 := of_decide_eq_true h274
          obtain ⟨_, ho0, hol, holt, hod⟩ : o ≠ s ∧ o ≠ 0 ∧ nuL vs o ≠ 0 ∧ nuL vs o < nuL vs x ∧ ∀ d, IsIdom G d o → IsIdom G d x := by
            rcases hlast with ⟨k1, _⟩ | k
            · subst k1; exact absurd rfl h274
            · exact k
          obtain ⟨d, hd1, hd2⟩ := hfin o hol ho0 (by omega)
          have hdx := hod d hd2
          have hdn := hL.lt o hon d hd1
          refine VC_region ?_
          refine VL_val rfl rfl rfl (yd_move rfl) ?_
          refine VL_val rfl rfl rfl (yd_move rfl) ?_
          refine VL_val rfl rfl rfl (yd_move rfl) ?_
          refine VL_val rfl rfl rfl (yd_move rfl) ?_
          refine VL_val rfl rfl rfl (yd_move rfl) ?_
          refine VL_val rfl rfl rfl (yd_index0 rfl rfl Try.underlying72 T.sz82 (by omega)) ?_
          refine VL_val rfl rfl rfl (yd_load rfl T.one82 (idc (hS.get 2 rfl) (by omega) ho)) ?_
          refine VL_val rfl rfl rfl (yd_nilc rfl) ?_
          refine VL_val rfl rfl rfl (yd_field rfl T.fld93_0) ?_
          refine VL_val rfl rfl rfl (yd_load rfl T.one90 (hS.cell0 (hA.id o hon))) ?_
          refine VL_val rfl rfl rfl (yd_index0 rfl rfl Try.underlying72 T.sz82 (by omega)) ?_
          refine VL_val rfl rfl rfl (yd_load rfl T.one82 (idc (hS.get 2 rfl) (by omega) hd1)) ?_
          refine VL_val rfl rfl rfl (yd_index0 rfl rfl Try.underlying72 T.sz82 (by omega)) ?_
          refine VL_storeM (f := pP f) (v := some d) rfl rfl rfl rfl rfl T.one82 rfl hS 2 rfl (by omega) rfl ?_
          clear hS; intro w hS
          refine VL_nil ?_
          refine VE_block_normal ?_
          refine VE_then ?_
          refine VC_region ?_
          refine VL_val rfl rfl rfl (yd_move rfl) ?_
          refine VL_val rfl rfl rfl (yd_add rfl rfl ((q + 1 + 1 : Nat) : Int) (by rw [wi32 (by omega) (by omega)]; omega)) ?_
          refine VL_val rfl rfl rfl (yd_assign rfl) ?_
          refine VL_nil ?_
          have hne : ∀ y, nuL vs y ≠ 0 → y ≠ x → nuL vs y ≠ q + 1 := fun y hy hn e => hn (hT.inj y x (by omega) hy)
          have hny : ∀ y, q + 1 + 1 ≤ nuL vs y → y ≠ x := fun y hy e => by subst e; omega
          first
          | exact VE_round2 (q + 1 + 1) _ ⟨rfl, rfl, rfl, rfl, rfl, rfl, trivial⟩ ⟨by omega, by omega, hL.set hxn hx0 hxm hdn, fun y hy h0 hl => by (by_cases e : y = x; (subst e; exact ⟨d, get!_set_self _ _ _ (by omega), hdx⟩); (have := hne y hy e; rw [get!_set_ne _ _ (by omega)]; exact hfin y hy h0 (by omega))), fun y hy => by (rw [get!_set_ne _ _ (fun e => hny y hy (by omega))]; exact hrest y (by omega)), hS⟩ (by omega)
          | exact VE_round2 (q + 1 + 1) L1 ⟨rfl, rfl, rfl, rfl, rfl, rfl, trivial⟩ ⟨by omega, by omega, hL, fun y hy h0 hl => by (by_cases e : y = x; (subst e; exact ⟨o, ho, hidx⟩); (have := hne y hy e; exact hfin y hy h0 (by omega))), fun y hy => hrest y (by omega), hS⟩ (by omega)
        · replace h274 := Decidable.not_not.1 (of_decide_eq_false h274)
          have hidx : IsIdom G o x := by
            rcases hlast with ⟨k1, k2⟩ | ⟨k1, _⟩
            · rw [k1]; exact k2
            · exact absurd (by omega) k1
          refine VC_skip ?_
          refine VE_block_normal ?_
          refine VE_then ?_
          refine VC_region ?_
          refine VL_val rfl rfl rfl (yd_move rfl) ?_
          refine VL_val rfl rfl rfl (yd_add rfl rfl ((q + 1 + 1 : Nat) : Int) (by rw [wi32 (by omega) (by omega)]; omega)) ?_
          refine VL_val rfl rfl rfl (yd_assign rfl) ?_
          refine VL_nil ?_
          have hne : ∀ y, nuL vs y ≠ 0 → y ≠ x → nuL vs y ≠ q + 1 := fun y hy hn e => hn (hT.inj y x (by omega) hy)
          have hny : ∀ y, q + 1 + 1 ≤ nuL vs y → y ≠ x := fun y hy e => by subst e; omega
          first
          | exact VE_round2 (q + 1 + 1) _ ⟨rfl, rfl, rfl, rfl, rfl, rfl, trivial⟩ ⟨by omega, by omega, hL.set hxn hx0 hxm hdn, fun y hy h0 hl => by (by_cases e : y = x; (subst e; exact ⟨d, get!_set_self _ _ _ (by omega), hdx⟩); (have := hne y hy e; rw [get!_set_ne _ _ (by omega)]; exact hfin y hy h0 (by omega))), fun y hy => by (rw [get!_set_ne _ _ (fun e => hny y hy (by omega))]; exact hrest y (by omega)), hS⟩ (by omega)
          | exact VE_round2 (q + 1 + 1) L1 ⟨rfl, rfl, rfl, rfl, rfl, rfl, trivial⟩ ⟨by omega, by omega, hL, fun y hy h0 hl => by (by_cases e : y = x; (subst e; exact ⟨o, ho, hidx⟩); (have := hne y hy e; exact hfin y hy h0 (by omega))), fun y hy => hrest y (by omega), hS⟩ (by omega)
      · replace h253 := Int.not_le.1 (of_decide_eq_false h253)
        refine VC_exit ?_
        refine VE_then_exit (VE_then_exit (VE_block_exit ?_))
        refine VE_then ?_
        refine VC_seq ?_
        refine VC_region ?_
        refine VL_val rfl rfl rfl (yd_move rfl) ?_
        refine VL_val rfl rfl rfl (yd_assign rfl) ?_
        refine VL_nil ?_
        refine VE_then ?_
        refine VC_ret ?_
        refine VE_ret1D rfl rfl ?_
        intro tmps ht
        refine leaves_one T.call73 freeBlock_ok ?_
        intro w1 hR
        have hS := hS.call0 hR
        refine leaves_one T.call71 freeID_ok ?_
        intro w2 hR
        have hS := hS.call0 hR
        refine leaves_nil1 rfl ht ?_
        exact ⟨bI, L1, rfl, hL.len, hL.idoms hT (fun y hy h0 => hfin y hy h0 (by have : nuL vs y ≤ vs.length := nuL_le; omega)), hS.sub (List.Sublist.cons _ (List.Sublist.cons _ (List.Sublist.cons_cons _ (List.nil_sublist _))))⟩

end Go.Proofs.Ytmoooaaiohplhac
