/- Loops in memory; outerinner, nearestOuterLoop. -/
import Derived.Test.YtmoooaaiohplhacWy
import Derived.Test.YtmoooaaiohplhacPk
import Derived.Test.YtmoooaaiohplhacVl
namespace Go.Proofs.Ytmoooaaiohplhac
open Go Go.V
set_option linter.unusedVariables false
set_option maxRecDepth 100000

theorem T.fld85_0 : FieldT Try.prog 85 0 0 := FieldT.of (by kernel_rfl)
theorem T.fld85_1 : FieldT Try.prog 85 1 1 := FieldT.of (by kernel_rfl)
theorem T.fld85_4 : FieldT Try.prog 85 4 4 := FieldT.of (by kernel_rfl)
theorem T.one76 : OneT Try.prog 76 := ⟨⟨_, Try.underlying76, rfl⟩, by kernel_rfl⟩
theorem T.sz85 : (Try.prog.info? 85).map (·.size) = some 6 := by kernel_rfl
theorem T.call64 : CallT Try.prog 64 := CallT.of Try.func64 (by kernel_rfl) (by kernel_rfl)
theorem T.call66 : CallT Try.prog 66 := CallT.of Try.func66 (by kernel_rfl) (by kernel_rfl)
theorem T.call67 : CallT Try.prog 67 := CallT.of Try.func67 (by kernel_rfl) (by kernel_rfl)

open Go.PL
structure LRep where
  O : Nat → Option Nat
  nb : Nat → Nat
  dp : Nat → Nat
  inn : Nat → Bool
def lA (lb : Nat → Nat) (o : Option Nat) : Option Addr := o.map fun h => ⟨lb h, 0, none⟩
theorem lA_none {lb : Nat → Nat} {o : Option Nat} (h : lA lb o = none) : o = none := by cases o with | none => rfl | some i => cases h
theorem lA_some {lb : Nat → Nat} {o : Option Nat} {h : Nat} (e : o = some h) : lA lb o = some ⟨lb h, 0, none⟩ := by rw [e]; rfl
/-- The cells of the loop of a header. -/
def lcs (f : FRep) (lb : Nat → Nat) (s : LRep) (h : Nat) : List Value := [ptr (f.bb h), .pointer (lA lb (s.O h)), .int .i32 ((s.nb h : Nat) : Int), .int .i16 ((s.dp h : Nat) : Int), .bool (s.inn h), .bool false]
def loopR (f : FRep) (lb : Nat → Nat) (s : LRep) (h : Nat) : Res := blk (lb h) 85 (lcs f lb s h)
def loopsR (f : FRep) (hs : List Nat) (lb : Nat → Nat) (s : LRep) : Res := bundle (hs.map (loopR f lb s))
section
variable {f : FRep} {hs : List Nat} {lb : Nat → Nat} {s s' : LRep} {w w0 : World} {M : Nat → Prop} {η : List Res} {h i : Nat} {v : Value}
theorem loops_fp {c : Nat} : (loopsR f hs lb s).fp c ↔ ∃ h ∈ hs, c = lb h := by
  constructor
  · rintro ⟨r, hr, hc⟩
    obtain ⟨h, hh, rfl⟩ := List.mem_map.1 hr
    exact ⟨h, hh, hc⟩
  · rintro ⟨h, hh, hc⟩
    exact ⟨_, List.mem_map.2 ⟨h, hh, rfl⟩, hc⟩
theorem loop_get (hL : (loopsR f hs lb s).holds w) (hh : h ∈ hs) : (blk (lb h) 85 (lcs f lb s h)).holds w := hL.1 _ (List.mem_map.2 ⟨h, hh, rfl⟩)
theorem loop_inj (hL : (loopsR f hs lb s).holds w) {a b : Nat} (ha : a ∈ hs) (hb : b ∈ hs) (e : lb a = lb b) : a = b := by
  obtain ⟨i, hi, rfl⟩ := List.mem_iff_getElem.1 ha
  obtain ⟨j, hj, rfl⟩ := List.mem_iff_getElem.1 hb
  by_cases hij : i = j
  · subst hij; rfl
  · have := pairwise_get disj_sym hL.2 (i := i) (j := j) (x := loopR f lb s hs[i]) (y := loopR f lb s hs[j]) (by simp [hi]) (by simp [hj]) hij
    exact absurd e (this (lb hs[i]) rfl)
theorem lA_inj (hL : (loopsR f hs lb s).holds w) {o o' : Option Nat} (ho : ∀ h, o = some h → h ∈ hs) (ho' : ∀ h, o' = some h → h ∈ hs) (e : lA lb o = lA lb o') : o = o' := by
  cases o with
  | none => cases o' with
    | none => rfl
    | some b => cases e
  | some a => cases o' with
    | none => cases e
    | some b =>
      simp only [lA, Option.map_some, Option.some.injEq, Addr.mk.injEq] at e
      rw [loop_inj hL (ho a rfl) (ho' b rfl) e.1]
theorem isC_lA (hL : (loopsR f hs lb s).holds w) {o : Option Nat} (ho : ∀ h, o = some h → h ∈ hs) : IsC w (lA lb o) := by
  cases o with
  | none => exact isC_none
  | some a => exact blk_isC (loop_get hL (ho a rfl)) 0
theorem St.storeL (hS : St w0 M η w) (k : Nat) (hk : η[k]? = some (loopsR f hs lb s)) (hnd : hs.Nodup) (hh : h ∈ hs) (hv : lcs f lb s' h = (lcs f lb s h).set i v) (ho : ∀ x, x ≠ h → lcs f lb s' x = lcs f lb s x) : St w0 M (η.set k (loopsR f hs lb s')) (w.setCell ⟨lb h, i, none⟩ v) := by
  have hL := hS.get k hk
  refine hS.upd (w' := w.setCell ⟨lb h, i, none⟩ v) k hk ⟨rfl, rfl, rfl, by simp [World.setCell], fun c _ hc => RowKit.Below.heap_setCell _ _ _ _ (fun e => hc (loops_fp.2 ⟨h, hh, e⟩))⟩ (r' := loopsR f hs lb s') ⟨fun r hr => ?_, ?_⟩ (fun c hc => .inl (loops_fp.2 (loops_fp.1 hc)))
  · obtain ⟨x, hx, rfl⟩ := List.mem_map.1 hr
    by_cases e : x = h
    · subst e
      have := blk_set (loop_get hL hx) i v
      unfold loopR; rw [hv]; exact this
    · unfold loopR; rw [ho x e]
      refine (blk (lb x) 85 (lcs f lb s x)).loc w _ (fun c hc => RowKit.Below.heap_setCell _ _ _ _ (fun e2 => ?_)) (loop_get hL hx)
      have hc : c = lb x := hc
      exact e (loop_inj hL hx hh (hc ▸ e2))
  · have := hL.2
    rw [List.pairwise_map] at this ⊢
    exact this
end
section
variable {P : Program} {σ : List (Nat × Value)} {w w0 : World} {M : Nat → Prop} {η : List Res} {ops : Array Oper} {Q : Exit → Act → World → Prop} {rest : List Oper} {n : Nat} {ds : List Deferred} {o : Oper}
  {d : Option Tmp} {ty : TypeId} {pos : String} {af : Array Edge} {gd : Option (Nat × Bool)}
theorem yd_nilcO {x : Operand} {q : Option Addr} {a : Addr} (hx : ev σ x = some (.pointer q)) (hq : q = some a) : Yd P σ w ⟨d, .nilCheck x, ty, pos, af, gd⟩ (.pointer (some a)) w := by
  subst hq; exact yd_nilc hx
theorem VL_storeL {f : FRep} {hs : List Nat} {lb : Nat → Nat} {s : LRep} {h i : Nat} {v : Value} {t : TypeId} {x y : Operand} (s' : LRep) (hop : o.op = .store t x y) (hg : o.guard = none) (hd : o.dst = none) (hx : ev σ x = some (.pointer (some ⟨lb h, i, none⟩))) (hy : ev σ y = some v) (ht : OneT P t) (hv1 : v.oneCell' = true)
    (hS : St w0 M η w) (k : Nat) (hk : η[k]? = some (loopsR f hs lb s)) (hnd : hs.Nodup) (hh : h ∈ hs) (hi : i < 6) (hv : lcs f lb s' h = (lcs f lb s h).set i v) (ho : ∀ x, x ≠ h → lcs f lb s' x = lcs f lb s x)
    (hc : ∀ w, St w0 M (η.set k (loopsR f hs lb s')) w → VL P ops Q rest n ds σ w) : VL P ops Q (o :: rest) n ds σ w := by
  obtain ⟨od, oop, oty, opos, oaf, og⟩ := o
  cases hop; cases hg; cases hd
  have hb := loop_get (hS.get k hk) hh
  have hi' : i < (lcs f lb s h).length := hi
  have hcell := blk_cell hb (i := i) (v := (lcs f lb s h)[i]) (List.getElem?_eq_getElem hi')
  refine VL_unit rfl rfl (w' := w.setCell ⟨lb h, i, none⟩ v) (fun ρ hρ => ?_) (hc _ (St.storeL hS k hk hnd hh hv ho))
  simp [execOp, hρ x _ hx, hρ y _ hy, run_storeAt_one ht hv1 hcell (blk_frozen hb i)]
end
theorem lcs_O {f : FRep} {lb : Nat → Nat} {s : LRep} {h o : Nat} : lcs f lb { s with O := ost s.O h o } h = (lcs f lb s h).set 1 (.pointer (some ⟨lb o, 0, none⟩)) := by
  unfold lcs; show [_, Value.pointer (lA lb (ost s.O h o h)), _, _, _, _] = _; rw [ost_same]; rfl
theorem lcs_O' {f : FRep} {lb : Nat → Nat} {s : LRep} {h o x : Nat} (e : x ≠ h) : lcs f lb { s with O := ost s.O h o } x = lcs f lb s x := by
  unfold lcs; show [_, Value.pointer (lA lb (ost s.O h o x)), _, _, _, _] = _; rw [ost_ne _ _ e]
theorem lcs_inn {f : FRep} {lb : Nat → Nat} {s : LRep} {h : Nat} {b : Bool} : lcs f lb { s with inn := upd s.inn h b } h = (lcs f lb s h).set 4 (.bool b) := by
  unfold lcs; show [_, _, _, _, Value.bool (upd s.inn h b h), _] = _; rw [upd_same]; rfl
theorem lcs_inn' {f : FRep} {lb : Nat → Nat} {s : LRep} {h x : Nat} {b : Bool} (e : x ≠ h) : lcs f lb { s with inn := upd s.inn h b } x = lcs f lb s x := by
  unfold lcs; show [_, _, _, _, Value.bool (upd s.inn h b x), _] = _; rw [upd_ne _ _ e]
theorem lcs_nb {f : FRep} {lb : Nat → Nat} {s : LRep} {h k : Nat} : lcs f lb { s with nb := upd s.nb h k } h = (lcs f lb s h).set 2 (.int .i32 ((k : Nat) : Int)) := by
  unfold lcs; show [_, _, Value.int .i32 ((upd s.nb h k h : Nat) : Int), _, _, _] = _; rw [upd_same]; rfl
theorem lcs_nb' {f : FRep} {lb : Nat → Nat} {s : LRep} {h x k : Nat} (e : x ≠ h) : lcs f lb { s with nb := upd s.nb h k } x = lcs f lb s x := by
  unfold lcs; show [_, _, Value.int .i32 ((upd s.nb h k x : Nat) : Int), _, _, _] = _; rw [upd_ne _ _ e]
theorem lcs_dp {f : FRep} {lb : Nat → Nat} {s : LRep} {h k : Nat} : lcs f lb { s with dp := upd s.dp h k } h = (lcs f lb s h).set 3 (.int .i16 ((k : Nat) : Int)) := by
  unfold lcs; show [_, _, _, Value.int .i16 ((upd s.dp h k h : Nat) : Int), _, _] = _; rw [upd_same]; rfl
theorem lcs_dp' {f : FRep} {lb : Nat → Nat} {s : LRep} {h x k : Nat} (e : x ≠ h) : lcs f lb { s with dp := upd s.dp h k } x = lcs f lb s x := by
  unfold lcs; show [_, _, _, Value.int .i16 ((upd s.dp h k x : Nat) : Int), _, _] = _; rw [upd_ne _ _ e]
/-- The numbers of the tree tell who dominates whom. -/
structure TD (G : Graph) (t : TRep) : Prop where
  eq : ∀ x y, Rc G 0 x → Rc G 0 y → ((x = y ∨ (t.en x ≤ t.en y ∧ t.ex y ≤ t.ex x)) ↔ Dm G x y)
  st : ∀ x y, Rc G 0 x → Rc G 0 y → ((x ≠ y ∧ (t.en x < t.en y ∧ t.ex y < t.ex x)) ↔ x ≠ y ∧ Dm G x y)
theorem td_of {G : Graph} (hg : Gd G) {L : List (Option Nat)} {t : TRep} (hid : IdomsOK G L) (hok : TOK G (fun y => L[y]!) t) : TD G t := by
  have hm := (postL_ok hg).mem
  exact ⟨fun x y hx hy => by rw [hok.anc ((hm x).2 hx) ((hm y).2 hy), hid.abv hg hy], fun x y hx hy => by rw [hok.sanc ((hm x).2 hx) ((hm y).2 hy), hid.abv hg hy]⟩
theorem abv_cases {O : Nat → Option Nat} {a b : Nat} (h : Abv O a b) : a = b ∨ ∃ p, O b = some p ∧ Abv O a p := by
  cases h with
  | refl => exact .inl rfl
  | step e h => exact .inr ⟨_, e, h⟩
def orank (G : Graph) : Option Nat → Nat → Prop
  | none, k => k = 0
  | some h, k => k = drk G h + 1
noncomputable def ork (G : Graph) : Option Nat → Nat
  | none => 0
  | some h => drk G h + 1
/-- What outerinner does around inn. -/
def OiOK (f : FRep) (G : Graph) (φ : Nat → Nat → Prop) (hs : List Nat) (lb : Nat → Nat) (tb : Nat) (t : TRep) (inn : Nat) : Prop := ∀ (w0 : World) (s : LRep) (ou : Nat) (vo vi : Value), vo = .pointer (some ⟨lb ou, 0, none⟩) → vi = .pointer (some ⟨lb inn, 0, none⟩) → (funcR f G).holds w0 → (blk tb 98 (tcells f G.length t)).holds w0 → (loopsR f hs lb s).holds w0 → OI φ hs s.O → (∀ x h, s.O x = some h → s.inn h = false) → ou ∈ hs → inn ∈ hs → φ ou inn →
  Calls Try.prog 67 #[.slice (some ⟨tb, 0, none⟩) (G.length + 1) (G.length + 1), vo, vi] w0 (Ret fun _ w' => ∃ s', s'.nb = s.nb ∧ s'.dp = s.dp ∧ OuterOK G φ hs s.O s'.O ou inn ∧ (∀ x h, s'.O x = some h → s'.inn h = false) ∧ (∀ h, s'.inn h = false → s.inn h = false ∨ (h ∈ hs ∧ ∃ x ∈ hs, φ h x)) ∧ (∀ h, s.inn h = false → s'.inn h = false) ∧ St w0 (loopsR f hs lb s).fp [loopsR f hs lb s'] w')

set_option maxHeartbeats 1000000 in
theorem outerinner_step {f : FRep} {G : Graph} {φ : Nat → Nat → Prop} {hs : List Nat} {lb : Nat → Nat} {tb inn : Nat} {t : TRep} (hg : Gd G) (hφ : Phi G φ) (hnd : hs.Nodup) (hlv : ∀ h ∈ hs, Rc G 0 h) (hT : TD G t) (hd : ∀ c, ((funcR f G).fp c ∨ c = tb) → ∀ h ∈ hs, c ≠ lb h) (ih : ∀ j, drk G j < drk G inn → OiOK f G φ hs lb tb t j) : OiOK f G φ hs lb tb t inn := by
  intro w0 s ou vo vi hvo hvi hF hb hL hO hII hou hin hp
  subst hvo hvi
  have hS := St.start hL
  have hFk : ∀ {η : List Res} {w : World}, St w0 (loopsR f hs lb s).fp η w → (funcR f G).holds w := fun h => h.keep hF (fun c hc hc2 => by obtain ⟨x, hx, e⟩ := loops_fp.1 hc2; exact hd c (.inl hc) x hx e)
  have hTk : ∀ {η : List Res} {w : World}, St w0 (loopsR f hs lb s).fp η w → (blk tb 98 (tcells f G.length t)).holds w := fun h => h.keep hb (fun c hc hc2 => by obtain ⟨x, hx, e⟩ := loops_fp.1 hc2; exact hd c (.inr hc) x hx e)
  have hln : ∀ h ∈ hs, h < G.length := fun h hh => Rch.lt hg hg.pos (hlv h hh)
  refine V_enter (N := 46) Try.func67 rfl Try.ntmps67 rfl ?_
  refine VC.sub (τ := [(0, _), (1, _), (2, _)]) ⟨rfl, rfl, rfl, trivial⟩ ?_
  refine VC_seq ?_
  refine VC_region ?_
  refine VL_val rfl rfl rfl (yd_move rfl) ?_
  refine VL_val rfl rfl rfl (yd_nilc rfl) ?_
  refine VL_val rfl rfl rfl (yd_field rfl T.fld85_1) ?_
  refine VL_val rfl rfl rfl (yd_load rfl T.one76 (blk_cell (loop_get (hS.get 0 rfl) hin) rfl)) ?_
  refine VL_val rfl rfl rfl (yd_assign rfl) ?_
  refine VL_nil ?_
  refine VE_then ?_
  refine VC_seq ?_
  refine VC_block ?_
  refine VC_loop3 [0, 1] [_, _] rfl (fun (i : Nat) (o : Option Nat) (io : Option Addr) => [(2, .pointer io), (6, .pointer (lA lb o))]) (fun (i : Nat) (o : Option Nat) (io : Option Addr) w => io = some ⟨lb i, 0, none⟩ ∧ o = s.O i ∧ i ∈ hs ∧ Abv s.O i inn ∧ φ ou i ∧ St w0 (loopsR f hs lb s).fp [loopsR f hs lb s] w) (fun (i : Nat) (o : Option Nat) (io : Option Addr) => drk G i) inn _ _ ⟨rfl, rfl, trivial⟩ (⟨rfl, rfl, hin, .refl _, hp, hS⟩) ?_
  clear hS; rintro i o io w ⟨hio, ho, hi, hia, hpi, hS⟩
  have hoh : ∀ h, o = some h → h ∈ hs := fun h e => (hO.ok i h (by rw [← ho]; exact e)).2.1
  refine VC_seq ?_
  refine VC_seq ?_
  refine VC_draw T.mixed hS ?_
  clear hS; intro w hS
  refine VA_take (i := 0) rfl rfl rfl rfl (by kernel_rfl) (by kernel_rfl) (by kernel_rfl) #[true, false, false, false, false, false, false, false, false, false, false, false, false, false] (by kernel_rfl) (fun _ _ _ _ h => h) (fun w hS => yd_move rfl) ?_
  refine VA_take (i := 1) rfl rfl rfl rfl (by kernel_rfl) (by kernel_rfl) (by kernel_rfl) #[true, true, false, false, false, false, false, false, false, false, false, false, false, false] (by kernel_rfl) (fun _ _ _ _ h => h) (fun w hS => yd_neqp rfl rfl Try.underlying76 T.sz85 (by decide) (isC_lA (hS.get 0 rfl) hoh) isC_none) ?_
  refine VA_take (i := 2) rfl rfl rfl rfl (by kernel_rfl) (by kernel_rfl) (by kernel_rfl) #[true, true, true, false, false, false, false, false, false, false, false, false, false, false] (by kernel_rfl) (fun _ _ _ _ h => h) (fun w hS => yd_move rfl) ?_
  refine VA_split 13 rfl (fun h13 => ?_) (fun h13 => ?_)
  · replace h13 := of_decide_eq_true h13
    obtain ⟨oo, hoo⟩ : ∃ oo, o = some oo := Option.ne_none_iff_exists'.1 (fun e => h13 (by rw [e]; rfl))
    have hom := hoh oo hoo
    refine VA_takeG (i := 3) rfl rfl rfl rfl rfl rfl rfl (by kernel_rfl) (by kernel_rfl) (by kernel_rfl) #[true, true, true, true, false, false, false, false, false, false, false, false, false, false] (by kernel_rfl) (fun _ _ _ _ h => h) (fun w hS => yd_move rfl) ?_
    refine VA_takeG (i := 4) rfl rfl rfl rfl rfl rfl rfl (by kernel_rfl) (by kernel_rfl) (by kernel_rfl) #[true, true, true, true, true, false, false, false, false, false, false, false, false, false] (by kernel_rfl) (fun _ _ _ _ h => h) (fun w hS => yd_move rfl) ?_
    refine VA_takeG (i := 5) rfl rfl rfl rfl rfl rfl rfl (by kernel_rfl) (by kernel_rfl) (by kernel_rfl) #[true, true, true, true, true, true, false, false, false, false, false, false, false, false] (by kernel_rfl) (fun _ _ _ _ h => h) (fun w hS => yd_nilc rfl) ?_
    refine VA_takeG (i := 6) rfl rfl rfl rfl rfl rfl rfl (by kernel_rfl) (by kernel_rfl) (by kernel_rfl) #[true, true, true, true, true, true, true, false, false, false, false, false, false, false] (by kernel_rfl) (fun _ _ _ _ h => h) (fun w hS => yd_field rfl T.fld85_0) ?_
    refine VA_takeG (i := 7) rfl rfl rfl rfl rfl rfl rfl (by kernel_rfl) (by kernel_rfl) (by kernel_rfl) #[true, true, true, true, true, true, true, true, false, false, false, false, false, false] (by kernel_rfl) (fun _ _ _ _ h => h) (fun w hS => yd_load rfl T.one82 (blk_cell (loop_get (hS.get 0 rfl) hou) rfl)) ?_
    refine VA_takeG (i := 8) rfl rfl rfl rfl rfl rfl rfl (by kernel_rfl) (by kernel_rfl) (by kernel_rfl) #[true, true, true, true, true, true, true, true, true, false, false, false, false, false] (by kernel_rfl) (fun _ _ _ _ h => h) (fun w hS => yd_move rfl) ?_
    refine VA_takeG (i := 9) rfl rfl rfl rfl rfl rfl rfl (by kernel_rfl) (by kernel_rfl) (by kernel_rfl) #[true, true, true, true, true, true, true, true, true, true, false, false, false, false] (by kernel_rfl) (fun _ _ _ _ h => h) (fun w hS => yd_nilcO rfl (lA_some hoo)) ?_
    refine VA_takeG (i := 10) rfl rfl rfl rfl rfl rfl rfl (by kernel_rfl) (by kernel_rfl) (by kernel_rfl) #[true, true, true, true, true, true, true, true, true, true, true, false, false, false] (by kernel_rfl) (fun _ _ _ _ h => h) (fun w hS => yd_field rfl T.fld85_0) ?_
    refine VA_takeG (i := 11) rfl rfl rfl rfl rfl rfl rfl (by kernel_rfl) (by kernel_rfl) (by kernel_rfl) #[true, true, true, true, true, true, true, true, true, true, true, true, false, false] (by kernel_rfl) (fun _ _ _ _ h => h) (fun w hS => yd_load rfl T.one82 (blk_cell (loop_get (hS.get 0 rfl) hom) rfl)) ?_
    refine VA_only (i := 12) (by kernel_rfl) hS ?_
    refine VS_call rfl (wanted_yes rfl rfl rfl rfl) #[true, true, true, true, true, true, true, true, true, true, true, true, true, false] (by kernel_rfl) rfl rfl rfl T.call66 rfl (isAncestor_ok (hFk hS) hg (hTk hS) (hln ou hou) (hln oo hom)) ?_
    rintro _ w ⟨b, rfl, hb2, hR⟩
    have hS := hS.call0 hR
    rw [hT.st ou oo (hlv ou hou) (hlv oo hom)] at hb2
    refine VA_take (i := 13) rfl rfl rfl rfl (by kernel_rfl) (by kernel_rfl) (by kernel_rfl) #[true, true, true, true, true, true, true, true, true, true, true, true, true, true] (by kernel_rfl) (fun _ _ _ _ h => h) (fun w hS => yd_pick_t rfl rfl) ?_
    refine VA_done (by kernel_rfl) hS ?_
    refine VE_then ?_
    refine VC_cond rfl (fun h24 => ?_) (fun h24 => ?_)
    · skip
      have hb3 := hb2.1 h24
      refine VC_skip ?_
      refine VE_then ?_
      refine VC_block ?_
      refine VC_seq ?_
      refine VC_region ?_
      refine VL_val rfl rfl rfl (yd_move rfl) ?_
      refine VL_val rfl rfl rfl (yd_assign rfl) ?_
      refine VL_nil ?_
      refine VE_then ?_
      refine VC_region ?_
      refine VL_val rfl rfl rfl (yd_move rfl) ?_
      refine VL_val rfl rfl rfl (yd_nilcO rfl (lA_some hoo)) ?_
      refine VL_val rfl rfl rfl (yd_field rfl T.fld85_1) ?_
      refine VL_val rfl rfl rfl (yd_load rfl T.one76 (blk_cell (loop_get (hS.get 0 rfl) hom) rfl)) ?_
      refine VL_val rfl rfl rfl (yd_assign rfl) ?_
      refine VL_nil ?_
      refine VE_block_normal ?_
      have hOi : s.O i = some oo := by rw [← ho]; exact hoo
      exact VE_round3 oo (s.O oo) _ ⟨rfl, rfl, rfl, rfl, trivial⟩ ⟨lA_some hoo, rfl, hom, Abv.trans (.step hOi (.refl _)) hia, hφ.nest ou oo i hpi (hO.ok i oo hOi).2.2 hb3.1 hb3.2, hS⟩ (hO.rank hg hφ i oo hOi)
    · skip
      have hno : ∀ q, o = some q → ¬ (ou ≠ q ∧ Dm G ou q) := fun q e h2 => by rw [hoo] at e; cases e; have := hb2.2 h2; rw [h24] at this; cases this
      refine VC_exit ?_
      refine VE_then_exit (VE_then_exit (VE_block_exit ?_))
      refine VE_then ?_
      refine VC_seq ?_
      refine VC_seq ?_
      refine VC_region ?_
      refine VL_val rfl rfl rfl (yd_move rfl) ?_
      refine VL_val rfl rfl rfl (yd_move rfl) ?_
      refine VL_val rfl rfl rfl (yd_eqlp rfl rfl Try.underlying76 T.sz85 (by decide) (blk_isC (loop_get (hS.get 0 rfl) hou) 0) (isC_lA (hS.get 0 rfl) hoh)) ?_
      refine VL_nil ?_
      refine VE_then ?_
      refine VC_cond rfl (fun h32 => ?_) (fun h32 => ?_)
      · replace h32 := of_decide_eq_true h32
        have ho32 : some ou = o := lA_inj (hS.get 0 rfl) (fun h e => by cases e; exact hou) hoh h32
        refine VC_ret ?_
        refine VE_then_ret (?_)
        refine VE_ret0 (rfl) ?_
        exact ⟨s, rfl, rfl, OuterOK.refl hO (Abv.trans (.step (by rw [← ho, ← ho32]) (.refl _)) hia), hII, fun h hh => .inl hh, fun h hh => hh, hS⟩
      · replace h32 := of_decide_eq_false h32
        refine VC_skip ?_
        refine VE_then ?_
        refine VC_seq ?_
        refine VC_seq ?_
        refine VC_region ?_
        refine VL_val rfl rfl rfl (yd_move rfl) ?_
        refine VL_val rfl rfl rfl (yd_neqp rfl rfl Try.underlying76 T.sz85 (by decide) (isC_lA (hS.get 0 rfl) hoh) isC_none) ?_
        refine VL_nil ?_
        refine VE_then ?_
        refine VC_cond rfl (fun h34 => ?_) (fun h34 => ?_)
        · replace h34 := of_decide_eq_true h34
          obtain ⟨q, hq⟩ : ∃ q, o = some q := Option.ne_none_iff_exists'.1 (fun e => h34 (by rw [e]; rfl))
          have hqm := hoh q hq
          have hOq : s.O i = some q := by rw [← ho]; exact hq
          have hqne : q ≠ ou := fun e => h32 (by rw [hq, e]; rfl)
          have hpq := (hO.ok i q hOq).2.2
          have hdq : Dm G q ou := by
            rcases Dm.total (hφ.dm _ _ hpq) (hφ.dm _ _ hpi) with h2 | h2
            · exact h2
            · exact absurd ⟨fun e => hqne e.symm, h2⟩ (hno q hq)
          have hdi := hO.dm hφ hia (hlv inn hin)
          have hdl : drk G ou < drk G inn := drk_dm hg ((hφ.dm _ _ hpi).trans hdi) (hφ.ne _ _ hp)
          refine VC_region ?_
          refine VL_val rfl rfl rfl (yd_move rfl) ?_
          refine VL_val rfl rfl rfl (yd_move rfl) ?_
          refine VL_val rfl rfl rfl (yd_move rfl) ?_
          refine VL_call rfl rfl rfl rfl T.call67 rfl (ih ou hdl _ s q _ _ (by rw [lA_some hq]) rfl (hFk hS) (hTk hS) (hS.get 0 rfl) hO hII hqm hou (hφ.nest q ou i hpq hpi hqne hdq)) ?_
          rintro _ w ⟨s1, hnb, hdp, hok1, hII1, hin1, hin2, hR⟩
          have hS := hS.call1 0 rfl hR
          have hfin : OuterOK G φ hs s.O (ost s1.O i ou) ou inn := OuterOK.link1 hg hφ hO hia (hlv inn hin) hOq hou hpi hok1
          refine VL_nil ?_
          refine VE_then ?_
          refine VC_seq ?_
          refine VC_region ?_
          refine VL_val rfl rfl rfl (yd_move rfl) ?_
          refine VL_val rfl rfl rfl (yd_move rfl) ?_
          refine VL_val rfl rfl rfl (yd_nilcO rfl hio) ?_
          refine VL_val rfl rfl rfl (yd_field rfl T.fld85_1) ?_
          refine VL_storeL { s1 with O := ost s1.O i ou } rfl rfl rfl rfl rfl T.one76 rfl hS 0 rfl hnd hi (by omega) lcs_O (fun x e => lcs_O' e) ?_
          clear hS; intro w hS
          refine VL_nil ?_
          refine VE_then ?_
          refine VC_region ?_
          refine VL_val rfl rfl rfl (yd_move rfl) ?_
          refine VL_val rfl rfl rfl (yd_nilc rfl) ?_
          refine VL_val rfl rfl rfl (yd_field rfl T.fld85_4) ?_
          refine VL_storeL { { s1 with O := ost s1.O i ou } with inn := upd s1.inn ou false } rfl rfl rfl rfl rfl T.one4 rfl hS 0 rfl hnd hou (by omega) lcs_inn (fun x e => lcs_inn' e) ?_
          clear hS; intro w hS
          refine VL_nil ?_
          refine VE_end0 (rfl) ?_
          refine ⟨{ O := ost s1.O i ou, nb := s1.nb, dp := s1.dp, inn := upd s1.inn ou false }, hnb, hdp, hfin, fun x h e => ?_, fun h hh => ?_, fun h hh => ?_, hS⟩
          · show upd s1.inn ou false h = false
            by_cases e2 : h = ou
            · subst e2; exact upd_same _ _ _
            · rw [upd_ne _ _ e2]
              by_cases e3 : x = i
              · subst e3
                have e : ost s1.O x ou x = some h := e
                rw [ost_same] at e; cases e; exact absurd rfl e2
              · have e : ost s1.O i ou x = some h := e
                rw [ost_ne _ _ e3] at e; exact hII1 x h e
          · have hh : upd s1.inn ou false h = false := hh
            by_cases e2 : h = ou
            · subst e2; exact .inr ⟨hou, i, hi, hpi⟩
            · rw [upd_ne _ _ e2] at hh; exact hin1 h hh
          · show upd s1.inn ou false h = false
            by_cases e2 : h = ou
            · subst e2; exact upd_same _ _ _
            · rw [upd_ne _ _ e2]; exact hin2 h hh
        · replace h34 := Decidable.not_not.1 (of_decide_eq_false h34)
          have hon2 := lA_none h34
          obtain ⟨s1, hs1⟩ : ∃ s1, s1 = s := ⟨_, rfl⟩
          have hS : St w0 (loopsR f hs lb s).fp [loopsR f hs lb s1] w := by rw [hs1]; exact hS
          have hfin : OuterOK G φ hs s.O (ost s1.O i ou) ou inn := by rw [hs1]; exact OuterOK.link0 hg hφ hO hia (hlv inn hin) (by rw [← ho]; exact hon2) hi hou hpi
          have hnb : s1.nb = s.nb := by rw [hs1]
          have hdp : s1.dp = s.dp := by rw [hs1]
          have hII1 : ∀ x h, s1.O x = some h → s1.inn h = false := by rw [hs1]; exact hII
          have hin1 : ∀ h, s1.inn h = false → s.inn h = false ∨ (h ∈ hs ∧ ∃ x ∈ hs, φ h x) := by rw [hs1]; exact fun h hh => .inl hh
          have hin2 : ∀ h, s.inn h = false → s1.inn h = false := by rw [hs1]; exact fun h hh => hh
          refine VC_skip ?_
          refine VE_then ?_
          refine VC_seq ?_
          refine VC_region ?_
          refine VL_val rfl rfl rfl (yd_move rfl) ?_
          refine VL_val rfl rfl rfl (yd_move rfl) ?_
          refine VL_val rfl rfl rfl (yd_nilcO rfl hio) ?_
          refine VL_val rfl rfl rfl (yd_field rfl T.fld85_1) ?_
          refine VL_storeL { s1 with O := ost s1.O i ou } rfl rfl rfl rfl rfl T.one76 rfl hS 0 rfl hnd hi (by omega) lcs_O (fun x e => lcs_O' e) ?_
          clear hS; intro w hS
          refine VL_nil ?_
          refine VE_then ?_
          refine VC_region ?_
          refine VL_val rfl rfl rfl (yd_move rfl) ?_
          refine VL_val rfl rfl rfl (yd_nilc rfl) ?_
          refine VL_val rfl rfl rfl (yd_field rfl T.fld85_4) ?_
          refine VL_storeL { { s1 with O := ost s1.O i ou } with inn := upd s1.inn ou false } rfl rfl rfl rfl rfl T.one4 rfl hS 0 rfl hnd hou (by omega) lcs_inn (fun x e => lcs_inn' e) ?_
          clear hS; intro w hS
          refine VL_nil ?_
          refine VE_end0 (rfl) ?_
          refine ⟨{ O := ost s1.O i ou, nb := s1.nb, dp := s1.dp, inn := upd s1.inn ou false }, hnb, hdp, hfin, fun x h e => ?_, fun h hh => ?_, fun h hh => ?_, hS⟩
          · show upd s1.inn ou false h = false
            by_cases e2 : h = ou
            · subst e2; exact upd_same _ _ _
            · rw [upd_ne _ _ e2]
              by_cases e3 : x = i
              · subst e3
                have e : ost s1.O x ou x = some h := e
                rw [ost_same] at e; cases e; exact absurd rfl e2
              · have e : ost s1.O i ou x = some h := e
                rw [ost_ne _ _ e3] at e; exact hII1 x h e
          · have hh : upd s1.inn ou false h = false := hh
            by_cases e2 : h = ou
            · subst e2; exact .inr ⟨hou, i, hi, hpi⟩
            · rw [upd_ne _ _ e2] at hh; exact hin1 h hh
          · show upd s1.inn ou false h = false
            by_cases e2 : h = ou
            · subst e2; exact upd_same _ _ _
            · rw [upd_ne _ _ e2]; exact hin2 h hh
  · replace h13 := Decidable.not_not.1 (of_decide_eq_false h13)
    have hon := lA_none h13
    have hno : ∀ oo, o = some oo → ¬ (ou ≠ oo ∧ Dm G ou oo) := fun oo e => by rw [hon] at e; cases e
    refine VA_no (i := 3) rfl rfl rfl rfl rfl rfl rfl rfl (by kernel_rfl) (by kernel_rfl) (by kernel_rfl) #[true, true, true, true, false, false, false, false, false, false, false, false, false, false] (by kernel_rfl) (fun _ _ _ _ h => h) ?_
    refine VA_no (i := 4) rfl rfl rfl rfl rfl rfl rfl rfl (by kernel_rfl) (by kernel_rfl) (by kernel_rfl) #[true, true, true, true, true, false, false, false, false, false, false, false, false, false] (by kernel_rfl) (fun _ _ _ _ h => h) ?_
    refine VA_no (i := 5) rfl rfl rfl rfl rfl rfl rfl rfl (by kernel_rfl) (by kernel_rfl) (by kernel_rfl) #[true, true, true, true, true, true, false, false, false, false, false, false, false, false] (by kernel_rfl) (fun _ _ _ _ h => h) ?_
    refine VA_no (i := 6) rfl rfl rfl rfl rfl rfl rfl rfl (by kernel_rfl) (by kernel_rfl) (by kernel_rfl) #[true, true, true, true, true, true, true, false, false, false, false, false, false, false] (by kernel_rfl) (fun _ _ _ _ h => h) ?_
    refine VA_no (i := 7) rfl rfl rfl rfl rfl rfl rfl rfl (by kernel_rfl) (by kernel_rfl) (by kernel_rfl) #[true, true, true, true, true, true, true, true, false, false, false, false, false, false] (by kernel_rfl) (fun _ _ _ _ h => h) ?_
    refine VA_no (i := 8) rfl rfl rfl rfl rfl rfl rfl rfl (by kernel_rfl) (by kernel_rfl) (by kernel_rfl) #[true, true, true, true, true, true, true, true, true, false, false, false, false, false] (by kernel_rfl) (fun _ _ _ _ h => h) ?_
    refine VA_no (i := 9) rfl rfl rfl rfl rfl rfl rfl rfl (by kernel_rfl) (by kernel_rfl) (by kernel_rfl) #[true, true, true, true, true, true, true, true, true, true, false, false, false, false] (by kernel_rfl) (fun _ _ _ _ h => h) ?_
    refine VA_no (i := 10) rfl rfl rfl rfl rfl rfl rfl rfl (by kernel_rfl) (by kernel_rfl) (by kernel_rfl) #[true, true, true, true, true, true, true, true, true, true, true, false, false, false] (by kernel_rfl) (fun _ _ _ _ h => h) ?_
    refine VA_no (i := 11) rfl rfl rfl rfl rfl rfl rfl rfl (by kernel_rfl) (by kernel_rfl) (by kernel_rfl) #[true, true, true, true, true, true, true, true, true, true, true, true, false, false] (by kernel_rfl) (fun _ _ _ _ h => h) ?_
    refine VA_no (i := 12) rfl rfl rfl rfl rfl rfl rfl rfl (by kernel_rfl) (by kernel_rfl) (by kernel_rfl) #[true, true, true, true, true, true, true, true, true, true, true, true, true, false] (by kernel_rfl) (fun _ _ _ _ h => h) ?_
    refine VA_take (i := 13) rfl rfl rfl rfl (by kernel_rfl) (by kernel_rfl) (by kernel_rfl) #[true, true, true, true, true, true, true, true, true, true, true, true, true, true] (by kernel_rfl) (fun _ _ _ _ h => h) (fun w hS => yd_pick_f rfl rfl) ?_
    refine VA_done (by kernel_rfl) hS ?_
    refine VE_then ?_
    refine VC_cond_f rfl ?_
    refine VC_exit ?_
    refine VE_then_exit (VE_then_exit (VE_block_exit ?_))
    refine VE_then ?_
    refine VC_seq ?_
    refine VC_seq ?_
    refine VC_region ?_
    refine VL_val rfl rfl rfl (yd_move rfl) ?_
    refine VL_val rfl rfl rfl (yd_move rfl) ?_
    refine VL_val rfl rfl rfl (yd_eqlp rfl rfl Try.underlying76 T.sz85 (by decide) (blk_isC (loop_get (hS.get 0 rfl) hou) 0) (isC_lA (hS.get 0 rfl) hoh)) ?_
    refine VL_nil ?_
    refine VE_then ?_
    refine VC_cond rfl (fun h32 => ?_) (fun h32 => ?_)
    · replace h32 := of_decide_eq_true h32
      have ho32 : some ou = o := lA_inj (hS.get 0 rfl) (fun h e => by cases e; exact hou) hoh h32
      refine VC_ret ?_
      refine VE_then_ret (?_)
      refine VE_ret0 (rfl) ?_
      exact ⟨s, rfl, rfl, OuterOK.refl hO (Abv.trans (.step (by rw [← ho, ← ho32]) (.refl _)) hia), hII, fun h hh => .inl hh, fun h hh => hh, hS⟩
    · replace h32 := of_decide_eq_false h32
      refine VC_skip ?_
      refine VE_then ?_
      refine VC_seq ?_
      refine VC_seq ?_
      refine VC_region ?_
      refine VL_val rfl rfl rfl (yd_move rfl) ?_
      refine VL_val rfl rfl rfl (yd_neqp rfl rfl Try.underlying76 T.sz85 (by decide) (isC_lA (hS.get 0 rfl) hoh) isC_none) ?_
      refine VL_nil ?_
      refine VE_then ?_
      refine VC_cond rfl (fun h34 => ?_) (fun h34 => ?_)
      · replace h34 := of_decide_eq_true h34
        obtain ⟨q, hq⟩ : ∃ q, o = some q := Option.ne_none_iff_exists'.1 (fun e => h34 (by rw [e]; rfl))
        have hqm := hoh q hq
        have hOq : s.O i = some q := by rw [← ho]; exact hq
        have hqne : q ≠ ou := fun e => h32 (by rw [hq, e]; rfl)
        have hpq := (hO.ok i q hOq).2.2
        have hdq : Dm G q ou := by
          rcases Dm.total (hφ.dm _ _ hpq) (hφ.dm _ _ hpi) with h2 | h2
          · exact h2
          · exact absurd ⟨fun e => hqne e.symm, h2⟩ (hno q hq)
        have hdi := hO.dm hφ hia (hlv inn hin)
        have hdl : drk G ou < drk G inn := drk_dm hg ((hφ.dm _ _ hpi).trans hdi) (hφ.ne _ _ hp)
        refine VC_region ?_
        refine VL_val rfl rfl rfl (yd_move rfl) ?_
        refine VL_val rfl rfl rfl (yd_move rfl) ?_
        refine VL_val rfl rfl rfl (yd_move rfl) ?_
        refine VL_call rfl rfl rfl rfl T.call67 rfl (ih ou hdl _ s q _ _ (by rw [lA_some hq]) rfl (hFk hS) (hTk hS) (hS.get 0 rfl) hO hII hqm hou (hφ.nest q ou i hpq hpi hqne hdq)) ?_
        rintro _ w ⟨s1, hnb, hdp, hok1, hII1, hin1, hin2, hR⟩
        have hS := hS.call1 0 rfl hR
        have hfin : OuterOK G φ hs s.O (ost s1.O i ou) ou inn := OuterOK.link1 hg hφ hO hia (hlv inn hin) hOq hou hpi hok1
        refine VL_nil ?_
        refine VE_then ?_
        refine VC_seq ?_
        refine VC_region ?_
        refine VL_val rfl rfl rfl (yd_move rfl) ?_
        refine VL_val rfl rfl rfl (yd_move rfl) ?_
        refine VL_val rfl rfl rfl (yd_nilcO rfl hio) ?_
        refine VL_val rfl rfl rfl (yd_field rfl T.fld85_1) ?_
        refine VL_storeL { s1 with O := ost s1.O i ou } rfl rfl rfl rfl rfl T.one76 rfl hS 0 rfl hnd hi (by omega) lcs_O (fun x e => lcs_O' e) ?_
        clear hS; intro w hS
        refine VL_nil ?_
        refine VE_then ?_
        refine VC_region ?_
        refine VL_val rfl rfl rfl (yd_move rfl) ?_
        refine VL_val rfl rfl rfl (yd_nilc rfl) ?_
        refine VL_val rfl rfl rfl (yd_field rfl T.fld85_4) ?_
        refine VL_storeL { { s1 with O := ost s1.O i ou } with inn := upd s1.inn ou false } rfl rfl rfl rfl rfl T.one4 rfl hS 0 rfl hnd hou (by omega) lcs_inn (fun x e => lcs_inn' e) ?_
        clear hS; intro w hS
        refine VL_nil ?_
        refine VE_end0 (rfl) ?_
        refine ⟨{ O := ost s1.O i ou, nb := s1.nb, dp := s1.dp, inn := upd s1.inn ou false }, hnb, hdp, hfin, fun x h e => ?_, fun h hh => ?_, fun h hh => ?_, hS⟩
        · show upd s1.inn ou false h = false
          by_cases e2 : h = ou
          · subst e2; exact upd_same _ _ _
          · rw [upd_ne _ _ e2]
            by_cases e3 : x = i
            · subst e3
              have e : ost s1.O x ou x = some h := e
              rw [ost_same] at e; cases e; exact absurd rfl e2
            · have e : ost s1.O i ou x = some h := e
              rw [ost_ne _ _ e3] at e; exact hII1 x h e
        · have hh : upd s1.inn ou false h = false := hh
          by_cases e2 : h = ou
          · subst e2; exact .inr ⟨hou, i, hi, hpi⟩
          · rw [upd_ne _ _ e2] at hh; exact hin1 h hh
        · show upd s1.inn ou false h = false
          by_cases e2 : h = ou
          · subst e2; exact upd_same _ _ _
          · rw [upd_ne _ _ e2]; exact hin2 h hh
      · replace h34 := Decidable.not_not.1 (of_decide_eq_false h34)
        have hon2 := lA_none h34
        obtain ⟨s1, hs1⟩ : ∃ s1, s1 = s := ⟨_, rfl⟩
        have hS : St w0 (loopsR f hs lb s).fp [loopsR f hs lb s1] w := by rw [hs1]; exact hS
        have hfin : OuterOK G φ hs s.O (ost s1.O i ou) ou inn := by rw [hs1]; exact OuterOK.link0 hg hφ hO hia (hlv inn hin) (by rw [← ho]; exact hon2) hi hou hpi
        have hnb : s1.nb = s.nb := by rw [hs1]
        have hdp : s1.dp = s.dp := by rw [hs1]
        have hII1 : ∀ x h, s1.O x = some h → s1.inn h = false := by rw [hs1]; exact hII
        have hin1 : ∀ h, s1.inn h = false → s.inn h = false ∨ (h ∈ hs ∧ ∃ x ∈ hs, φ h x) := by rw [hs1]; exact fun h hh => .inl hh
        have hin2 : ∀ h, s.inn h = false → s1.inn h = false := by rw [hs1]; exact fun h hh => hh
        refine VC_skip ?_
        refine VE_then ?_
        refine VC_seq ?_
        refine VC_region ?_
        refine VL_val rfl rfl rfl (yd_move rfl) ?_
        refine VL_val rfl rfl rfl (yd_move rfl) ?_
        refine VL_val rfl rfl rfl (yd_nilcO rfl hio) ?_
        refine VL_val rfl rfl rfl (yd_field rfl T.fld85_1) ?_
        refine VL_storeL { s1 with O := ost s1.O i ou } rfl rfl rfl rfl rfl T.one76 rfl hS 0 rfl hnd hi (by omega) lcs_O (fun x e => lcs_O' e) ?_
        clear hS; intro w hS
        refine VL_nil ?_
        refine VE_then ?_
        refine VC_region ?_
        refine VL_val rfl rfl rfl (yd_move rfl) ?_
        refine VL_val rfl rfl rfl (yd_nilc rfl) ?_
        refine VL_val rfl rfl rfl (yd_field rfl T.fld85_4) ?_
        refine VL_storeL { { s1 with O := ost s1.O i ou } with inn := upd s1.inn ou false } rfl rfl rfl rfl rfl T.one4 rfl hS 0 rfl hnd hou (by omega) lcs_inn (fun x e => lcs_inn' e) ?_
        clear hS; intro w hS
        refine VL_nil ?_
        refine VE_end0 (rfl) ?_
        refine ⟨{ O := ost s1.O i ou, nb := s1.nb, dp := s1.dp, inn := upd s1.inn ou false }, hnb, hdp, hfin, fun x h e => ?_, fun h hh => ?_, fun h hh => ?_, hS⟩
        · show upd s1.inn ou false h = false
          by_cases e2 : h = ou
          · subst e2; exact upd_same _ _ _
          · rw [upd_ne _ _ e2]
            by_cases e3 : x = i
            · subst e3
              have e : ost s1.O x ou x = some h := e
              rw [ost_same] at e; cases e; exact absurd rfl e2
            · have e : ost s1.O i ou x = some h := e
              rw [ost_ne _ _ e3] at e; exact hII1 x h e
        · have hh : upd s1.inn ou false h = false := hh
          by_cases e2 : h = ou
          · subst e2; exact .inr ⟨hou, i, hi, hpi⟩
          · rw [upd_ne _ _ e2] at hh; exact hin1 h hh
        · show upd s1.inn ou false h = false
          by_cases e2 : h = ou
          · subst e2; exact upd_same _ _ _
          · rw [upd_ne _ _ e2]; exact hin2 h hh


theorem outerinner_ok {f : FRep} {G : Graph} {φ : Nat → Nat → Prop} {hs : List Nat} {lb : Nat → Nat} {tb : Nat} {t : TRep} (hg : Gd G) (hφ : Phi G φ) (hnd : hs.Nodup) (hlv : ∀ h ∈ hs, Rc G 0 h) (hT : TD G t) (hd : ∀ c, ((funcR f G).fp c ∨ c = tb) → ∀ h ∈ hs, c ≠ lb h) (inn : Nat) : OiOK f G φ hs lb tb t inn := by
  generalize e : drk G inn = m
  induction m using Nat.strongRecOn generalizing inn with
  | _ m ih => exact outerinner_step hg hφ hnd hlv hT hd (fun j hj => ih _ (by rw [← e]; exact hj) j rfl)

theorem nearest_ok {w0 : World} {f : FRep} {G : Graph} {φ : Nat → Nat → Prop} {hs : List Nat} {lb : Nat → Nat} {tb b h0 : Nat} {t : TRep} {s : LRep} {v0 : Value} (hg : Gd G) (hφ : Phi G φ) (hlv : ∀ h ∈ hs, Rc G 0 h) (hT : TD G t) (hF : (funcR f G).holds w0) (hb : (blk tb 98 (tcells f G.length t)).holds w0) (hL : (loopsR f hs lb s).holds w0) (hO : OI φ hs s.O) (hh0 : h0 ∈ hs) (hbl : b < G.length) (hbr : Rc G 0 b) (hv0 : v0 = .pointer (some ⟨lb h0, 0, none⟩)) : Calls Try.prog 65 #[v0, .slice (some ⟨tb, 0, none⟩) (G.length + 1) (G.length + 1), ptr (f.bb b)] w0 (Ret fun u w' => ∃ o, u = .pointer (lA lb o) ∧ (∀ q, o = some q → Abv s.O q h0 ∧ q ≠ h0 ∧ Dm G q b) ∧ (∀ q, Abv s.O q h0 → q ≠ h0 → Dm G q b → ∃ p, o = some p ∧ Abv s.O q p) ∧ St w0 M0 [] w') := by
  subst hv0
  have hS := St.refl w0
  have hln : ∀ h ∈ hs, h < G.length := fun h hh => Rch.lt hg hg.pos (hlv h hh)
  refine V_enter (N := 29) Try.func65 rfl Try.ntmps65 rfl ?_
  refine VC.sub (τ := [(0, _), (1, _), (2, _)]) ⟨rfl, rfl, rfl, trivial⟩ ?_
  refine VC_seq ?_
  refine VC_region ?_
  refine VL_val rfl rfl rfl (yd_assign rfl) ?_
  refine VL_nil ?_
  refine VE_then ?_
  refine VC_seq ?_
  refine VC_region ?_
  refine VL_val rfl rfl rfl (yd_assign rfl) ?_
  refine VL_nil ?_
  refine VE_then ?_
  refine VC_seq ?_
  refine VC_seq ?_
  refine VC_region ?_
  refine VL_val rfl rfl rfl (yd_move rfl) ?_
  refine VL_val rfl rfl rfl (yd_nilc rfl) ?_
  refine VL_val rfl rfl rfl (yd_field rfl T.fld85_1) ?_
  refine VL_val rfl rfl rfl (yd_load rfl T.one76 (blk_cell (loop_get hL hh0) rfl)) ?_
  refine VL_val rfl rfl rfl (yd_assign rfl) ?_
  refine VL_nil ?_
  refine VE_then ?_
  refine VC_block ?_
  refine VC_loop1 [1, 2, 6] [_, _, _] rfl (fun (o : Option Nat) => [(7, .pointer (lA lb o))]) (fun (o : Option Nat) w => (∀ q, o = some q → q ∈ hs ∧ Abv s.O q h0 ∧ q ≠ h0) ∧ (∀ q, Abv s.O q h0 → q ≠ h0 → Dm G q b → ∃ p, o = some p ∧ Abv s.O q p) ∧ St w0 M0 [] w) (fun (o : Option Nat) => ork G o) _ ⟨rfl, trivial⟩ (⟨fun q e => ⟨(hO.ok h0 q e).2.1, .step e (.refl _), fun e2 => by subst e2; exact hφ.ne _ _ (hO.ok _ _ e).2.2 rfl⟩, fun q ha hne _ => by (rcases abv_cases ha with h1 | ⟨p, h1, h2⟩; exact absurd h1 hne; exact ⟨p, h1, h2⟩), hS⟩) ?_
  clear hS; rintro o w ⟨ho1, ho2, hS⟩
  have hoh : ∀ h, o = some h → h ∈ hs := fun h e => (ho1 h e).1
  refine VC_seq ?_
  refine VC_seq ?_
  refine VC_region ?_
  refine VL_val rfl rfl rfl (yd_move rfl) ?_
  refine VL_val rfl rfl rfl (yd_neqp rfl rfl Try.underlying76 T.sz85 (by decide) (isC_lA (hS.keep0 hL) hoh) isC_none) ?_
  refine VL_val rfl rfl rfl (yd_move rfl) ?_
  refine VL_split 14 rfl (fun h14 => ?_) (fun h14 => ?_)
  · replace h14 := of_decide_eq_true h14
    obtain ⟨oo, hoo⟩ : ∃ oo, o = some oo := Option.ne_none_iff_exists'.1 (fun e => h14 (by rw [e]; rfl))
    obtain ⟨hom, hoa, hone⟩ := ho1 oo hoo
    refine VL_yes rfl rfl rfl rfl ?_
    refine VL_val rfl rfl rfl (yd_move rfl) ?_
    refine VL_yes rfl rfl rfl rfl ?_
    refine VL_val rfl rfl rfl (yd_move rfl) ?_
    refine VL_yes rfl rfl rfl rfl ?_
    refine VL_val rfl rfl rfl (yd_nilcO rfl (lA_some hoo)) ?_
    refine VL_yes rfl rfl rfl rfl ?_
    refine VL_val rfl rfl rfl (yd_field rfl T.fld85_0) ?_
    refine VL_yes rfl rfl rfl rfl ?_
    refine VL_val rfl rfl rfl (yd_load rfl T.one82 (hS.cell0 (blk_cell (loop_get hL hom) rfl))) ?_
    refine VL_yes rfl rfl rfl rfl ?_
    refine VL_val rfl rfl rfl (yd_move rfl) ?_
    refine VL_yes rfl rfl rfl rfl ?_
    refine VL_call rfl rfl rfl rfl T.call64 rfl (isAncestorEq_ok (hS.func hF) hg (hS.keep0 hb) (hln oo hom) hbl) ?_
    rintro _ w ⟨c, rfl, hc, hR⟩
    have hS := hS.call0 hR
    rw [hT.eq oo b (hlv oo hom) hbr] at hc
    refine VL_yes rfl rfl rfl rfl ?_
    refine VL_val rfl rfl rfl (yd_not rfl) ?_
    refine VL_val rfl rfl rfl (yd_pick_t rfl rfl) ?_
    refine VL_nil ?_
    refine VE_then ?_
    refine VC_cond rfl (fun h23 => ?_) (fun h23 => ?_)
    · replace h23 := V.nt h23
      have hnd : ¬ Dm G oo b := fun h2 => by have := hc.2 h2; rw [h23] at this; cases this
      refine VC_skip ?_
      refine VE_then ?_
      refine VC_seq ?_
      refine VC_block ?_
      refine VC_skip ?_
      refine VE_block_normal ?_
      refine VE_then ?_
      refine VC_region ?_
      refine VL_val rfl rfl rfl (yd_move rfl) ?_
      refine VL_val rfl rfl rfl (yd_nilcO rfl (lA_some hoo)) ?_
      refine VL_val rfl rfl rfl (yd_field rfl T.fld85_1) ?_
      refine VL_val rfl rfl rfl (yd_load rfl T.one76 (hS.cell0 (blk_cell (loop_get hL hom) rfl))) ?_
      refine VL_val rfl rfl rfl (yd_assign rfl) ?_
      refine VL_nil ?_
      refine VE_round1 (s.O oo) ⟨rfl, rfl, rfl, rfl, trivial⟩ ⟨fun q e => ⟨(hO.ok oo q e).2.1, .trans (.step e (.refl _)) hoa, fun e2 => ?_⟩, fun q ha hne hdq => ?_, hS⟩ ?_
      · subst e2
        have h1 := hO.rank hg hφ oo q e
        have h2 := hoa.rk (hO.rank hg hφ)
        omega
      · obtain ⟨p, h1, h2⟩ := ho2 q ha hne hdq
        rw [hoo] at h1; cases h1
        rcases abv_cases h2 with h3 | h3
        · subst h3; exact absurd hdq hnd
        · exact h3
      · rw [hoo]
        show ork G (s.O oo) < drk G oo + 1
        cases e : s.O oo with
        | none => exact Nat.succ_pos _
        | some q => have := hO.rank hg hφ oo q e; show drk G q + 1 < _; omega
    · replace h23 := V.nf h23
      have hfin : ∀ q, o = some q → Abv s.O q h0 ∧ q ≠ h0 ∧ Dm G q b := fun q e => by rw [hoo] at e; cases e; exact ⟨hoa, hone, hc.1 h23⟩
      refine VC_exit ?_
      refine VE_then_exit (VE_then_exit (VE_block_exit ?_))
      refine VE_then ?_
      refine VC_seq ?_
      refine VC_region ?_
      refine VL_val rfl rfl rfl (yd_move rfl) ?_
      refine VL_val rfl rfl rfl (yd_assign rfl) ?_
      refine VL_nil ?_
      refine VE_then ?_
      refine VC_ret ?_
      refine VE_ret1 (rfl) rfl ?_
      exact ⟨o, rfl, hfin, ho2, hS⟩
  · replace h14 := Decidable.not_not.1 (of_decide_eq_false h14)
    have hon := lA_none h14
    have hfin : ∀ q, o = some q → Abv s.O q h0 ∧ q ≠ h0 ∧ Dm G q b := fun q e => by rw [hon] at e; cases e
    refine VL_no rfl rfl rfl rfl rfl rfl rfl ?_
    refine VL_no rfl rfl rfl rfl rfl rfl rfl ?_
    refine VL_no rfl rfl rfl rfl rfl rfl rfl ?_
    refine VL_no rfl rfl rfl rfl rfl rfl rfl ?_
    refine VL_no rfl rfl rfl rfl rfl rfl rfl ?_
    refine VL_no rfl rfl rfl rfl rfl rfl rfl ?_
    refine VL_no rfl rfl rfl rfl rfl rfl rfl ?_
    refine VL_no rfl rfl rfl rfl rfl rfl rfl ?_
    refine VL_val rfl rfl rfl (yd_pick_f rfl rfl) ?_
    refine VL_nil ?_
    refine VE_then ?_
    refine VC_cond_f rfl ?_
    refine VC_exit ?_
    refine VE_then_exit (VE_then_exit (VE_block_exit ?_))
    refine VE_then ?_
    refine VC_seq ?_
    refine VC_region ?_
    refine VL_val rfl rfl rfl (yd_move rfl) ?_
    refine VL_val rfl rfl rfl (yd_assign rfl) ?_
    refine VL_nil ?_
    refine VE_then ?_
    refine VC_ret ?_
    refine VE_ret1 (rfl) rfl ?_
    exact ⟨o, rfl, hfin, ho2, hS⟩

end Go.Proofs.Ytmoooaaiohplhac
