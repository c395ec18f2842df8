/- loopnestfor. -/
import Derived.Test.YtmoooaaiohplhacWz
import Derived.Test.YtmoooaaiohplhacPl
namespace Go.Proofs.Ytmoooaaiohplhac
open Go Go.V
set_option linter.unusedVariables false
set_option maxRecDepth 100000

theorem T.e76 : ElemT Try.prog 76 1 8 (.pointer none) := ElemT.of (by kernel_rfl)
theorem T.fld85_2 : FieldT Try.prog 85 2 2 := FieldT.of (by kernel_rfl)
theorem T.fld85_3 : FieldT Try.prog 85 3 3 := FieldT.of (by kernel_rfl)
theorem T.one83 : OneT Try.prog 83 := ⟨⟨_, Try.underlying83, rfl⟩, by kernel_rfl⟩
theorem T.st79 : StructT Try.prog 79 [(0, 1), (1, 1), (2, 1), (3, 1), (4, 1), (5, 1)] [(.pointer none), (.slice none 0 0), (.slice none 0 0), (.slice none 0 0), (.slice none 0 0), (.bool false)] := ⟨⟨_, Try.underlying79, by kernel_rfl⟩, ⟨_, rfl, by kernel_rfl⟩⟩
theorem T.st85 : StructT Try.prog 85 [(0, 1), (1, 1), (2, 1), (3, 1), (4, 1), (5, 1)] [(.pointer none), (.pointer none), (.int .i32 0), (.int .i16 0), (.bool false), (.bool false)] := ⟨⟨_, Try.underlying85, by kernel_rfl⟩, ⟨_, rfl, by kernel_rfl⟩⟩
theorem T.sz76 : (Try.prog.info? 76).map (·.size) = some 1 := by kernel_rfl
theorem T.call65 : CallT Try.prog 65 := CallT.of Try.func65 (by kernel_rfl) (by kernel_rfl)

open Go.PL
def b2v (lb : Nat → Nat) (B : Nat → Option Nat) : Nat → Value
  | 0 => .pointer none
  | x + 1 => .pointer (lA lb (B x))
/-- The innermost loops in memory. -/
def b2c (n : Nat) (lb : Nat → Nat) (B : Nat → Option Nat) : List Value := (List.range (n + 1)).map (b2v lb B)
section
variable {n x y s b : Nat} {lb lb' : Nat → Nat} {B : Nat → Option Nat} {w : World} {T : TypeId}
theorem b2_len : (b2c n lb B).length = n + 1 := by simp [b2c]
theorem b2_init : b2c n lb (fun _ => none) = (List.replicate (n + 1) none).map Value.pointer := by
  refine List.ext_getElem (by simp [b2c]) fun q h1 h2 => ?_
  simp only [b2c, List.getElem_map, List.getElem_range, List.getElem_replicate]
  cases q <;> rfl
theorem b2_cell (h : (blk b T (b2c n lb B)).holds w) (hx : x < n) : w.cell? ⟨b, x + 1, none⟩ = some (.pointer (lA lb (B x))) :=
  blk_cell h (by
    have hq : x + 1 < n + 1 := by omega
    unfold b2c; rw [List.getElem?_map, List.getElem?_range hq]; rfl)
theorem b2_set : (b2c n lb B).set (y + 1) (.pointer (lA lb (some s))) = b2c n lb (bset B y s) := by
  unfold b2c
  rw [map_range_set]
  congr 1
  funext q
  by_cases h : q = y + 1
  · subst h; rw [upd_same]; show _ = Value.pointer (lA lb (bset B y s y)); rw [bset_same]
  · rw [upd_ne _ _ h]
    cases q with
    | zero => rfl
    | succ q => show Value.pointer (lA lb (B q)) = Value.pointer (lA lb (bset B y s q)); rw [bset_ne _ _ (by omega)]
theorem lA_lb {o : Option Nat} (h : ∀ s, o = some s → lb' s = lb s) : lA lb' o = lA lb o := by
  cases o with
  | none => rfl
  | some s => show some (⟨lb' s, 0, none⟩ : Addr) = some ⟨lb s, 0, none⟩; rw [h s rfl]
theorem b2_lb (h : ∀ y s, B y = some s → lb' s = lb s) : b2c n lb' B = b2c n lb B := by
  unfold b2c
  congr 1
  funext q
  cases q with
  | zero => rfl
  | succ q => show Value.pointer _ = Value.pointer _; rw [lA_lb (h q)]
end
/-- What holds of the loops when k blocks are done. -/
structure LS (G : Graph) (k : Nat) (hs : List Nat) (s : LRep) (B : Nat → Option Nat) : Prop where
  li : LI G k hs s.O B
  ii : ∀ x h, s.O x = some h → s.inn h = false
  i0 : ∀ h, s.inn h = false → h ∈ hs ∧ ∃ x ∈ hs, phi G h x
  nbl : ∀ h, s.nb h ≤ k
  nb0 : ∀ h, h ∉ hs → s.nb h = 0
  nbc : Red G → ∀ h, s.nb h = ((postL G).take k).countP fun y => B y == some h
  dp : ∀ h, s.dp h = 0
def s0 : LRep := ⟨fun _ => none, fun _ => 0, fun _ => 0, fun _ => true⟩
section
variable {G : Graph} {k b z : Nat} {hs : List Nat} {s s' : LRep} {B : Nat → Option Nat}
theorem ls_init (hg : Gd G) : LS G 0 [] s0 (fun _ => none) :=
  ⟨li_init hg, fun x h e => (by cases e), fun h e => (by cases e), fun h => Nat.le_refl _, fun h _ => rfl, fun _ h => by simp [s0], fun _ => rfl⟩
theorem LS.inn0 (h : LS G k hs s B) {x : Nat} (hx : x ∉ hs) : s.inn x = true := by
  cases e : s.inn x with
  | true => rfl
  | false => exact absurd (h.i0 x e).1 hx
theorem LS.O0 (h : LS G k hs s B) {x : Nat} (hx : x ∉ hs) : s.O x = none := by
  cases e : s.O x with
  | none => rfl
  | some p => exact absurd (h.li.oi.ok x p e).1 hx
theorem countP_ext {α : Type} {p q : α → Bool} {l : List α} (h : ∀ x ∈ l, p x = q x) : l.countP p = l.countP q := List.countP_congr fun x hx => by rw [h x hx]
theorem mem_take_ps (hg : Gd G) {y : Nat} (h : y ∈ (postL G).take k) : y ∈ postL G ∧ ps G y < k := by
  obtain ⟨i, hi, e⟩ := List.mem_iff_getElem.1 h
  rw [List.length_take] at hi
  rw [List.getElem_take] at e
  have hm : y ∈ postL G := by rw [← e]; exact List.getElem_mem _
  have := ps_of hg (i := i) (by omega)
  rw [getElem!_pos (postL G) i (by omega), e] at this
  exact ⟨hm, by omega⟩
theorem LS.make (hg : Gd G) (h : LS G k hs s B) (e : Ed G b z) (hd : Dm G z b) (hb : k ≤ ps G b) (hn : B z = none) : LS G k (hs ++ [z]) s (bset B z z) ∧ z ∉ hs := by
  obtain ⟨h1, h2⟩ := h.li.make hg e hd hb hn
  have hk : k ≤ ps G z := Nat.le_trans hb (dm_ps hg hd)
  refine ⟨⟨h1, h.ii, fun x hx => ?_, h.nbl, fun x hx => h.nb0 x (fun h3 => hx (by simp [h3])), fun hr x => ?_, h.dp⟩, h2⟩
  · obtain ⟨a, q, b1, b2⟩ := h.i0 x hx
    exact ⟨by simp [a], q, by simp [b1], b2⟩
  · rw [h.nbc hr x]
    refine countP_ext fun y hy => ?_
    have := mem_take_ps hg hy
    rw [bset_ne _ _ (fun e => by subst e; omega)]
theorem LS.outer {ou inn : Nat} (h : LS G k hs s B) (hnb : s'.nb = s.nb) (hdp : s'.dp = s.dp) (r : OuterOK G (phi G) hs s.O s'.O ou inn) (hii : ∀ x p, s'.O x = some p → s'.inn p = false) (hin : ∀ p, s'.inn p = false → s.inn p = false ∨ (p ∈ hs ∧ ∃ x ∈ hs, phi G p x)) : LS G k hs s' B := by
  refine ⟨h.li.outer r, hii, fun x hx => ?_, by rw [hnb]; exact h.nbl, by rw [hnb]; exact h.nb0, by rw [hnb]; exact h.nbc, by rw [hdp]; exact h.dp⟩
  rcases hin x hx with h1 | h1
  · exact h.i0 x h1
  · exact h1
theorem take_b (hg : Gd G) (hb : b ∈ postL G) (hbk : ps G b = k) : (postL G).take (k + 1) = (postL G).take k ++ [b] := by
  have hk : k < (postL G).length := by rw [← hbk]; exact ps_lt hb
  rw [take_snoc' hk, ← hbk, ps_get hb]
theorem LS.done {si : Nat} (hg : Gd G) (h : LS G k hs s B) (hb : b ∈ postL G) (hbk : ps G b = k) (hi : IL G b G[b]!.length hs s.O (some si)) : LS G (k + 1) hs { s with nb := upd s.nb si (s.nb si + 1) } (bset B b si) := by
  have hsi := (hi.im si rfl).1
  refine ⟨h.li.done hg hb hbk hi, h.ii, h.i0, fun x => ?_, fun x hx => ?_, fun hr x => ?_, h.dp⟩
  · show upd s.nb si (s.nb si + 1) x ≤ k + 1
    by_cases e : x = si
    · subst e; rw [upd_same]; have := h.nbl x; omega
    · rw [upd_ne _ _ e]; have := h.nbl x; omega
  · show upd s.nb si (s.nb si + 1) x = 0
    rw [upd_ne _ _ (fun e => by subst e; exact hx hsi)]; exact h.nb0 x hx
  · show upd s.nb si (s.nb si + 1) x = _
    rw [take_b hg hb hbk, List.countP_append]
    have e1 : ((postL G).take k).countP (fun y => bset B b si y == some x) = s.nb x := by
      rw [h.nbc hr x]
      refine countP_ext fun y hy => ?_
      have := mem_take_ps hg hy
      rw [bset_ne _ _ (fun e => by subst e; omega)]
    rw [e1, List.countP_cons, List.countP_nil, bset_same]
    by_cases e : x = si
    · subst e; rw [upd_same]; simp
    · rw [upd_ne _ _ e, if_neg (by simp; exact fun e2 => e e2.symm)]; omega
theorem LS.done0 (hg : Gd G) (h : LS G k hs s B) (hb : b ∈ postL G) (hbk : ps G b = k) (hi : IL G b G[b]!.length hs s.O none) : LS G (k + 1) hs s B := by
  refine ⟨h.li.done0 hg hb hbk hi, h.ii, h.i0, fun x => Nat.le_succ_of_le (h.nbl x), h.nb0, fun hr x => ?_, h.dp⟩
  have hbn : B b = none := by
    rcases h.li.un b ((postL_ok hg).lt b hb) (by omega) with h1 | h1
    · exact h1.1
    · exact absurd (h.li.hdr b h1.2) (LI.nohdr hg hr hi)
  rw [take_b hg hb hbk, List.countP_append, ← h.nbc hr x, List.countP_cons, List.countP_nil, hbn]; simp
end
/-- What the flag tells. -/
def IR0 (G : Graph) (k : Nat) (irr : Bool) : Prop := (irr = true → ¬ Red G) ∧ (irr = false → ∀ a z, a ∈ postL G → ps G a < k → Ed G a z → Dm G z a ∨ ps G z < ps G a)
def IR1 (G : Graph) (k b j : Nat) (irr : Bool) : Prop := IR0 G k irr ∧ (irr = false → ∀ q, q < j → Dm G G[b]![q]! b ∨ ps G G[b]![q]! < ps G b)
theorem ir_init (G : Graph) : IR0 G 0 false := ⟨fun h => (by cases h), fun _ a z _ h => absurd h (Nat.not_lt_zero _)⟩
theorem IR0.start {G : Graph} {k b : Nat} {irr : Bool} (h : IR0 G k irr) : IR1 G k b 0 irr := ⟨h, fun _ q hq => absurd hq (Nat.not_lt_zero _)⟩
theorem IR1.good {G : Graph} {k b j : Nat} {irr : Bool} (h : IR1 G k b j irr) (hz : Dm G G[b]![j]! b ∨ ps G G[b]![j]! < ps G b) : IR1 G k b (j + 1) irr := ⟨h.1, fun e => all_lt_succ (h.2 e) hz⟩
theorem IR1.bad {G : Graph} {k b j : Nat} {irr : Bool} (h : IR1 G k b j irr) (hn : ¬ Red G) : IR1 G k b (j + 1) true := ⟨⟨fun _ => hn, fun e => (by cases e)⟩, fun e => (by cases e)⟩
theorem IR1.done {G : Graph} {k b : Nat} {irr : Bool} (h : IR1 G k b G[b]!.length irr) (hb : b ∈ postL G) (hbk : ps G b = k) : IR0 G (k + 1) irr := by
  refine ⟨h.1.1, fun e a z ha hlt ed => ?_⟩
  by_cases e2 : a = b
  · subst e2; obtain ⟨q, hq, rfl⟩ := ed.idx; exact h.2 e q hq
  · have : ps G a ≠ ps G b := fun e3 => e2 (ps_inj ha hb e3)
    exact h.1.2 e a z ha (by omega) ed
theorem IR0.fin {G : Graph} {irr : Bool} (hg : Gd G) (hw : ∀ x, x < G.length → Rc G 0 x) (h : IR0 G (postL G).length irr) : irr = true ↔ ¬ Red G := by
  refine ⟨h.1, fun hn => ?_⟩
  cases e : irr with
  | true => rfl
  | false =>
    exfalso
    refine hn (red_of hg hw fun a z ed hd => ?_)
    have ha := ((postL_ok hg).mem a).2 (hw a ed.1)
    rcases h.2 e a z ha (ps_lt ha) ed with h1 | h1
    · exact absurd h1 hd
    · exact h1
/-- Which blocks are visited. -/
def VIS (G : Graph) (k : Nat) (vl : List Bool) : Prop := vl.length = G.length + 1 ∧ ∀ x, x ∈ postL G → (vl[x + 1]! = true ↔ ps G x < k)
theorem vis_init {G : Graph} (hg : Gd G) : VIS G 0 (List.replicate (G.length + 1) false) :=
  ⟨by simp, fun x hx => by rw [get!_replicate _ _ _ (by have := (postL_ok hg).lt x hx; omega)]; exact ⟨fun h => (by cases h), fun h => absurd h (Nat.not_lt_zero _)⟩⟩
theorem VIS.set {G : Graph} {k b : Nat} {vl : List Bool} (hg : Gd G) (h : VIS G k vl) (hb : b ∈ postL G) (hbk : ps G b = k) : VIS G (k + 1) (vl.set (b + 1) true) := by
  have hbl := (postL_ok hg).lt b hb
  refine ⟨by simp [h.1], fun x hx => ?_⟩
  rw [get!_set _ _ _ _ (by rw [h.1]; omega)]
  by_cases e : b = x
  · subst e; rw [if_pos rfl]; exact ⟨fun _ => by omega, fun _ => rfl⟩
  · rw [if_neg (by omega), h.2 x hx]
    have : ps G b ≠ ps G x := fun e2 => e (ps_inj hb hx e2)
    omega
section
variable {f : FRep} {G : Graph} {hs : List Nat} {lb lb' : Nat → Nat} {s : LRep} {w w0 : World} {η : List Res} {z tb : Nat}
theorem loops_make (hz : z ∉ hs) (hlo : ∀ h, h ≠ z → lb' h = lb h) (hO : ∀ x h, s.O x = some h → h ∈ hs) (hO0 : s.O z = none) (hn0 : s.nb z = 0) (hd0 : s.dp z = 0) (hi0 : s.inn z = true) : bundle (hs.map (loopR f lb s) ++ [blk (lb' z) 85 [ptr (f.bb z), .pointer none, .int .i32 0, .int .i16 0, .bool true, .bool false]]) = loopsR f (hs ++ [z]) lb' s := by
  have hne : ∀ h ∈ hs, h ≠ z := fun h hh e => hz (e ▸ hh)
  unfold loopsR
  rw [List.map_append]
  congr 2
  · apply List.map_congr_left
    intro h hh
    unfold loopR lcs
    rw [hlo h (hne h hh), lA_lb (o := s.O h) fun q e => hlo q (hne q (hO h q e))]
  · simp only [List.map_cons, List.map_nil]
    unfold loopR lcs
    rw [hO0, hn0, hd0, hi0]
    rfl
theorem lrow_make (hz : z ∉ hs) (hlo : ∀ h, h ≠ z → lb' h = lb h) : (hs.map fun h => ptr (lb h)) ++ [ptr (lb' z)] = (hs ++ [z]).map fun h => ptr (lb' h) := by
  rw [List.map_append]
  congr 1
  apply List.map_congr_left
  intro h hh
  rw [hlo h (fun e => hz (e ▸ hh))]
theorem loops_apart {T : TypeId} {cs : List Value} (hS : St w0 M0 η w) (h0 : η[0]? = some (loopsR f hs lb s)) (h2 : η[2]? = some (blk tb T cs)) (hF : (funcR f G).holds w0) : ∀ c, ((funcR f G).fp c ∨ c = tb) → ∀ h ∈ hs, c ≠ lb h := by
  intro c hc h hh e
  have hfp : (loopsR f hs lb s).fp c := loops_fp.2 ⟨h, hh, e⟩
  rcases hc with hc | hc
  · have h1 := (funcR f G).dom w0 hF c hc
    rcases hS.own _ (List.mem_of_getElem? h0) c hfp with h3 | h3
    · exact h3
    · omega
  · exact pairwise_get disj_sym hS.disj h0 h2 (by omega) c hfp hc
theorem lrow_cell {b c m : Nat} {T : TypeId} (h : (row (.slice (some ⟨b, 0, none⟩) hs.length c) T 1 hs.length (hs.map fun h => ptr (lb h))).holds w) (hm : m < hs.length) : w.cell? ⟨b, m, none⟩ = some (ptr (lb hs[m]!)) := row_cell h (by simp [hm])
end
/-- The nest that is handed out. -/
structure NestOK (G : Graph) (hs : List Nat) (s : LRep) (B : Nat → Option Nat) (irr : Bool) : Prop where
  nd : hs.Nodup
  lt : ∀ h ∈ hs, h < G.length
  oi : OI (phi G) hs s.O
  bm : ∀ y p, B y = some p → p ∈ hs
  irr : irr = true ↔ ¬ Red G
  nbl : ∀ h, s.nb h ≤ 13
  dp : ∀ h ∈ hs, s.dp h = clv s.O G.length h
  nest : Red G → Nest G hs s.O B
  nbc : Red G → ∀ h, s.nb h = (postL G).countP fun y => B y == some h
  ii : ∀ x h, s.O x = some h → s.inn h = false
  i0 : ∀ h, s.inn h = false → h ∈ hs ∧ ∃ x ∈ hs, phi G h x

set_option maxHeartbeats 4000000 in
theorem loopnestfor_ok {w0 : World} {f : FRep} {G : Graph} (hF : (funcR f G).holds w0) (hP : PredsOk f G) (hg : Gd G) (hw : ∀ x, x < G.length → Rc G 0 x) : Calls Try.prog 50 #[ptr f.bf] w0 (Ret fun u w' => ∃ (bn b31 lvb lvc : Nat) (vp vt : Value) (hs : List Nat) (lb : Nat → Nat) (s : LRep) (B : Nat → Option Nat) (irr : Bool), u = ptr bn ∧ NestOK G hs s B irr ∧ St w0 M0 [loopsR f hs lb s, blk b31 76 (b2c G.length lb B), row (.slice (some ⟨lvb, 0, none⟩) hs.length lvc) 76 1 hs.length (hs.map fun h => ptr (lb h)), blk bn 79 [ptr f.bf, .slice (some ⟨b31, 0, none⟩) (G.length + 1) (G.length + 1), vp, vt, .slice (some ⟨lvb, 0, none⟩) hs.length lvc, .bool irr]] w') := by
  have hA := funcAt hF
  have hle := hg.le
  have hpos := hg.pos
  have hpl := postL_le hg
  have hS := St.refl w0
  obtain ⟨fcs, hfc⟩ := hA.hf
  refine V_enterD (N := 260) Try.func50 rfl Try.ntmps50 rfl ?_
  refine VC.sub (τ := [(0, _)]) ⟨rfl, trivial⟩ ?_
  refine VC_seq ?_
  refine VC_region ?_
  refine VL_val rfl rfl rfl (yd_assign rfl) ?_
  refine VL_nil ?_
  refine VE_then ?_
  refine VC_seq ?_
  refine VC_region ?_
  refine VL_val rfl rfl rfl (yd_move rfl) ?_
  refine VL_call rfl rfl rfl rfl T.call58 rfl (funcPostorder_ok (hS.func hF) hg) ?_
  rintro _ w ⟨bo, co, rfl, hR⟩
  have hS := hS.call0 hR
  refine VL_val rfl rfl rfl (yd_assign rfl) ?_
  refine VL_nil ?_
  refine VE_then ?_
  refine VC_seq ?_
  refine VC_region ?_
  refine VL_val rfl rfl rfl (yd_move rfl) ?_
  refine VL_call rfl rfl rfl rfl T.call45 rfl (sdom_ok (hS.func hF) hP hg) ?_
  rintro _ w ⟨tb, t, L, rfl, hid, hok, hR⟩
  have hS := hS.call0 hR
  have hTD := td_of hg hid hok
  refine VL_val rfl rfl rfl (yd_assign rfl) ?_
  refine VL_nil ?_
  refine VE_then ?_
  refine VC_seq ?_
  refine VC_region ?_
  refine VL_val rfl rfl rfl (yd_move rfl) ?_
  refine VL_call rfl rfl rfl rfl T.call57 rfl (numBlocks_ok (hS.func hF) hg) ?_
  rintro _ _ ⟨rfl, rfl⟩
  refine VL_makeM Value.pointer none rfl rfl rfl rfl rfl rfl Try.underlying77 T.e76 rfl rfl (by omega) (by omega) (by omega) hS ?_
  clear hS; intro b31 w hS
  refine VL_val rfl rfl rfl (yd_assign rfl) ?_
  refine VL_nil ?_
  refine VE_then ?_
  refine VC_seq ?_
  refine VC_region ?_
  refine VL_makeM Value.pointer none (l := 0) (c := 0) rfl rfl rfl rfl rfl rfl Try.underlying77 T.e76 rfl rfl (by omega) (by omega) (by omega) hS ?_
  clear hS; intro b32 w hS
  have hS := hS.mkrow 3 (c := 0) (sz := 1) rfl rfl (by omega)
  refine VL_val rfl rfl rfl (yd_assign rfl) ?_
  refine VL_nil ?_
  refine VE_then ?_
  refine VC_seq ?_
  refine VC_draw T.mixed hS ?_
  clear hS; intro w hS
  refine VA_take (i := 0) rfl rfl rfl rfl (by kernel_rfl) (by kernel_rfl) (by kernel_rfl) #[true, false, false, false, false, false, false, false] (by kernel_rfl) (fun _ _ _ _ h => h) (fun w hS => yd_move rfl) ?_
  refine VA_take (i := 1) rfl rfl rfl rfl (by kernel_rfl) (by kernel_rfl) (by kernel_rfl) #[true, true, false, false, false, false, false, false] (by kernel_rfl) (fun _ _ _ _ h => h) (fun w hS => yd_nilc rfl) ?_
  refine VA_take (i := 2) rfl rfl rfl rfl (by kernel_rfl) (by kernel_rfl) (by kernel_rfl) #[true, true, true, false, false, false, false, false] (by kernel_rfl) (fun _ _ _ _ h => h) (fun w hS => yd_field0 rfl T.fldz89_2 (hS.heap0 hfc)) ?_
  refine VA_take (i := 3) rfl rfl rfl rfl (by kernel_rfl) (by kernel_rfl) (by kernel_rfl) #[true, true, true, true, false, false, false, false] (by kernel_rfl) (fun _ _ _ _ h => h) (fun w hS => yd_loadE rfl T.agg87) ?_
  refine VA_take (i := 4) rfl rfl rfl rfl (by kernel_rfl) (by kernel_rfl) (by kernel_rfl) #[true, true, true, true, true, false, false, false] (by kernel_rfl) (fun _ _ _ _ h => h) (fun w hS => yd_move rfl) ?_
  refine VA_only (i := 5) (by kernel_rfl) hS ?_
  refine VS_call rfl (wanted_none rfl) #[true, true, true, true, true, true, false, false] (by kernel_rfl) rfl rfl rfl T.call57 rfl (numBlocks_ok (hS.func hF) hg) ?_
  rintro _ _ ⟨rfl, rfl⟩
  refine VA_only (i := 6) (by kernel_rfl) hS ?_
  refine VS_call rfl (wanted_none rfl) #[true, true, true, true, true, true, true, false] (by kernel_rfl) rfl rfl rfl T.call62 rfl (allocBool_ok (by omega)) ?_
  rintro _ w ⟨bv, rfl, hR⟩
  have hS := hS.call0 hR
  refine VA.weaken (S' := fun w => St w0 M0 (_ ++ [blk bv 4 ((List.replicate (G.length + 1) false).map Value.bool)]) w) ?_ (fun w h => h.sub (List.sublist_append_left _ _))
  refine VA_take (i := 7) rfl rfl rfl rfl (by kernel_rfl) (by kernel_rfl) (by kernel_rfl) #[true, true, true, true, true, true, true, true] (by kernel_rfl) (fun _ _ _ _ h => h) (fun w hS => yd_assign rfl) ?_
  refine VA_done (by kernel_rfl) hS ?_
  refine VE_then ?_
  refine VC_seq ?_
  refine VC_region ?_
  refine VL_val rfl rfl rfl (yd_move rfl) ?_
  refine VL_val rfl rfl rfl (yd_nilc rfl) ?_
  refine VL_val rfl rfl rfl (yd_field0 rfl T.fldz89_2 (hS.heap0 hfc)) ?_
  refine VL_val rfl rfl rfl (yd_loadE rfl T.agg87) ?_
  refine VL_val rfl rfl rfl (yd_move rfl) ?_
  refine VL_defer rfl rfl rfl rfl ?_
  refine VL_nil ?_
  refine VE_then ?_
  refine VC_seq ?_
  refine VC_region ?_
  refine VL_val rfl rfl rfl (yd_assign rfl) ?_
  refine VL_nil ?_
  refine VE_then ?_
  refine VC_seq ?_
  refine VC_seq ?_
  refine VC_region ?_
  refine VL_val rfl rfl rfl (yd_move rfl) ?_
  refine VL_val rfl rfl rfl (yd_len rfl Try.underlying72) ?_
  refine VL_val rfl rfl rfl (yd_move rfl) ?_
  refine VL_nil ?_
  refine VE_then ?_
  refine VC_block ?_
  have hS := bundle0 hS
  have hS : St w0 M0 [loopsR f ([] : List Nat) (fun _ => 0) s0, row (.slice (some ⟨bo, 0, none⟩) (postL G).length co) 82 1 (postL G).length (ordV f (postL G)), blk tb 98 (tcells f G.length t), blk b31 76 (b2c G.length (fun _ => 0) (fun _ => none)), row (.slice (some ⟨b32, 0, none⟩) 0 0) 76 1 ([] : List Nat).length (([] : List Nat).map fun h => ptr ((fun _ => 0) h)), blk bv 4 ((List.replicate (G.length + 1) false).map Value.bool)] w := by rw [b2_init]; exact hS
  refine VC_loop8 [0, 2, 3, 4, 5, 7, 45, 46] [_, _, _, _, _, _, _, _] rfl (fun (k : Nat) (hs : List Nat) (lb : Nat → Nat) (s : LRep) (B : Nat → Option Nat) (vl : List Bool) (lv : Value) (irr : Bool) => [(47, .int .i64 ((k : Nat) : Int)), (6, lv), (8, .bool irr)]) (fun (k : Nat) (hs : List Nat) (lb : Nat → Nat) (s : LRep) (B : Nat → Option Nat) (vl : List Bool) (lv : Value) (irr : Bool) w => k ≤ (postL G).length ∧ LS G k hs s B ∧ VIS G k vl ∧ IR0 G k irr ∧ lv ≠ .slice none 0 0 ∧ St w0 M0 [loopsR f hs lb s, row (.slice (some ⟨bo, 0, none⟩) (postL G).length co) 82 1 (postL G).length (ordV f (postL G)), blk tb 98 (tcells f G.length t), blk b31 76 (b2c G.length lb B), row lv 76 1 hs.length (hs.map fun h => ptr (lb h)), blk bv 4 (vl.map Value.bool)] w) (fun (k : Nat) (hs : List Nat) (lb : Nat → Nat) (s : LRep) (B : Nat → Option Nat) (vl : List Bool) (lv : Value) (irr : Bool) => (postL G).length - k) 0 [] (fun _ => 0) s0 (fun _ => none) _ _ false ⟨rfl, rfl, rfl, trivial⟩ (⟨Nat.zero_le _, ls_init hg, vis_init hg, ir_init G, by simp, hS⟩) ?_
  clear hS; rintro k hs lb s B vl lv irr w ⟨hk, hLS, hvis, hir, hlvn, hS⟩
  refine VC_seq ?_
  refine VC_region ?_
  refine VL_val rfl rfl rfl (yd_lss rfl rfl) ?_
  refine VL_nil ?_
  refine VE_then ?_
  refine VC_seq ?_
  refine VC_cond rfl (fun h48 => ?_) (fun h48 => ?_)
  · replace h48 := of_decide_eq_true h48
    refine VC_skip ?_
    refine VE_then ?_
    refine VC_seq ?_
    refine VC_block ?_
    refine VC_seq ?_
    refine VC_region ?_
    have hkl : k < (postL G).length := by omega
    obtain ⟨b, hb⟩ : ∃ b, b = (postL G)[k]! := ⟨_, rfl⟩
    have hbm : b ∈ postL G := by rw [hb, getElem!_pos (postL G) k hkl]; exact List.getElem_mem _
    have hbk : ps G b = k := by rw [hb]; exact ps_of hg hkl
    have hbl := (postL_ok hg).lt b hbm
    have hbr := hw b hbl
    obtain ⟨sa, sc, sb, hsuc, hsa, hscs, -⟩ := hA.suc b hbl
    have hr4 := hg.row b hbl
    have hvl := hvis.1
    refine VL_val rfl rfl rfl (yd_index0 rfl rfl Try.underlying72 T.sz82 (by omega)) ?_
    refine VL_val rfl rfl rfl (yd_load rfl T.one82 (show _ = some (ptr (f.bb b)) by rw [hb]; exact ord_cell (hS.get 1 rfl) (by omega))) ?_
    refine VL_val rfl rfl rfl (yd_assign rfl) ?_
    refine VL_nil ?_
    refine VE_then ?_
    refine VC_seq ?_
    refine VC_region ?_
    refine VL_val rfl rfl rfl (yd_assign rfl) ?_
    refine VL_nil ?_
    refine VE_then ?_
    refine VC_seq ?_
    refine VC_seq ?_
    refine VC_region ?_
    refine VL_val rfl rfl rfl (yd_move rfl) ?_
    refine VL_val rfl rfl rfl (yd_nilc rfl) ?_
    refine VL_val rfl rfl rfl (yd_field rfl T.fld93_1) ?_
    refine VL_val rfl rfl rfl (yd_load rfl T.one91 (hS.cell0 hsuc)) ?_
    refine VL_val rfl rfl rfl (yd_len rfl Try.underlying91) ?_
    refine VL_val rfl rfl rfl (yd_move rfl) ?_
    refine VL_nil ?_
    refine VE_then ?_
    refine VC_block ?_
    refine VC_loop9 [0, 2, 3, 4, 5, 7, 10, 45, 46, 47, 48, 49, 50, 51, 52, 53, 54, 55] [_, _, _, _, _, _, _, _, _, _, _, _, _, _, _, _, _, _] rfl (fun (j : Nat) (hs : List Nat) (lb : Nat → Nat) (s : LRep) (B : Nat → Option Nat) (lv : Value) (irr : Bool) (i : Option Nat) (ia : Option Addr) => [(56, .int .i64 ((j : Nat) : Int)), (6, lv), (8, .bool irr), (11, .pointer ia)]) (fun (j : Nat) (hs : List Nat) (lb : Nat → Nat) (s : LRep) (B : Nat → Option Nat) (lv : Value) (irr : Bool) (i : Option Nat) (ia : Option Addr) w => j ≤ G[b]!.length ∧ LS G k hs s B ∧ IL G b j hs s.O i ∧ IR1 G k b j irr ∧ lv ≠ .slice none 0 0 ∧ ia = lA lb i ∧ St w0 M0 [loopsR f hs lb s, row (.slice (some ⟨bo, 0, none⟩) (postL G).length co) 82 1 (postL G).length (ordV f (postL G)), blk tb 98 (tcells f G.length t), blk b31 76 (b2c G.length lb B), row lv 76 1 hs.length (hs.map fun h => ptr (lb h)), blk bv 4 (vl.map Value.bool)] w) (fun (j : Nat) (hs : List Nat) (lb : Nat → Nat) (s : LRep) (B : Nat → Option Nat) (lv : Value) (irr : Bool) (i : Option Nat) (ia : Option Addr) => G[b]!.length - j) 0 hs lb s B lv irr none none ⟨rfl, rfl, rfl, rfl, trivial⟩ (⟨Nat.zero_le _, hLS, il_init b hs s.O, hir.start, hlvn, rfl, hS⟩) ?_
    clear hS hLS hir hlvn; rintro j hs lb s B lv irr i ia w ⟨hj, hLS, hIL, hir, hlvn, hia, hS⟩
    refine VC_seq ?_
    refine VC_region ?_
    refine VL_val rfl rfl rfl (yd_lss rfl rfl) ?_
    refine VL_nil ?_
    refine VE_then ?_
    refine VC_seq ?_
    refine VC_cond rfl (fun h57 => ?_) (fun h57 => ?_)
    · replace h57 := of_decide_eq_true h57
      refine VC_skip ?_
      refine VE_then ?_
      refine VC_seq ?_
      refine VC_block ?_
      refine VC_seq ?_
      refine VC_region ?_
      obtain rfl := hsa (by omega)
      obtain ⟨z, hz⟩ : ∃ z, z = G[b]![j]! := ⟨_, rfl⟩
      have hez : Ed G b z := by rw [hz]; exact Ed.get hbl (by omega)
      have hzl := hez.lt hg
      have hzr := hw z hzl
      have hzm := ((postL_ok hg).mem z).2 hzr
      have hlv : ∀ h ∈ hs, Rc G 0 h := hLS.li.live
      have hln : ∀ h ∈ hs, h < G.length := fun h hh => Rch.lt hg hg.pos (hlv h hh)
      obtain ⟨l0, hl0⟩ : ∃ o, o = B z := ⟨_, rfl⟩
      have hl0m : ∀ h, l0 = some h → h ∈ hs := fun h e => hLS.li.bm z h (by rw [← hl0]; exact e)
      have hhl : hs.length ≤ 13 := Nat.le_trans (nodup_len _ hLS.li.nd hln) hg.le
      refine VL_val rfl rfl rfl (yd_index0 rfl rfl Try.underlying91 T.sz96 (by omega)) ?_
      refine VL_val rfl rfl rfl (yd_loadn [ptr (f.bb z)] rfl T.agg96 (one_cell (by rw [hz]; exact hS.cell0 (hscs j (by omega))))) ?_
      refine VL_alloc rfl rfl rfl rfl T.e96 hS ?_
      clear hS; intro b13 w hS
      refine VL_storeN (cs := [ptr (f.bb z)]) rfl rfl rfl rfl rfl T.agg96 (by intro u hu; cases List.mem_singleton.1 hu; rfl) hS 6 rfl (by simp [Value.cells]) ?_
      clear hS; intro w hS
      refine VL_nil ?_
      refine VE_then ?_
      refine VC_seq ?_
      refine VC_region ?_
      refine VL_val rfl rfl rfl (yd_field rfl T.fld96_0) ?_
      refine VL_val rfl rfl rfl (yd_load rfl T.one82 (blk_cell (hS.get 6 rfl) rfl)) ?_
      refine VL_val rfl rfl rfl (yd_assign rfl) ?_
      refine VL_nil ?_
      have hS := hS.sub (η' := _) (List.take_sublist 6 _)
      refine VE_then ?_
      refine VC_seq ?_
      refine VC_region ?_
      refine VL_val rfl rfl rfl (yd_move rfl) ?_
      refine VL_val rfl rfl rfl (yd_move rfl) ?_
      refine VL_val rfl rfl rfl (yd_nilc rfl) ?_
      refine VL_val rfl rfl rfl (yd_field rfl T.fld93_0) ?_
      refine VL_val rfl rfl rfl (yd_load rfl T.one90 (hS.cell0 (hA.id z hzl))) ?_
      refine VL_val rfl rfl rfl (yd_index0 rfl rfl Try.underlying77 T.sz76 (by omega)) ?_
      refine VL_val rfl rfl rfl (yd_load rfl T.one76 (show _ = some (Value.pointer (lA lb l0)) by rw [hl0]; exact b2_cell (hS.get 3 rfl) hzl)) ?_
      refine VL_val rfl rfl rfl (yd_assign rfl) ?_
      refine VL_nil ?_
      refine VE_then ?_
      refine VC_cut7 [0, 2, 3, 4, 5, 7, 10, 11, 13, 14, 45, 46, 47, 48, 49, 50, 51, 52, 53, 54, 55, 56, 57, 58, 59, 60, 61, 62, 63, 64, 65, 66, 67, 68] [_, _, _, _, _, _, _, _, _, _, _, _, _, _, _, _, _, _, _, _, _, _, _, _, _, _, _, _, _, _, _, _, _, _] rfl (fun (hs2 : List Nat) (lb2 : Nat → Nat) (B2 : Nat → Option Nat) (lv2 : Value) (irr2 : Bool) (l : Option Nat) (la : Option Addr) => [(6, lv2), (8, .bool irr2), (15, .pointer la)]) (fun (hs2 : List Nat) (lb2 : Nat → Nat) (B2 : Nat → Option Nat) (lv2 : Value) (irr2 : Bool) (l : Option Nat) (la : Option Addr)  w => LS G k hs2 s B2 ∧ IL G b j hs2 s.O i ∧ LL G b G[b]![j]! hs2 s.O l ∧ IR1 G k b (j + 1) irr2 ∧ lv2 ≠ .slice none 0 0 ∧ la = lA lb2 l ∧ ia = lA lb2 i ∧ St w0 M0 [loopsR f hs2 lb2 s, row (.slice (some ⟨bo, 0, none⟩) (postL G).length co) 82 1 (postL G).length (ordV f (postL G)), blk tb 98 (tcells f G.length t), blk b31 76 (b2c G.length lb2 B2), row lv2 76 1 hs2.length (hs2.map fun h => ptr (lb2 h)), blk bv 4 (vl.map Value.bool)] w) ?_ ?_
      · skip
        refine VC_seq ?_
        refine VC_region ?_
        refine VL_val rfl rfl rfl (yd_move rfl) ?_
        refine VL_val rfl rfl rfl (yd_move rfl) ?_
        refine VL_val rfl rfl rfl (yd_move rfl) ?_
        refine VL_call rfl rfl rfl rfl T.call64 rfl (isAncestorEq_ok (hS.func hF) hg (hS.get 2 rfl) hzl hbl) ?_
        rintro _ w ⟨ca, rfl, hca, hR⟩
        have hS := hS.call0 hR
        rw [hTD.eq z b hzr hbr] at hca
        refine VL_nil ?_
        refine VE_then ?_
        refine VC_cond rfl (fun h72 => ?_) (fun h72 => ?_)
        · skip
          have hdz := hca.1 h72
          have hirg := hir.good (.inl (by rw [← hz]; exact hdz))
          refine VC_seq ?_
          refine VC_region ?_
          refine VL_val rfl rfl rfl (yd_move rfl) ?_
          refine VL_val rfl rfl rfl (yd_eqlp rfl rfl Try.underlying76 T.sz85 (by decide) (isC_lA (hS.get 0 rfl) hl0m) isC_none) ?_
          refine VL_nil ?_
          refine VE_then ?_
          refine VC_cond rfl (fun h74 => ?_) (fun h74 => ?_)
          · replace h74 := of_decide_eq_true h74
            have hBz : B z = none := by rw [← hl0]; exact lA_none h74
            obtain ⟨hLSn, hzn⟩ := hLS.make hg hez hdz (by omega) hBz
            refine VC_seq ?_
            refine VC_region ?_
            refine VL_val rfl rfl rfl (yd_move rfl) ?_
            refine VL_val rfl rfl rfl (yd_build (cells := #[ptr (f.bb z), .pointer none, .int .i32 0, .int .i16 0, .bool true, .bool false]) T.st85 (vs := [(0, _), (4, _)]) rfl rfl) ?_
            refine VL_box rfl rfl rfl rfl rfl hS ?_
            clear hS; intro b77 w hS
            obtain ⟨lb1, hlz, hlo⟩ : ∃ lb1 : Nat → Nat, lb1 z = b77 ∧ ∀ h, h ≠ z → lb1 h = lb h := ⟨upd lb z b77, upd_same _ _ _, fun h e => upd_ne _ _ e⟩
            subst hlz
            have hne : ∀ h ∈ hs, h ≠ z := fun h hh e => hzn (e ▸ hh)
            refine VL_val rfl rfl rfl (yd_assign rfl) ?_
            refine VL_nil ?_
            refine VE_then ?_
            refine VC_seq ?_
            refine VC_region ?_
            refine VL_val rfl rfl rfl (yd_move rfl) ?_
            refine VL_val rfl rfl rfl (yd_move rfl) ?_
            refine VL_rel rfl rfl rfl (yr_bslice rfl Try.underlying77 T.e76 rfl (by decide) (by decide) hS) ?_
            clear hS; rintro _ w ⟨b80, rfl, hS⟩
            refine VL_rel rfl rfl rfl (yr_append rfl rfl Try.underlying77 T.e76 rfl (by decide) hS 4 rfl (hS.get 7 rfl) rfl (fun u hu => by cases List.mem_singleton.1 (show u ∈ [ptr (lb1 z)] from hu); rfl) (by omega) (by omega)) ?_
            clear hS; rintro v81 w ⟨hS, hnil⟩
            have hS := bundle_in (hS.front 6 rfl)
            have hS := hS.sub (η' := _) (List.take_sublist 6 _)
            have hlen1 : (hs ++ [z]).length = hs.length + 1 := by simp
            have hS : St w0 M0 [loopsR f (hs ++ [z]) lb1 s, row (.slice (some ⟨bo, 0, none⟩) (postL G).length co) 82 1 (postL G).length (ordV f (postL G)), blk tb 98 (tcells f G.length t), blk b31 76 (b2c G.length lb1 B), row v81 76 1 (hs ++ [z]).length ((hs ++ [z]).map fun h => ptr (lb1 h)), blk bv 4 (vl.map Value.bool)] w := by
              rw [← loops_make hzn hlo (fun x h e => (hLS.li.oi.ok x h e).2.1) (hLS.O0 hzn) (hLS.nb0 z hzn) (hLS.dp z) (hLS.inn0 hzn), ← lrow_make hzn hlo, b2_lb (lb := lb) (fun y q e => hlo q (hne q (hLS.li.bm y q e))), hlen1]; exact hS
            refine VL_val rfl rfl rfl (yd_assign rfl) ?_
            refine VL_nil ?_
            refine VE_then ?_
            refine VC_region ?_
            refine VL_val rfl rfl rfl (yd_move rfl) ?_
            refine VL_val rfl rfl rfl (yd_move rfl) ?_
            refine VL_val rfl rfl rfl (yd_nilc rfl) ?_
            refine VL_val rfl rfl rfl (yd_field rfl T.fld93_0) ?_
            refine VL_val rfl rfl rfl (yd_load rfl T.one90 (hS.cell0 (hA.id z hzl))) ?_
            refine VL_val rfl rfl rfl (yd_move rfl) ?_
            refine VL_val rfl rfl rfl (yd_index0 rfl rfl Try.underlying77 T.sz76 (by omega)) ?_
            refine VL_store (v := .pointer (lA lb1 (some z))) rfl rfl rfl rfl rfl T.one76 rfl hS 3 rfl (by rw [b2_len]; omega) ?_
            clear hS; intro w hS
            rw [b2_set] at hS
            refine VL_nil ?_
            exact VE_cut7 (hs ++ [z]) lb1 (bset B z z) v81 irr (some z) _ ⟨rfl, rfl, rfl, rfl, rfl, rfl, rfl, rfl, rfl, rfl, rfl, rfl, rfl, rfl, rfl, rfl, rfl, rfl, rfl, rfl, rfl, rfl, rfl, rfl, rfl, rfl, rfl, rfl, rfl, rfl, rfl, rfl, rfl, rfl, rfl, rfl, rfl, trivial⟩ ⟨hLSn, hIL.more z, by rw [← hz]; exact ll_back hez hdz (by simp), hirg, fun h => hlvn (hnil.1 h).1, rfl, by rw [hia]; exact (lA_lb (fun q e => hlo q (hne q (hIL.im q e).1))).symm, hS⟩
          · replace h74 := of_decide_eq_false h74
            have hBz : B z = some z := by
              rcases hLS.li.un z hzl (by have := dm_ps hg hdz; omega) with h1 | h1
              · exact absurd (by rw [hl0, h1.1]; rfl) h74
              · exact h1.1
            have hzs : z ∈ hs := hLS.li.bm z z hBz
            refine VC_skip ?_
            exact VE_cut7 hs lb B lv irr (some z) _ ⟨rfl, rfl, rfl, rfl, rfl, rfl, rfl, rfl, rfl, rfl, rfl, rfl, rfl, rfl, rfl, rfl, rfl, rfl, rfl, rfl, rfl, rfl, rfl, rfl, rfl, rfl, rfl, rfl, rfl, rfl, rfl, rfl, rfl, rfl, rfl, rfl, rfl, trivial⟩ ⟨hLS, hIL, by rw [← hz]; exact ll_back hez hdz hzs, hirg, hlvn, by rw [hl0, hBz], hia, hS⟩
        · skip
          have hdz : ¬ Dm G z b := fun h2 => by have := hca.2 h2; rw [h72] at this; cases this
          refine VC_seq ?_
          refine VC_region ?_
          refine VL_val rfl rfl rfl (yd_move rfl) ?_
          refine VL_val rfl rfl rfl (yd_move rfl) ?_
          refine VL_val rfl rfl rfl (yd_nilc rfl) ?_
          refine VL_val rfl rfl rfl (yd_field rfl T.fld93_0) ?_
          refine VL_val rfl rfl rfl (yd_load rfl T.one90 (hS.cell0 (hA.id z hzl))) ?_
          refine VL_val rfl rfl rfl (yd_index0 rfl rfl Try.underlying25 T.sz4 (by omega)) ?_
          refine VL_val rfl rfl rfl (yd_load rfl T.one4 (blk_cellM (hS.get 5 rfl) (by omega))) ?_
          refine VL_val rfl rfl rfl (yd_not rfl) ?_
          refine VL_nil ?_
          refine VE_then ?_
          refine VC_cond rfl (fun h96 => ?_) (fun h96 => ?_)
          · replace h96 := V.nt h96
            have hnv : ¬ ps G z < k := fun h2 => by have := (hvis.2 z hzm).2 h2; rw [h96] at this; cases this
            have hnr := not_red hg hbm hez hdz (by rw [hbk]; exact hnv)
            refine VC_region ?_
            refine VL_val rfl rfl rfl (yd_assign rfl) ?_
            refine VL_nil ?_
            exact VE_cut7 hs lb B lv true l0 _ ⟨rfl, rfl, rfl, rfl, rfl, rfl, rfl, rfl, rfl, rfl, rfl, rfl, rfl, rfl, rfl, rfl, rfl, rfl, rfl, rfl, rfl, rfl, rfl, rfl, rfl, rfl, rfl, rfl, rfl, rfl, rfl, rfl, rfl, rfl, rfl, rfl, rfl, trivial⟩ ⟨hLS, hIL, ll_bad hnr hl0m, hir.bad hnr, hlvn, rfl, hia, hS⟩
          · replace h96 := V.nf h96
            have hvz := (hvis.2 z hzm).1 h96
            have hirg := hir.good (.inr (by rw [← hz, hbk]; exact hvz))
            refine VC_seq ?_
            refine VC_region ?_
            refine VL_val rfl rfl rfl (yd_move rfl) ?_
            refine VL_val rfl rfl rfl (yd_neqp rfl rfl Try.underlying76 T.sz85 (by decide) (isC_lA (hS.get 0 rfl) hl0m) isC_none) ?_
            refine VL_nil ?_
            refine VE_then ?_
            refine VC_cond rfl (fun h98 => ?_) (fun h98 => ?_)
            · replace h98 := of_decide_eq_true h98
              obtain ⟨q, hq⟩ : ∃ q, l0 = some q := Option.ne_none_iff_exists'.1 (fun e => h98 (by rw [e]; rfl))
              have hqm := hl0m q hq
              have hBq : B z = some q := by rw [← hl0]; exact hq
              refine VC_seq ?_
              refine VC_region ?_
              refine VL_val rfl rfl rfl (yd_move rfl) ?_
              refine VL_val rfl rfl rfl (yd_move rfl) ?_
              refine VL_val rfl rfl rfl (yd_nilcO rfl (lA_some hq)) ?_
              refine VL_val rfl rfl rfl (yd_field rfl T.fld85_0) ?_
              refine VL_val rfl rfl rfl (yd_load rfl T.one82 (blk_cell (loop_get (hS.get 0 rfl) hqm) rfl)) ?_
              refine VL_val rfl rfl rfl (yd_move rfl) ?_
              refine VL_call rfl rfl rfl rfl T.call64 rfl (isAncestorEq_ok (hS.func hF) hg (hS.get 2 rfl) (hln q hqm) hbl) ?_
              rintro _ w ⟨cb, rfl, hcb, hR⟩
              have hS := hS.call0 hR
              rw [hTD.eq q b (hlv q hqm) hbr] at hcb
              refine VL_val rfl rfl rfl (yd_not rfl) ?_
              refine VL_nil ?_
              refine VE_then ?_
              refine VC_cond rfl (fun h106 => ?_) (fun h106 => ?_)
              · replace h106 := V.nt h106
                have hdq : ¬ Dm G q b := fun h2 => by have := hcb.2 h2; rw [h106] at this; cases this
                refine VC_region ?_
                refine VL_val rfl rfl rfl (yd_move rfl) ?_
                refine VL_val rfl rfl rfl (yd_move rfl) ?_
                refine VL_val rfl rfl rfl (yd_move rfl) ?_
                refine VL_call rfl rfl rfl rfl T.call65 rfl (nearest_ok hg (phi_ok hg) hlv hTD (hS.func hF) (hS.get 2 rfl) (hS.get 0 rfl) hLS.li.oi hqm hbl hbr (by rw [lA_some hq])) ?_
                rintro _ w ⟨ln, rfl, hn1, hn2, hR⟩
                have hS := hS.call0 hR
                refine VL_val rfl rfl rfl (yd_assign rfl) ?_
                refine VL_nil ?_
                exact VE_cut7 hs lb B lv irr ln _ ⟨rfl, rfl, rfl, rfl, rfl, rfl, rfl, rfl, rfl, rfl, rfl, rfl, rfl, rfl, rfl, rfl, rfl, rfl, rfl, rfl, rfl, rfl, rfl, rfl, rfl, rfl, rfl, rfl, rfl, rfl, rfl, rfl, rfl, rfl, rfl, rfl, rfl, trivial⟩ ⟨hLS, hIL, by rw [← hz]; exact ll_near hLS.li hbm hbk hez hdz hzm hvz hg hBq hdq hn1 hn2, hirg, hlvn, rfl, hia, hS⟩
              · replace h106 := V.nf h106
                have hdq := hcb.1 h106
                refine VC_skip ?_
                exact VE_cut7 hs lb B lv irr (some q) _ ⟨rfl, rfl, rfl, rfl, rfl, rfl, rfl, rfl, rfl, rfl, rfl, rfl, rfl, rfl, rfl, rfl, rfl, rfl, rfl, rfl, rfl, rfl, rfl, rfl, rfl, rfl, rfl, rfl, rfl, rfl, rfl, rfl, rfl, rfl, rfl, rfl, rfl, trivial⟩ ⟨hLS, hIL, by rw [← hz]; exact ll_same hLS.li hbm hbk hez hdz hzm hvz hg hBq hdq, hirg, hlvn, by rw [hq], hia, hS⟩
            · replace h98 := Decidable.not_not.1 (of_decide_eq_false h98)
              have hBn : B z = none := by rw [← hl0]; exact lA_none h98
              refine VC_skip ?_
              exact VE_cut7 hs lb B lv irr none _ ⟨rfl, rfl, rfl, rfl, rfl, rfl, rfl, rfl, rfl, rfl, rfl, rfl, rfl, rfl, rfl, rfl, rfl, rfl, rfl, rfl, rfl, rfl, rfl, rfl, rfl, rfl, rfl, rfl, rfl, rfl, rfl, rfl, rfl, rfl, rfl, rfl, rfl, trivial⟩ ⟨hLS, hIL, by rw [← hz]; exact ll_none hLS.li hbm hbk hez hdz hzm hvz hBn, hirg, hlvn, by rw [hl0, hBn], hia, hS⟩
      · clear hS hLS hIL hlv hln hl0m hl0 hlvn hia hhl; rename_i hs0 lb0 hb0; clear hir; rintro hs lb B lv irr l la w ⟨hLS, hIL, hLL, hir, hlvn, hla, hia, hS⟩
        refine VC_seq ?_
        refine VC_seq ?_
        refine VC_region ?_
        have hlv : ∀ h ∈ hs, Rc G 0 h := hLS.li.live
        have hln : ∀ h ∈ hs, h < G.length := fun h hh => Rch.lt hg hg.pos (hlv h hh)
        have hlm : ∀ h, l = some h → h ∈ hs := fun h e => (hLL.lm h e).1
        have him : ∀ h, i = some h → h ∈ hs := fun h e => (hIL.im h e).1
        have hcl : IsC w la := by rw [hla]; exact isC_lA (hS.get 0 rfl) hlm
        have hci : IsC w ia := by rw [hia]; exact isC_lA (hS.get 0 rfl) him
        refine VL_val rfl rfl rfl (yd_move rfl) ?_
        refine VL_val rfl rfl rfl (yd_eqlp rfl rfl Try.underlying76 T.sz85 (by decide) hcl isC_none) ?_
        refine VL_val rfl rfl rfl (yd_move rfl) ?_
        refine VL_split 113 rfl (fun h113 => ?_) (fun h113 => ?_)
        · replace h113 := of_decide_eq_true h113
          have hIL1 := hIL.stay hLL (.inl (lA_none (by rw [← hla]; exact h113)))
          refine VL_no rfl rfl rfl rfl rfl rfl rfl ?_
          refine VL_no rfl rfl rfl rfl rfl rfl rfl ?_
          refine VL_no rfl rfl rfl rfl rfl rfl rfl ?_
          refine VL_val rfl rfl rfl (yd_pick_t rfl rfl) ?_
          refine VL_nil ?_
          refine VE_then ?_
          refine VC_cond_t rfl ?_
          refine VC_exit ?_
          refine VE_then_exit (VE_block_exit ?_)
          refine VE_then ?_
          refine VC_region ?_
          refine VL_val rfl rfl rfl (yd_add rfl rfl ((j + 1 : Nat) : Int) (by rw [wi64 (by omega) (by omega)]; omega)) ?_
          refine VL_val rfl rfl rfl (yd_move rfl) ?_
          refine VL_nil ?_
          first
          | exact VE_round9 (j + 1) hs lb s B lv irr i ia ⟨rfl, rfl, rfl, rfl, rfl, rfl, rfl, rfl, rfl, rfl, rfl, rfl, rfl, rfl, rfl, rfl, rfl, rfl, rfl, rfl, rfl, rfl, trivial⟩ ⟨by omega, hLS, hIL1, hir, hlvn, hia, hS⟩ (by omega)
          | exact VE_round9 (j + 1) hs lb s B lv irr (some si) ia ⟨rfl, rfl, rfl, rfl, rfl, rfl, rfl, rfl, rfl, rfl, rfl, rfl, rfl, rfl, rfl, rfl, rfl, rfl, rfl, rfl, rfl, rfl, trivial⟩ ⟨by omega, hLS, hIL1, hir, hlvn, hia, hS⟩ (by omega)
          | exact VE_round9 (j + 1) hs lb s B lv irr (some lo) la ⟨rfl, rfl, rfl, rfl, rfl, rfl, rfl, rfl, rfl, rfl, rfl, rfl, rfl, rfl, rfl, rfl, rfl, rfl, rfl, rfl, rfl, rfl, trivial⟩ ⟨by omega, hLS, hIL2, hir, hlvn, hla, hS⟩ (by omega)
          | exact VE_round9 (j + 1) hs lb s1 B lv irr (some lo) la ⟨rfl, rfl, rfl, rfl, rfl, rfl, rfl, rfl, rfl, rfl, rfl, rfl, rfl, rfl, rfl, rfl, rfl, rfl, rfl, rfl, rfl, rfl, trivial⟩ ⟨by omega, hLS1, hIL3, hir, hlvn, hla, hS⟩ (by omega)
          | exact VE_round9 (j + 1) hs lb s1 B lv irr (some si) ia ⟨rfl, rfl, rfl, rfl, rfl, rfl, rfl, rfl, rfl, rfl, rfl, rfl, rfl, rfl, rfl, rfl, rfl, rfl, rfl, rfl, rfl, rfl, trivial⟩ ⟨by omega, hLS1, hIL4, hir, hlvn, hia, hS⟩ (by omega)
        · replace h113 := of_decide_eq_false h113
          obtain ⟨lo, hlo⟩ : ∃ lo, l = some lo := Option.ne_none_iff_exists'.1 (fun e => h113 (by rw [hla, e]; rfl))
          subst hlo
          have hlom := hlm lo rfl
          refine VL_yes rfl rfl rfl rfl ?_
          refine VL_val rfl rfl rfl (yd_move rfl) ?_
          refine VL_yes rfl rfl rfl rfl ?_
          refine VL_val rfl rfl rfl (yd_move rfl) ?_
          refine VL_yes rfl rfl rfl rfl ?_
          refine VL_val rfl rfl rfl (yd_eqlp rfl rfl Try.underlying76 T.sz85 (by decide) hci hcl) ?_
          refine VL_val rfl rfl rfl (yd_pick_f rfl rfl) ?_
          refine VL_nil ?_
          refine VE_then ?_
          refine VC_cond rfl (fun h117 => ?_) (fun h117 => ?_)
          · replace h117 := of_decide_eq_true h117
            have hIL1 := hIL.stay hLL (.inr (lA_inj (hS.get 0 rfl) him hlm (by rw [← hia, ← hla]; exact h117)))
            refine VC_exit ?_
            refine VE_then_exit (VE_block_exit ?_)
            refine VE_then ?_
            refine VC_region ?_
            refine VL_val rfl rfl rfl (yd_add rfl rfl ((j + 1 : Nat) : Int) (by rw [wi64 (by omega) (by omega)]; omega)) ?_
            refine VL_val rfl rfl rfl (yd_move rfl) ?_
            refine VL_nil ?_
            first
            | exact VE_round9 (j + 1) hs lb s B lv irr i ia ⟨rfl, rfl, rfl, rfl, rfl, rfl, rfl, rfl, rfl, rfl, rfl, rfl, rfl, rfl, rfl, rfl, rfl, rfl, rfl, rfl, rfl, rfl, trivial⟩ ⟨by omega, hLS, hIL1, hir, hlvn, hia, hS⟩ (by omega)
            | exact VE_round9 (j + 1) hs lb s B lv irr (some si) ia ⟨rfl, rfl, rfl, rfl, rfl, rfl, rfl, rfl, rfl, rfl, rfl, rfl, rfl, rfl, rfl, rfl, rfl, rfl, rfl, rfl, rfl, rfl, trivial⟩ ⟨by omega, hLS, hIL1, hir, hlvn, hia, hS⟩ (by omega)
            | exact VE_round9 (j + 1) hs lb s B lv irr (some lo) la ⟨rfl, rfl, rfl, rfl, rfl, rfl, rfl, rfl, rfl, rfl, rfl, rfl, rfl, rfl, rfl, rfl, rfl, rfl, rfl, rfl, rfl, rfl, trivial⟩ ⟨by omega, hLS, hIL2, hir, hlvn, hla, hS⟩ (by omega)
            | exact VE_round9 (j + 1) hs lb s1 B lv irr (some lo) la ⟨rfl, rfl, rfl, rfl, rfl, rfl, rfl, rfl, rfl, rfl, rfl, rfl, rfl, rfl, rfl, rfl, rfl, rfl, rfl, rfl, rfl, rfl, trivial⟩ ⟨by omega, hLS1, hIL3, hir, hlvn, hla, hS⟩ (by omega)
            | exact VE_round9 (j + 1) hs lb s1 B lv irr (some si) ia ⟨rfl, rfl, rfl, rfl, rfl, rfl, rfl, rfl, rfl, rfl, rfl, rfl, rfl, rfl, rfl, rfl, rfl, rfl, rfl, rfl, rfl, rfl, trivial⟩ ⟨by omega, hLS1, hIL4, hir, hlvn, hia, hS⟩ (by omega)
          · replace h117 := of_decide_eq_false h117
            refine VC_skip ?_
            refine VE_then ?_
            refine VC_seq ?_
            refine VC_seq ?_
            refine VC_region ?_
            refine VL_val rfl rfl rfl (yd_move rfl) ?_
            refine VL_val rfl rfl rfl (yd_eqlp rfl rfl Try.underlying76 T.sz85 (by decide) hci isC_none) ?_
            refine VL_nil ?_
            refine VE_then ?_
            refine VC_cond rfl (fun h119 => ?_) (fun h119 => ?_)
            · replace h119 := of_decide_eq_true h119
              have hin : i = none := lA_none (by rw [← hia]; exact h119)
              subst hin
              have hIL2 := hIL.first hLL
              refine VC_seq ?_
              refine VC_region ?_
              refine VL_val rfl rfl rfl (yd_move rfl) ?_
              refine VL_val rfl rfl rfl (yd_assign rfl) ?_
              refine VL_nil ?_
              refine VE_then ?_
              refine VC_exit ?_
              refine VE_then_exit (VE_block_exit ?_)
              refine VE_then ?_
              refine VC_region ?_
              refine VL_val rfl rfl rfl (yd_add rfl rfl ((j + 1 : Nat) : Int) (by rw [wi64 (by omega) (by omega)]; omega)) ?_
              refine VL_val rfl rfl rfl (yd_move rfl) ?_
              refine VL_nil ?_
              first
              | exact VE_round9 (j + 1) hs lb s B lv irr i ia ⟨rfl, rfl, rfl, rfl, rfl, rfl, rfl, rfl, rfl, rfl, rfl, rfl, rfl, rfl, rfl, rfl, rfl, rfl, rfl, rfl, rfl, rfl, trivial⟩ ⟨by omega, hLS, hIL1, hir, hlvn, hia, hS⟩ (by omega)
              | exact VE_round9 (j + 1) hs lb s B lv irr (some si) ia ⟨rfl, rfl, rfl, rfl, rfl, rfl, rfl, rfl, rfl, rfl, rfl, rfl, rfl, rfl, rfl, rfl, rfl, rfl, rfl, rfl, rfl, rfl, trivial⟩ ⟨by omega, hLS, hIL1, hir, hlvn, hia, hS⟩ (by omega)
              | exact VE_round9 (j + 1) hs lb s B lv irr (some lo) la ⟨rfl, rfl, rfl, rfl, rfl, rfl, rfl, rfl, rfl, rfl, rfl, rfl, rfl, rfl, rfl, rfl, rfl, rfl, rfl, rfl, rfl, rfl, trivial⟩ ⟨by omega, hLS, hIL2, hir, hlvn, hla, hS⟩ (by omega)
              | exact VE_round9 (j + 1) hs lb s1 B lv irr (some lo) la ⟨rfl, rfl, rfl, rfl, rfl, rfl, rfl, rfl, rfl, rfl, rfl, rfl, rfl, rfl, rfl, rfl, rfl, rfl, rfl, rfl, rfl, rfl, trivial⟩ ⟨by omega, hLS1, hIL3, hir, hlvn, hla, hS⟩ (by omega)
              | exact VE_round9 (j + 1) hs lb s1 B lv irr (some si) ia ⟨rfl, rfl, rfl, rfl, rfl, rfl, rfl, rfl, rfl, rfl, rfl, rfl, rfl, rfl, rfl, rfl, rfl, rfl, rfl, rfl, rfl, rfl, trivial⟩ ⟨by omega, hLS1, hIL4, hir, hlvn, hia, hS⟩ (by omega)
            · replace h119 := of_decide_eq_false h119
              obtain ⟨si, hsi⟩ : ∃ si, i = some si := Option.ne_none_iff_exists'.1 (fun e => h119 (by rw [hia, e]; rfl))
              subst hsi
              have hsim := him si rfl
              have hia2 : ia = some ⟨lb si, 0, none⟩ := hia
              have hla2 : la = some ⟨lb lo, 0, none⟩ := hla
              have hne : si ≠ lo := fun e => h117 (by rw [hia, hla, e])
              refine VC_skip ?_
              refine VE_then ?_
              refine VC_seq ?_
              refine VC_draw T.mixed hS ?_
              clear hS; intro w hS
              refine VA_take (i := 0) rfl rfl rfl rfl (by kernel_rfl) (by kernel_rfl) (by kernel_rfl) #[true, false, false, false, false, false, false, false, false, false] (by kernel_rfl) (fun _ _ _ _ h => h) (fun w hS => yd_move rfl) ?_
              refine VA_take (i := 1) rfl rfl rfl rfl (by kernel_rfl) (by kernel_rfl) (by kernel_rfl) #[true, true, false, false, false, false, false, false, false, false] (by kernel_rfl) (fun _ _ _ _ h => h) (fun w hS => yd_move rfl) ?_
              refine VA_take (i := 2) rfl rfl rfl rfl (by kernel_rfl) (by kernel_rfl) (by kernel_rfl) #[true, true, true, false, false, false, false, false, false, false] (by kernel_rfl) (fun _ _ _ _ h => h) (fun w hS => yd_nilcO rfl hia2) ?_
              refine VA_take (i := 3) rfl rfl rfl rfl (by kernel_rfl) (by kernel_rfl) (by kernel_rfl) #[true, true, true, true, false, false, false, false, false, false] (by kernel_rfl) (fun _ _ _ _ h => h) (fun w hS => yd_field rfl T.fld85_0) ?_
              refine VA_take (i := 4) rfl rfl rfl rfl (by kernel_rfl) (by kernel_rfl) (by kernel_rfl) #[true, true, true, true, true, false, false, false, false, false] (by kernel_rfl) (fun _ _ _ _ h => h) (fun w hS => yd_load rfl T.one82 (blk_cell (loop_get (hS.get 0 rfl) hsim) rfl)) ?_
              refine VA_take (i := 5) rfl rfl rfl rfl (by kernel_rfl) (by kernel_rfl) (by kernel_rfl) #[true, true, true, true, true, true, false, false, false, false] (by kernel_rfl) (fun _ _ _ _ h => h) (fun w hS => yd_move rfl) ?_
              refine VA_take (i := 6) rfl rfl rfl rfl (by kernel_rfl) (by kernel_rfl) (by kernel_rfl) #[true, true, true, true, true, true, true, false, false, false] (by kernel_rfl) (fun _ _ _ _ h => h) (fun w hS => yd_nilcO rfl hla2) ?_
              refine VA_take (i := 7) rfl rfl rfl rfl (by kernel_rfl) (by kernel_rfl) (by kernel_rfl) #[true, true, true, true, true, true, true, true, false, false] (by kernel_rfl) (fun _ _ _ _ h => h) (fun w hS => yd_field rfl T.fld85_0) ?_
              refine VA_take (i := 8) rfl rfl rfl rfl (by kernel_rfl) (by kernel_rfl) (by kernel_rfl) #[true, true, true, true, true, true, true, true, true, false] (by kernel_rfl) (fun _ _ _ _ h => h) (fun w hS => yd_load rfl T.one82 (blk_cell (loop_get (hS.get 0 rfl) hlom) rfl)) ?_
              refine VA_only (i := 9) (by kernel_rfl) hS ?_
              refine VS_call rfl (wanted_none rfl) #[true, true, true, true, true, true, true, true, true, true] (by kernel_rfl) rfl rfl rfl T.call66 rfl (isAncestor_ok (hS.func hF) hg (hS.get 2 rfl) (hln si hsim) (hln lo hlom)) ?_
              rintro _ w ⟨c1, rfl, hc1, hR⟩
              have hS := hS.call0 hR
              rw [hTD.st si lo (hlv si hsim) (hlv lo hlom)] at hc1
              refine VA_done (by kernel_rfl) hS ?_
              refine VE_then ?_
              refine VC_cond rfl (fun h130 => ?_) (fun h130 => ?_)
              · skip
                have hc1 := hc1.1 h130
                refine VC_seq ?_
                refine VC_region ?_
                refine VL_val rfl rfl rfl (yd_move rfl) ?_
                refine VL_val rfl rfl rfl (yd_move rfl) ?_
                refine VL_val rfl rfl rfl (yd_move rfl) ?_
                refine VL_call rfl rfl rfl rfl T.call67 rfl (outerinner_ok hg (phi_ok hg) hLS.li.nd hlv hTD (loops_apart hS rfl rfl hF) lo _ s si _ _ (by rw [hia2]) (by rw [hla2]) (hS.func hF) (hS.get 2 rfl) (hS.get 0 rfl) hLS.li.oi hLS.ii hsim hlom (il_phi hg hIL hLL hne hc1.2)) ?_
                rintro _ w ⟨s1, hnb1, hdp1, hok1, hii1, hin1, -, hR⟩
                have hS := hS.call1 0 rfl hR
                have hLS1 := hLS.outer hnb1 hdp1 hok1 hii1 hin1
                have hIL3 := hIL.inner hLL hok1
                refine VL_nil ?_
                refine VE_then ?_
                refine VC_region ?_
                refine VL_val rfl rfl rfl (yd_move rfl) ?_
                refine VL_val rfl rfl rfl (yd_assign rfl) ?_
                refine VL_nil ?_
                refine VE_block_normal ?_
                refine VE_then ?_
                refine VC_region ?_
                refine VL_val rfl rfl rfl (yd_add rfl rfl ((j + 1 : Nat) : Int) (by rw [wi64 (by omega) (by omega)]; omega)) ?_
                refine VL_val rfl rfl rfl (yd_move rfl) ?_
                refine VL_nil ?_
                first
                | exact VE_round9 (j + 1) hs lb s B lv irr i ia ⟨rfl, rfl, rfl, rfl, rfl, rfl, rfl, rfl, rfl, rfl, rfl, rfl, rfl, rfl, rfl, rfl, rfl, rfl, rfl, rfl, rfl, rfl, trivial⟩ ⟨by omega, hLS, hIL1, hir, hlvn, hia, hS⟩ (by omega)
                | exact VE_round9 (j + 1) hs lb s B lv irr (some si) ia ⟨rfl, rfl, rfl, rfl, rfl, rfl, rfl, rfl, rfl, rfl, rfl, rfl, rfl, rfl, rfl, rfl, rfl, rfl, rfl, rfl, rfl, rfl, trivial⟩ ⟨by omega, hLS, hIL1, hir, hlvn, hia, hS⟩ (by omega)
                | exact VE_round9 (j + 1) hs lb s B lv irr (some lo) la ⟨rfl, rfl, rfl, rfl, rfl, rfl, rfl, rfl, rfl, rfl, rfl, rfl, rfl, rfl, rfl, rfl, rfl, rfl, rfl, rfl, rfl, rfl, trivial⟩ ⟨by omega, hLS, hIL2, hir, hlvn, hla, hS⟩ (by omega)
                | exact VE_round9 (j + 1) hs lb s1 B lv irr (some lo) la ⟨rfl, rfl, rfl, rfl, rfl, rfl, rfl, rfl, rfl, rfl, rfl, rfl, rfl, rfl, rfl, rfl, rfl, rfl, rfl, rfl, rfl, rfl, trivial⟩ ⟨by omega, hLS1, hIL3, hir, hlvn, hla, hS⟩ (by omega)
                | exact VE_round9 (j + 1) hs lb s1 B lv irr (some si) ia ⟨rfl, rfl, rfl, rfl, rfl, rfl, rfl, rfl, rfl, rfl, rfl, rfl, rfl, rfl, rfl, rfl, rfl, rfl, rfl, rfl, rfl, rfl, trivial⟩ ⟨by omega, hLS1, hIL4, hir, hlvn, hia, hS⟩ (by omega)
              · skip
                have hc1 : ¬ Dm G si lo := fun h2 => by have := hc1.2 ⟨hne, h2⟩; rw [h130] at this; cases this
                refine VC_seq ?_
                refine VC_draw T.mixed hS ?_
                clear hS; intro w hS
                refine VA_take (i := 0) rfl rfl rfl rfl (by kernel_rfl) (by kernel_rfl) (by kernel_rfl) #[true, false, false, false, false, false, false, false, false, false] (by kernel_rfl) (fun _ _ _ _ h => h) (fun w hS => yd_move rfl) ?_
                refine VA_take (i := 1) rfl rfl rfl rfl (by kernel_rfl) (by kernel_rfl) (by kernel_rfl) #[true, true, false, false, false, false, false, false, false, false] (by kernel_rfl) (fun _ _ _ _ h => h) (fun w hS => yd_move rfl) ?_
                refine VA_take (i := 2) rfl rfl rfl rfl (by kernel_rfl) (by kernel_rfl) (by kernel_rfl) #[true, true, true, false, false, false, false, false, false, false] (by kernel_rfl) (fun _ _ _ _ h => h) (fun w hS => yd_nilcO rfl hla2) ?_
                refine VA_take (i := 3) rfl rfl rfl rfl (by kernel_rfl) (by kernel_rfl) (by kernel_rfl) #[true, true, true, true, false, false, false, false, false, false] (by kernel_rfl) (fun _ _ _ _ h => h) (fun w hS => yd_field rfl T.fld85_0) ?_
                refine VA_take (i := 4) rfl rfl rfl rfl (by kernel_rfl) (by kernel_rfl) (by kernel_rfl) #[true, true, true, true, true, false, false, false, false, false] (by kernel_rfl) (fun _ _ _ _ h => h) (fun w hS => yd_load rfl T.one82 (blk_cell (loop_get (hS.get 0 rfl) hlom) rfl)) ?_
                refine VA_take (i := 5) rfl rfl rfl rfl (by kernel_rfl) (by kernel_rfl) (by kernel_rfl) #[true, true, true, true, true, true, false, false, false, false] (by kernel_rfl) (fun _ _ _ _ h => h) (fun w hS => yd_move rfl) ?_
                refine VA_take (i := 6) rfl rfl rfl rfl (by kernel_rfl) (by kernel_rfl) (by kernel_rfl) #[true, true, true, true, true, true, true, false, false, false] (by kernel_rfl) (fun _ _ _ _ h => h) (fun w hS => yd_nilcO rfl hia2) ?_
                refine VA_take (i := 7) rfl rfl rfl rfl (by kernel_rfl) (by kernel_rfl) (by kernel_rfl) #[true, true, true, true, true, true, true, true, false, false] (by kernel_rfl) (fun _ _ _ _ h => h) (fun w hS => yd_field rfl T.fld85_0) ?_
                refine VA_take (i := 8) rfl rfl rfl rfl (by kernel_rfl) (by kernel_rfl) (by kernel_rfl) #[true, true, true, true, true, true, true, true, true, false] (by kernel_rfl) (fun _ _ _ _ h => h) (fun w hS => yd_load rfl T.one82 (blk_cell (loop_get (hS.get 0 rfl) hsim) rfl)) ?_
                refine VA_only (i := 9) (by kernel_rfl) hS ?_
                refine VS_call rfl (wanted_none rfl) #[true, true, true, true, true, true, true, true, true, true] (by kernel_rfl) rfl rfl rfl T.call66 rfl (isAncestor_ok (hS.func hF) hg (hS.get 2 rfl) (hln lo hlom) (hln si hsim)) ?_
                rintro _ w ⟨c2, rfl, hc2, hR⟩
                have hS := hS.call0 hR
                rw [hTD.st lo si (hlv lo hlom) (hlv si hsim)] at hc2
                refine VA_done (by kernel_rfl) hS ?_
                refine VE_then ?_
                refine VC_cond rfl (fun h145 => ?_) (fun h145 => ?_)
                · skip
                  have hc2 := hc2.1 h145
                  refine VC_region ?_
                  refine VL_val rfl rfl rfl (yd_move rfl) ?_
                  refine VL_val rfl rfl rfl (yd_move rfl) ?_
                  refine VL_val rfl rfl rfl (yd_move rfl) ?_
                  refine VL_call rfl rfl rfl rfl T.call67 rfl (outerinner_ok hg (phi_ok hg) hLS.li.nd hlv hTD (loops_apart hS rfl rfl hF) si _ s lo _ _ (by rw [hla2]) (by rw [hia2]) (hS.func hF) (hS.get 2 rfl) (hS.get 0 rfl) hLS.li.oi hLS.ii hlom hsim (il_phi' hg hIL hLL hc2.1 hc2.2)) ?_
                  rintro _ w ⟨s1, hnb1, hdp1, hok1, hii1, hin1, -, hR⟩
                  have hS := hS.call1 0 rfl hR
                  have hLS1 := hLS.outer hnb1 hdp1 hok1 hii1 hin1
                  have hIL4 := hIL.outer hLL hok1
                  refine VL_nil ?_
                  refine VE_block_normal ?_
                  refine VE_then ?_
                  refine VC_region ?_
                  refine VL_val rfl rfl rfl (yd_add rfl rfl ((j + 1 : Nat) : Int) (by rw [wi64 (by omega) (by omega)]; omega)) ?_
                  refine VL_val rfl rfl rfl (yd_move rfl) ?_
                  refine VL_nil ?_
                  first
                  | exact VE_round9 (j + 1) hs lb s B lv irr i ia ⟨rfl, rfl, rfl, rfl, rfl, rfl, rfl, rfl, rfl, rfl, rfl, rfl, rfl, rfl, rfl, rfl, rfl, rfl, rfl, rfl, rfl, rfl, trivial⟩ ⟨by omega, hLS, hIL1, hir, hlvn, hia, hS⟩ (by omega)
                  | exact VE_round9 (j + 1) hs lb s B lv irr (some si) ia ⟨rfl, rfl, rfl, rfl, rfl, rfl, rfl, rfl, rfl, rfl, rfl, rfl, rfl, rfl, rfl, rfl, rfl, rfl, rfl, rfl, rfl, rfl, trivial⟩ ⟨by omega, hLS, hIL1, hir, hlvn, hia, hS⟩ (by omega)
                  | exact VE_round9 (j + 1) hs lb s B lv irr (some lo) la ⟨rfl, rfl, rfl, rfl, rfl, rfl, rfl, rfl, rfl, rfl, rfl, rfl, rfl, rfl, rfl, rfl, rfl, rfl, rfl, rfl, rfl, rfl, trivial⟩ ⟨by omega, hLS, hIL2, hir, hlvn, hla, hS⟩ (by omega)
                  | exact VE_round9 (j + 1) hs lb s1 B lv irr (some lo) la ⟨rfl, rfl, rfl, rfl, rfl, rfl, rfl, rfl, rfl, rfl, rfl, rfl, rfl, rfl, rfl, rfl, rfl, rfl, rfl, rfl, rfl, rfl, trivial⟩ ⟨by omega, hLS1, hIL3, hir, hlvn, hla, hS⟩ (by omega)
                  | exact VE_round9 (j + 1) hs lb s1 B lv irr (some si) ia ⟨rfl, rfl, rfl, rfl, rfl, rfl, rfl, rfl, rfl, rfl, rfl, rfl, rfl, rfl, rfl, rfl, rfl, rfl, rfl, rfl, rfl, rfl, trivial⟩ ⟨by omega, hLS1, hIL4, hir, hlvn, hia, hS⟩ (by omega)
                · skip
                  have hc2 : ¬ Dm G lo si := fun h2 => by have := hc2.2 ⟨fun e => hne e.symm, h2⟩; rw [h145] at this; cases this
                  have hIL1 := hIL.apart hLL hne hc1 hc2
                  refine VC_skip ?_
                  refine VE_block_normal ?_
                  refine VE_then ?_
                  refine VC_region ?_
                  refine VL_val rfl rfl rfl (yd_add rfl rfl ((j + 1 : Nat) : Int) (by rw [wi64 (by omega) (by omega)]; omega)) ?_
                  refine VL_val rfl rfl rfl (yd_move rfl) ?_
                  refine VL_nil ?_
                  first
                  | exact VE_round9 (j + 1) hs lb s B lv irr i ia ⟨rfl, rfl, rfl, rfl, rfl, rfl, rfl, rfl, rfl, rfl, rfl, rfl, rfl, rfl, rfl, rfl, rfl, rfl, rfl, rfl, rfl, rfl, trivial⟩ ⟨by omega, hLS, hIL1, hir, hlvn, hia, hS⟩ (by omega)
                  | exact VE_round9 (j + 1) hs lb s B lv irr (some si) ia ⟨rfl, rfl, rfl, rfl, rfl, rfl, rfl, rfl, rfl, rfl, rfl, rfl, rfl, rfl, rfl, rfl, rfl, rfl, rfl, rfl, rfl, rfl, trivial⟩ ⟨by omega, hLS, hIL1, hir, hlvn, hia, hS⟩ (by omega)
                  | exact VE_round9 (j + 1) hs lb s B lv irr (some lo) la ⟨rfl, rfl, rfl, rfl, rfl, rfl, rfl, rfl, rfl, rfl, rfl, rfl, rfl, rfl, rfl, rfl, rfl, rfl, rfl, rfl, rfl, rfl, trivial⟩ ⟨by omega, hLS, hIL2, hir, hlvn, hla, hS⟩ (by omega)
                  | exact VE_round9 (j + 1) hs lb s1 B lv irr (some lo) la ⟨rfl, rfl, rfl, rfl, rfl, rfl, rfl, rfl, rfl, rfl, rfl, rfl, rfl, rfl, rfl, rfl, rfl, rfl, rfl, rfl, rfl, rfl, trivial⟩ ⟨by omega, hLS1, hIL3, hir, hlvn, hla, hS⟩ (by omega)
                  | exact VE_round9 (j + 1) hs lb s1 B lv irr (some si) ia ⟨rfl, rfl, rfl, rfl, rfl, rfl, rfl, rfl, rfl, rfl, rfl, rfl, rfl, rfl, rfl, rfl, rfl, rfl, rfl, rfl, rfl, rfl, trivial⟩ ⟨by omega, hLS1, hIL4, hir, hlvn, hia, hS⟩ (by omega)
    · replace h57 := Int.not_lt.1 (of_decide_eq_false h57)
      refine VC_exit ?_
      refine VE_then_exit (VE_then_exit (VE_block_exit ?_))
      refine VE_then ?_
      refine VC_seq ?_
      refine VC_seq ?_
      refine VC_region ?_
      obtain rfl : j = G[b]!.length := by omega
      subst hia
      have hir1 := hir.done hbm hbk
      have hnbl := hLS.nbl
      have hpl13 := postL_le hg
      refine VL_val rfl rfl rfl (yd_move rfl) ?_
      refine VL_val rfl rfl rfl (yd_neqp rfl rfl Try.underlying76 T.sz85 (by decide) (isC_lA (hS.get 0 rfl) (fun h e => (hIL.im h e).1)) isC_none) ?_
      refine VL_nil ?_
      refine VE_then ?_
      refine VC_cond rfl (fun h152 => ?_) (fun h152 => ?_)
      · replace h152 := of_decide_eq_true h152
        obtain ⟨si, hsi⟩ : ∃ si, i = some si := Option.ne_none_iff_exists'.1 (fun e => h152 (by rw [e]; rfl))
        subst hsi
        have hsim := (hIL.im si rfl).1
        have hLS1 := hLS.done hg hbm hbk hIL
        have hnbs := hnbl si
        refine VC_seq ?_
        refine VC_region ?_
        refine VL_val rfl rfl rfl (yd_move rfl) ?_
        refine VL_val rfl rfl rfl (yd_move rfl) ?_
        refine VL_val rfl rfl rfl (yd_nilc rfl) ?_
        refine VL_val rfl rfl rfl (yd_field rfl T.fld93_0) ?_
        refine VL_val rfl rfl rfl (yd_load rfl T.one90 (hS.cell0 (hA.id b hbl))) ?_
        refine VL_val rfl rfl rfl (yd_move rfl) ?_
        refine VL_val rfl rfl rfl (yd_index0 rfl rfl Try.underlying77 T.sz76 (by omega)) ?_
        refine VL_store (v := .pointer (lA lb (some si))) rfl rfl rfl rfl rfl T.one76 rfl hS 3 rfl (by rw [b2_len]; omega) ?_
        clear hS; intro w hS
        rw [b2_set] at hS
        refine VL_nil ?_
        refine VE_then ?_
        refine VC_region ?_
        refine VL_val rfl rfl rfl (yd_move rfl) ?_
        refine VL_val rfl rfl rfl (yd_nilcO rfl (lA_some rfl)) ?_
        refine VL_val rfl rfl rfl (yd_field rfl T.fld85_2) ?_
        refine VL_val rfl rfl rfl (yd_load rfl T.one21 (blk_cell (loop_get (hS.get 0 rfl) hsim) rfl)) ?_
        refine VL_val rfl rfl rfl (yd_add rfl rfl ((s.nb si + 1 : Nat) : Int) (by rw [wi32 (by omega) (by omega)]; omega)) ?_
        refine VL_val rfl rfl rfl (yd_nilcO rfl (lA_some rfl)) ?_
        refine VL_val rfl rfl rfl (yd_field rfl T.fld85_2) ?_
        refine VL_storeL { s with nb := upd s.nb si (s.nb si + 1) } rfl rfl rfl rfl rfl T.one21 rfl hS 0 rfl hLS.li.nd hsim (by omega) lcs_nb (fun x e => lcs_nb' e) ?_
        clear hS; intro w hS
        refine VL_nil ?_
        refine VE_then ?_
        refine VC_region ?_
        refine VL_val rfl rfl rfl (yd_move rfl) ?_
        refine VL_val rfl rfl rfl (yd_move rfl) ?_
        refine VL_val rfl rfl rfl (yd_nilc rfl) ?_
        refine VL_val rfl rfl rfl (yd_field rfl T.fld93_0) ?_
        refine VL_val rfl rfl rfl (yd_load rfl T.one90 (hS.cell0 (hA.id b hbl))) ?_
        refine VL_val rfl rfl rfl (yd_index0 rfl rfl Try.underlying25 T.sz4 (by omega)) ?_
        refine VL_storeM rfl rfl rfl rfl rfl T.one4 rfl hS 5 rfl (by omega) rfl ?_
        clear hS; intro w hS
        refine VL_nil ?_
        have hvis1 := hvis.set hg hbm hbk
        refine VE_block_normal ?_
        refine VE_then ?_
        refine VC_region ?_
        refine VL_val rfl rfl rfl (yd_add rfl rfl ((k + 1 : Nat) : Int) (by rw [wi64 (by omega) (by omega)]; omega)) ?_
        refine VL_val rfl rfl rfl (yd_move rfl) ?_
        refine VL_nil ?_
        first
        | exact VE_round8 (k + 1) hs lb { s with nb := upd s.nb si (s.nb si + 1) } (bset B b si) _ lv irr ⟨rfl, rfl, rfl, rfl, rfl, rfl, rfl, rfl, rfl, rfl, rfl, trivial⟩ ⟨by omega, hLS1, hvis1, hir1, hlvn, hS⟩ (by omega)
        | exact VE_round8 (k + 1) hs lb s B _ lv irr ⟨rfl, rfl, rfl, rfl, rfl, rfl, rfl, rfl, rfl, rfl, rfl, trivial⟩ ⟨by omega, hLS2, hvis1, hir1, hlvn, hS⟩ (by omega)
      · replace h152 := Decidable.not_not.1 (of_decide_eq_false h152)
        have hin : i = none := lA_none h152
        subst hin
        have hLS2 := hLS.done0 hg hbm hbk hIL
        refine VC_skip ?_
        refine VE_then ?_
        refine VC_region ?_
        refine VL_val rfl rfl rfl (yd_move rfl) ?_
        refine VL_val rfl rfl rfl (yd_move rfl) ?_
        refine VL_val rfl rfl rfl (yd_nilc rfl) ?_
        refine VL_val rfl rfl rfl (yd_field rfl T.fld93_0) ?_
        refine VL_val rfl rfl rfl (yd_load rfl T.one90 (hS.cell0 (hA.id b hbl))) ?_
        refine VL_val rfl rfl rfl (yd_index0 rfl rfl Try.underlying25 T.sz4 (by omega)) ?_
        refine VL_storeM rfl rfl rfl rfl rfl T.one4 rfl hS 5 rfl (by omega) rfl ?_
        clear hS; intro w hS
        refine VL_nil ?_
        have hvis1 := hvis.set hg hbm hbk
        refine VE_block_normal ?_
        refine VE_then ?_
        refine VC_region ?_
        refine VL_val rfl rfl rfl (yd_add rfl rfl ((k + 1 : Nat) : Int) (by rw [wi64 (by omega) (by omega)]; omega)) ?_
        refine VL_val rfl rfl rfl (yd_move rfl) ?_
        refine VL_nil ?_
        first
        | exact VE_round8 (k + 1) hs lb { s with nb := upd s.nb si (s.nb si + 1) } (bset B b si) _ lv irr ⟨rfl, rfl, rfl, rfl, rfl, rfl, rfl, rfl, rfl, rfl, rfl, trivial⟩ ⟨by omega, hLS1, hvis1, hir1, hlvn, hS⟩ (by omega)
        | exact VE_round8 (k + 1) hs lb s B _ lv irr ⟨rfl, rfl, rfl, rfl, rfl, rfl, rfl, rfl, rfl, rfl, rfl, trivial⟩ ⟨by omega, hLS2, hvis1, hir1, hlvn, hS⟩ (by omega)
  · replace h48 := Int.not_lt.1 (of_decide_eq_false h48)
    refine VC_exit ?_
    refine VE_then_exit (VE_then_exit (VE_block_exit ?_))
    refine VE_then ?_
    refine VC_seq ?_
    refine VC_seq ?_
    refine VC_region ?_
    obtain rfl : k = (postL G).length := by omega
    obtain ⟨lvb, lvc, rfl, -⟩ := row_form (hS.get 4 rfl) (.inl hlvn)
    have hlv : ∀ h ∈ hs, Rc G 0 h := hLS.li.live
    have hln : ∀ h ∈ hs, h < G.length := fun h hh => Rch.lt hg hg.pos (hlv h hh)
    have hhl : hs.length ≤ 13 := Nat.le_trans (nodup_len _ hLS.li.nd hln) hg.le
    have hOm : ∀ a p, s.O a = some p → p ∈ hs := fun a p e => (hLS.li.oi.ok a p e).2.1
    have hrk := hLS.li.oi.rank hg (phi_ok hg)
    have hcle : ∀ h, clv s.O G.length h ≤ 13 := fun h => Nat.le_trans clv_le hg.le
    refine VL_val rfl rfl rfl (yd_move rfl) ?_
    refine VL_val rfl rfl rfl (yd_len rfl Try.underlying77) ?_
    refine VL_val rfl rfl rfl (yd_move rfl) ?_
    refine VL_nil ?_
    refine VE_then ?_
    refine VC_block ?_
    refine VC_loop2 [0, 2, 3, 4, 5, 6, 8, 174, 175] [_, _, _, _, _, _, _, _, _] rfl (fun (m : Nat) (dp : Nat → Nat) => [(176, .int .i64 ((m : Nat) : Int))]) (fun (m : Nat) (dp : Nat → Nat) w => m ≤ hs.length ∧ (∀ h, dp h = 0 ∨ dp h = clv s.O G.length h) ∧ (∀ q, q < m → dp hs[q]! ≠ 0) ∧ St w0 M0 [loopsR f hs lb { s with dp := dp }, row (.slice (some ⟨bo, 0, none⟩) (postL G).length co) 82 1 (postL G).length (ordV f (postL G)), blk tb 98 (tcells f G.length t), blk b31 76 (b2c G.length lb B), row (.slice (some ⟨lvb, 0, none⟩) hs.length lvc) 76 1 hs.length (hs.map fun h => ptr (lb h)), blk bv 4 (vl.map Value.bool)] w) (fun (m : Nat) (dp : Nat → Nat) => hs.length - m) 0 s.dp ⟨rfl, trivial⟩ (⟨Nat.zero_le _, fun h => .inl (hLS.dp h), fun q h => absurd h (Nat.not_lt_zero _), hS⟩) ?_
    clear hS; rintro m dp w ⟨hm, hdi, hdn, hS⟩
    refine VC_seq ?_
    refine VC_region ?_
    refine VL_val rfl rfl rfl (yd_lss rfl rfl) ?_
    refine VL_nil ?_
    refine VE_then ?_
    refine VC_seq ?_
    refine VC_cond rfl (fun h177 => ?_) (fun h177 => ?_)
    · replace h177 := of_decide_eq_true h177
      refine VC_skip ?_
      refine VE_then ?_
      refine VC_seq ?_
      refine VC_block ?_
      refine VC_seq ?_
      refine VC_region ?_
      have hml : m < hs.length := by omega
      obtain ⟨h, hh⟩ : ∃ h, h = hs[m]! := ⟨_, rfl⟩
      have hhm : h ∈ hs := by rw [hh, getElem!_pos hs m hml]; exact List.getElem_mem _
      have hcp := clv_pos (O := s.O) (hln h hhm)
      have hch := hcle h
      refine VL_val rfl rfl rfl (yd_index0 rfl rfl Try.underlying77 T.sz76 (by omega)) ?_
      refine VL_val rfl rfl rfl (yd_load rfl T.one76 (show _ = some (ptr (lb h)) by rw [hh]; exact lrow_cell (hS.get 4 rfl) hml)) ?_
      refine VL_val rfl rfl rfl (yd_assign rfl) ?_
      refine VL_nil ?_
      refine VE_then ?_
      refine VC_seq ?_
      refine VC_seq ?_
      refine VC_region ?_
      refine VL_val rfl rfl rfl (yd_move rfl) ?_
      refine VL_val rfl rfl rfl (yd_nilc rfl) ?_
      refine VL_val rfl rfl rfl (yd_field rfl T.fld85_3) ?_
      refine VL_val rfl rfl rfl (yd_load rfl T.one83 (blk_cell (loop_get (hS.get 0 rfl) hhm) rfl)) ?_
      refine VL_val rfl rfl rfl (yd_neq rfl rfl) ?_
      refine VL_nil ?_
      refine VE_then ?_
      refine VC_cond rfl (fun h184 => ?_) (fun h184 => ?_)
      · replace h184 := of_decide_eq_true h184
        have h184 : ((dp h : Nat) : Int) ≠ 0 := h184
        have hdn1 : ∀ q, q < m + 1 → dp hs[q]! ≠ 0 := all_succ hdn (by rw [← hh]; omega)
        refine VC_exit ?_
        refine VE_then_exit (VE_block_exit ?_)
        refine VE_then ?_
        refine VC_region ?_
        refine VL_val rfl rfl rfl (yd_add rfl rfl ((m + 1 : Nat) : Int) (by rw [wi64 (by omega) (by omega)]; omega)) ?_
        refine VL_val rfl rfl rfl (yd_move rfl) ?_
        refine VL_nil ?_
        exact VE_round2 (m + 1) dp ⟨rfl, rfl, rfl, rfl, rfl, rfl, rfl, rfl, rfl, rfl, trivial⟩ ⟨by omega, hdi, hdn1, hS⟩ (by omega)
      · replace h184 := Decidable.not_not.1 (of_decide_eq_false h184)
        have h184 : ((dp h : Nat) : Int) = 0 := h184
        have hdh : dp h = 0 := by omega
        refine VC_skip ?_
        refine VE_then ?_
        refine VC_seq ?_
        refine VC_region ?_
        refine VL_val rfl rfl rfl (yd_assign rfl) ?_
        refine VL_nil ?_
        refine VE_then ?_
        refine VC_seq ?_
        refine VC_seq ?_
        refine VC_region ?_
        refine VL_val rfl rfl rfl (yd_move rfl) ?_
        refine VL_val rfl rfl rfl (yd_assign rfl) ?_
        refine VL_nil ?_
        refine VE_then ?_
        refine VC_block ?_
        refine VC_loop2 [0, 2, 3, 4, 5, 6, 8, 17, 174, 175, 176, 177, 178, 179, 180, 181, 182, 183, 184, 185] [_, _, _, _, _, _, _, _, _, _, _, _, _, _, _, _, _, _, _, _] rfl (fun (x : Option Nat) (d : Nat) => [(19, .pointer (lA lb x)), (18, .int .i16 ((d : Nat) : Int))]) (fun (x : Option Nat) (d : Nat) w => (x = none → d = clv s.O G.length h) ∧ (∀ a, x = some a → a ∈ hs ∧ d + clv s.O G.length a = clv s.O G.length h) ∧ St w0 M0 [loopsR f hs lb { s with dp := dp }, row (.slice (some ⟨bo, 0, none⟩) (postL G).length co) 82 1 (postL G).length (ordV f (postL G)), blk tb 98 (tcells f G.length t), blk b31 76 (b2c G.length lb B), row (.slice (some ⟨lvb, 0, none⟩) hs.length lvc) 76 1 hs.length (hs.map fun h => ptr (lb h)), blk bv 4 (vl.map Value.bool)] w) (fun (x : Option Nat) (d : Nat) => ork G x) (some h) 0 ⟨rfl, rfl, trivial⟩ (⟨fun e => (by cases e), fun a e => by cases e; exact ⟨hhm, Nat.zero_add _⟩, hS⟩) ?_
        clear hS; rintro x d w ⟨hx0, hx1, hS⟩
        refine VC_seq ?_
        refine VC_seq ?_
        refine VC_region ?_
        refine VL_val rfl rfl rfl (yd_move rfl) ?_
        refine VL_val rfl rfl rfl (yd_neqp rfl rfl Try.underlying76 T.sz85 (by decide) (isC_lA (hS.get 0 rfl) (fun a e => (hx1 a e).1)) isC_none) ?_
        refine VL_nil ?_
        refine VE_then ?_
        refine VC_cond rfl (fun h187 => ?_) (fun h187 => ?_)
        · replace h187 := of_decide_eq_true h187
          obtain ⟨a, ha⟩ : ∃ a, x = some a := Option.ne_none_iff_exists'.1 (fun e => h187 (by rw [e]; rfl))
          obtain ⟨ham, hda⟩ := hx1 a ha
          have hca := clv_pos (O := s.O) (hln a ham)
          refine VC_skip ?_
          refine VE_then ?_
          refine VC_seq ?_
          refine VC_block ?_
          refine VC_seq ?_
          refine VC_seq ?_
          refine VC_region ?_
          refine VL_val rfl rfl rfl (yd_move rfl) ?_
          refine VL_val rfl rfl rfl (yd_nilcO rfl (lA_some ha)) ?_
          refine VL_val rfl rfl rfl (yd_field rfl T.fld85_3) ?_
          refine VL_val rfl rfl rfl (yd_load rfl T.one83 (blk_cell (loop_get (hS.get 0 rfl) ham) rfl)) ?_
          refine VL_val rfl rfl rfl (yd_neq rfl rfl) ?_
          refine VL_nil ?_
          refine VE_then ?_
          refine VC_cond rfl (fun h196 => ?_) (fun h196 => ?_)
          · replace h196 := of_decide_eq_true h196
            have h196 : ((dp a : Nat) : Int) ≠ 0 := h196
            have hdpa : dp a = clv s.O G.length a := by
              rcases hdi a with h1 | h1
              · omega
              · exact h1
            refine VC_seq ?_
            refine VC_region ?_
            refine VL_val rfl rfl rfl (yd_move rfl) ?_
            refine VL_val rfl rfl rfl (yd_move rfl) ?_
            refine VL_val rfl rfl rfl (yd_nilcO rfl (lA_some ha)) ?_
            refine VL_val rfl rfl rfl (yd_field rfl T.fld85_3) ?_
            refine VL_val rfl rfl rfl (yd_load rfl T.one83 (blk_cell (loop_get (hS.get 0 rfl) ham) rfl)) ?_
            refine VL_val rfl rfl rfl (yd_add rfl rfl ((clv s.O G.length h : Nat) : Int) (by show IntKind.i16.wrap (((d : Nat) : Int) + ((dp a : Nat) : Int)) = _; rw [wi16 (by omega) (by omega)]; omega)) ?_
            refine VL_val rfl rfl rfl (yd_assign rfl) ?_
            refine VL_nil ?_
            refine VE_then ?_
            refine VC_exit ?_
            refine VE_then_exit (VE_block_past rfl (VE_then_exit (VE_then_exit (VE_block_exit ?_))))
            refine VE_then ?_
            refine VC_seq ?_
            refine VC_region ?_
            refine VL_val rfl rfl rfl (yd_move rfl) ?_
            refine VL_val rfl rfl rfl (yd_assign rfl) ?_
            refine VL_nil ?_
            refine VE_then ?_
            refine VC_block ?_
            refine VC_loop3 [0, 2, 3, 4, 5, 6, 8, 17, 19, 174, 175, 176, 177, 178, 179, 180, 181, 182, 183, 184, 185, 186, 187, 192, 193, 194, 195, 196, 197, 198, 199, 200, 201, 202, 205] [_, _, _, _, _, _, _, _, _, _, _, _, _, _, _, _, _, _, _, _, _, _, _, _, _, _, _, _, _, _, _, _, _, _, _] rfl (fun (x : Option Nat) (d : Nat) (dp : Nat → Nat) => [(20, .pointer (lA lb x)), (18, .int .i16 ((d : Nat) : Int))]) (fun (x : Option Nat) (d : Nat) (dp : Nat → Nat) w => (∀ a, x = some a → a ∈ hs ∧ d = clv s.O G.length a) ∧ (∀ h, dp h = 0 ∨ dp h = clv s.O G.length h) ∧ (∀ q, q < m → dp hs[q]! ≠ 0) ∧ (dp h ≠ 0 ∨ x = some h) ∧ St w0 M0 [loopsR f hs lb { s with dp := dp }, row (.slice (some ⟨bo, 0, none⟩) (postL G).length co) 82 1 (postL G).length (ordV f (postL G)), blk tb 98 (tcells f G.length t), blk b31 76 (b2c G.length lb B), row (.slice (some ⟨lvb, 0, none⟩) hs.length lvc) 76 1 hs.length (hs.map fun h => ptr (lb h)), blk bv 4 (vl.map Value.bool)] w) (fun (x : Option Nat) (d : Nat) (dp : Nat → Nat) => ork G x) (some h) (clv s.O G.length h) dp ⟨rfl, rfl, trivial⟩ (⟨fun a e => by cases e; exact ⟨hhm, rfl⟩, hdi, hdn, .inr rfl, hS⟩) ?_
            clear hS hdn hdi hdh; rintro x d dp w ⟨hx1, hdi, hdn, hdx, hS⟩
            refine VC_seq ?_
            refine VC_seq ?_
            refine VC_region ?_
            refine VL_val rfl rfl rfl (yd_move rfl) ?_
            refine VL_val rfl rfl rfl (yd_neqp rfl rfl Try.underlying76 T.sz85 (by decide) (isC_lA (hS.get 0 rfl) (fun a e => (hx1 a e).1)) isC_none) ?_
            refine VL_nil ?_
            refine VE_then ?_
            refine VC_cond rfl (fun h207 => ?_) (fun h207 => ?_)
            · replace h207 := of_decide_eq_true h207
              obtain ⟨a, ha⟩ : ∃ a, x = some a := Option.ne_none_iff_exists'.1 (fun e => h207 (by rw [e]; rfl))
              obtain ⟨ham, hda⟩ := hx1 a ha
              have hca := clv_pos (O := s.O) (hln a ham)
              have hca2 := hcle a
              refine VC_skip ?_
              refine VE_then ?_
              refine VC_seq ?_
              refine VC_block ?_
              refine VC_seq ?_
              refine VC_seq ?_
              refine VC_region ?_
              refine VL_val rfl rfl rfl (yd_move rfl) ?_
              refine VL_val rfl rfl rfl (yd_nilcO rfl (lA_some ha)) ?_
              refine VL_val rfl rfl rfl (yd_field rfl T.fld85_3) ?_
              refine VL_val rfl rfl rfl (yd_load rfl T.one83 (blk_cell (loop_get (hS.get 0 rfl) ham) rfl)) ?_
              refine VL_val rfl rfl rfl (yd_neq rfl rfl) ?_
              refine VL_nil ?_
              refine VE_then ?_
              refine VC_cond rfl (fun h216 => ?_) (fun h216 => ?_)
              · replace h216 := of_decide_eq_true h216
                have h216 : ((dp a : Nat) : Int) ≠ 0 := h216
                have hdn1 : ∀ q, q < m + 1 → dp hs[q]! ≠ 0 := all_succ hdn (by
                  rw [← hh]
                  rcases hdx with h1 | h1
                  · exact h1
                  · rw [ha] at h1; cases h1; omega)
                refine VC_exit ?_
                refine VE_then_exit (VE_block_past rfl (VE_then_exit (VE_then_exit (VE_block_exit ?_))))
                refine VE_block_normal ?_
                refine VE_then ?_
                refine VC_region ?_
                refine VL_val rfl rfl rfl (yd_add rfl rfl ((m + 1 : Nat) : Int) (by rw [wi64 (by omega) (by omega)]; omega)) ?_
                refine VL_val rfl rfl rfl (yd_move rfl) ?_
                refine VL_nil ?_
                exact VE_round2 (m + 1) dp ⟨rfl, rfl, rfl, rfl, rfl, rfl, rfl, rfl, rfl, rfl, trivial⟩ ⟨by omega, hdi, hdn1, hS⟩ (by omega)
              · replace h216 := Decidable.not_not.1 (of_decide_eq_false h216)
                refine VC_skip ?_
                refine VE_then ?_
                refine VC_seq ?_
                refine VC_region ?_
                refine VL_val rfl rfl rfl (yd_move rfl) ?_
                refine VL_val rfl rfl rfl (yd_move rfl) ?_
                refine VL_val rfl rfl rfl (yd_nilcO rfl (lA_some ha)) ?_
                refine VL_val rfl rfl rfl (yd_field rfl T.fld85_3) ?_
                refine VL_storeL { s with dp := upd dp a d } rfl rfl rfl rfl rfl T.one83 rfl hS 0 rfl hLS.li.nd ham (by omega) (lcs_dp (s := { s with dp := dp })) (fun x e => lcs_dp' (s := { s with dp := dp }) e) ?_
                clear hS; intro w hS
                refine VL_nil ?_
                refine VE_then ?_
                refine VC_region ?_
                refine VL_val rfl rfl rfl (yd_move rfl) ?_
                refine VL_val rfl rfl rfl (yd_sub rfl rfl ((d - 1 : Nat) : Int) (by rw [wi16 (by omega) (by omega)]; omega)) ?_
                refine VL_val rfl rfl rfl (yd_assign rfl) ?_
                refine VL_nil ?_
                refine VE_block_normal ?_
                refine VE_then ?_
                refine VC_region ?_
                refine VL_val rfl rfl rfl (yd_move rfl) ?_
                refine VL_val rfl rfl rfl (yd_nilcO rfl (lA_some ha)) ?_
                refine VL_val rfl rfl rfl (yd_field rfl T.fld85_1) ?_
                refine VL_val rfl rfl rfl (yd_load rfl T.one76 (blk_cell (loop_get (hS.get 0 rfl) ham) rfl)) ?_
                refine VL_val rfl rfl rfl (yd_assign rfl) ?_
                refine VL_nil ?_
                refine VE_round3 (s.O a) (d - 1) (upd dp a d) ⟨rfl, rfl, rfl, rfl, rfl, rfl, rfl, rfl, rfl, rfl, rfl, rfl, rfl, rfl, rfl, rfl, rfl, rfl, rfl, rfl, rfl, rfl, rfl, rfl, rfl, rfl, rfl, rfl, rfl, rfl, rfl, rfl, rfl, rfl, rfl, rfl, rfl, trivial⟩ ⟨fun p e => ⟨hOm a p e, ?_⟩, fun q => ?_, fun q hq => ?_, ?_, hS⟩ ?_
                · have := clv_some hrk (hln a ham) e; omega
                · by_cases e : q = a
                  · subst e; rw [upd_same]; exact .inr hda
                  · rw [upd_ne _ _ e]; exact hdi q
                · by_cases e : hs[q]! = a
                  · rw [e, upd_same]; omega
                  · rw [upd_ne _ _ e]; exact hdn q hq
                · by_cases e : h = a
                  · subst e; rw [upd_same]; exact .inl (by omega)
                  · rw [upd_ne _ _ e]
                    rcases hdx with h1 | h1
                    · exact .inl h1
                    · rw [ha] at h1; cases h1; exact absurd rfl e
                · rw [ha]
                  show ork G (s.O a) < drk G a + 1
                  cases e : s.O a with
                  | none => exact Nat.succ_pos _
                  | some q => have := hrk a q e; show drk G q + 1 < _; omega
            · replace h207 := Decidable.not_not.1 (of_decide_eq_false h207)
              have hdn1 : ∀ q, q < m + 1 → dp hs[q]! ≠ 0 := all_succ hdn (by
                rw [← hh]
                rcases hdx with h1 | h1
                · exact h1
                · rw [lA_none h207] at h1; cases h1)
              refine VC_exit ?_
              refine VE_then_exit (VE_then_exit (VE_block_exit ?_))
              refine VE_block_normal ?_
              refine VE_then ?_
              refine VC_region ?_
              refine VL_val rfl rfl rfl (yd_add rfl rfl ((m + 1 : Nat) : Int) (by rw [wi64 (by omega) (by omega)]; omega)) ?_
              refine VL_val rfl rfl rfl (yd_move rfl) ?_
              refine VL_nil ?_
              exact VE_round2 (m + 1) dp ⟨rfl, rfl, rfl, rfl, rfl, rfl, rfl, rfl, rfl, rfl, trivial⟩ ⟨by omega, hdi, hdn1, hS⟩ (by omega)
          · replace h196 := Decidable.not_not.1 (of_decide_eq_false h196)
            refine VC_skip ?_
            refine VE_then ?_
            refine VC_region ?_
            refine VL_val rfl rfl rfl (yd_move rfl) ?_
            refine VL_val rfl rfl rfl (yd_add rfl rfl ((d + 1 : Nat) : Int) (by rw [wi16 (by omega) (by omega)]; omega)) ?_
            refine VL_val rfl rfl rfl (yd_assign rfl) ?_
            refine VL_nil ?_
            refine VE_block_normal ?_
            refine VE_then ?_
            refine VC_region ?_
            refine VL_val rfl rfl rfl (yd_move rfl) ?_
            refine VL_val rfl rfl rfl (yd_nilcO rfl (lA_some ha)) ?_
            refine VL_val rfl rfl rfl (yd_field rfl T.fld85_1) ?_
            refine VL_val rfl rfl rfl (yd_load rfl T.one76 (blk_cell (loop_get (hS.get 0 rfl) ham) rfl)) ?_
            refine VL_val rfl rfl rfl (yd_assign rfl) ?_
            refine VL_nil ?_
            refine VE_round2 (s.O a) (d + 1) ⟨rfl, rfl, rfl, rfl, rfl, rfl, rfl, rfl, rfl, rfl, rfl, rfl, rfl, rfl, rfl, rfl, rfl, rfl, rfl, rfl, rfl, rfl, trivial⟩ ⟨fun e => ?_, fun p e => ⟨hOm a p e, ?_⟩, hS⟩ ?_
            · have := clv_none (hln a ham) e; omega
            · have := clv_some hrk (hln a ham) e; omega
            · rw [ha]
              show ork G (s.O a) < drk G a + 1
              cases e : s.O a with
              | none => exact Nat.succ_pos _
              | some q => have := hrk a q e; show drk G q + 1 < _; omega
        · replace h187 := Decidable.not_not.1 (of_decide_eq_false h187)
          obtain rfl : d = clv s.O G.length h := hx0 (lA_none h187)
          refine VC_exit ?_
          refine VE_then_exit (VE_then_exit (VE_block_exit ?_))
          refine VE_then ?_
          refine VC_seq ?_
          refine VC_region ?_
          refine VL_val rfl rfl rfl (yd_move rfl) ?_
          refine VL_val rfl rfl rfl (yd_assign rfl) ?_
          refine VL_nil ?_
          refine VE_then ?_
          refine VC_block ?_
          refine VC_loop3 [0, 2, 3, 4, 5, 6, 8, 17, 19, 174, 175, 176, 177, 178, 179, 180, 181, 182, 183, 184, 185, 186, 187, 205] [_, _, _, _, _, _, _, _, _, _, _, _, _, _, _, _, _, _, _, _, _, _, _, _] rfl (fun (x : Option Nat) (d : Nat) (dp : Nat → Nat) => [(20, .pointer (lA lb x)), (18, .int .i16 ((d : Nat) : Int))]) (fun (x : Option Nat) (d : Nat) (dp : Nat → Nat) w => (∀ a, x = some a → a ∈ hs ∧ d = clv s.O G.length a) ∧ (∀ h, dp h = 0 ∨ dp h = clv s.O G.length h) ∧ (∀ q, q < m → dp hs[q]! ≠ 0) ∧ (dp h ≠ 0 ∨ x = some h) ∧ St w0 M0 [loopsR f hs lb { s with dp := dp }, row (.slice (some ⟨bo, 0, none⟩) (postL G).length co) 82 1 (postL G).length (ordV f (postL G)), blk tb 98 (tcells f G.length t), blk b31 76 (b2c G.length lb B), row (.slice (some ⟨lvb, 0, none⟩) hs.length lvc) 76 1 hs.length (hs.map fun h => ptr (lb h)), blk bv 4 (vl.map Value.bool)] w) (fun (x : Option Nat) (d : Nat) (dp : Nat → Nat) => ork G x) (some h) (clv s.O G.length h) dp ⟨rfl, rfl, trivial⟩ (⟨fun a e => by cases e; exact ⟨hhm, rfl⟩, hdi, hdn, .inr rfl, hS⟩) ?_
          clear hS hdn hdi hdh; rintro x d dp w ⟨hx1, hdi, hdn, hdx, hS⟩
          refine VC_seq ?_
          refine VC_seq ?_
          refine VC_region ?_
          refine VL_val rfl rfl rfl (yd_move rfl) ?_
          refine VL_val rfl rfl rfl (yd_neqp rfl rfl Try.underlying76 T.sz85 (by decide) (isC_lA (hS.get 0 rfl) (fun a e => (hx1 a e).1)) isC_none) ?_
          refine VL_nil ?_
          refine VE_then ?_
          refine VC_cond rfl (fun h207 => ?_) (fun h207 => ?_)
          · replace h207 := of_decide_eq_true h207
            obtain ⟨a, ha⟩ : ∃ a, x = some a := Option.ne_none_iff_exists'.1 (fun e => h207 (by rw [e]; rfl))
            obtain ⟨ham, hda⟩ := hx1 a ha
            have hca := clv_pos (O := s.O) (hln a ham)
            have hca2 := hcle a
            refine VC_skip ?_
            refine VE_then ?_
            refine VC_seq ?_
            refine VC_block ?_
            refine VC_seq ?_
            refine VC_seq ?_
            refine VC_region ?_
            refine VL_val rfl rfl rfl (yd_move rfl) ?_
            refine VL_val rfl rfl rfl (yd_nilcO rfl (lA_some ha)) ?_
            refine VL_val rfl rfl rfl (yd_field rfl T.fld85_3) ?_
            refine VL_val rfl rfl rfl (yd_load rfl T.one83 (blk_cell (loop_get (hS.get 0 rfl) ham) rfl)) ?_
            refine VL_val rfl rfl rfl (yd_neq rfl rfl) ?_
            refine VL_nil ?_
            refine VE_then ?_
            refine VC_cond rfl (fun h216 => ?_) (fun h216 => ?_)
            · replace h216 := of_decide_eq_true h216
              have h216 : ((dp a : Nat) : Int) ≠ 0 := h216
              have hdn1 : ∀ q, q < m + 1 → dp hs[q]! ≠ 0 := all_succ hdn (by
                rw [← hh]
                rcases hdx with h1 | h1
                · exact h1
                · rw [ha] at h1; cases h1; omega)
              refine VC_exit ?_
              refine VE_then_exit (VE_block_past rfl (VE_then_exit (VE_then_exit (VE_block_exit ?_))))
              refine VE_block_normal ?_
              refine VE_then ?_
              refine VC_region ?_
              refine VL_val rfl rfl rfl (yd_add rfl rfl ((m + 1 : Nat) : Int) (by rw [wi64 (by omega) (by omega)]; omega)) ?_
              refine VL_val rfl rfl rfl (yd_move rfl) ?_
              refine VL_nil ?_
              exact VE_round2 (m + 1) dp ⟨rfl, rfl, rfl, rfl, rfl, rfl, rfl, rfl, rfl, rfl, trivial⟩ ⟨by omega, hdi, hdn1, hS⟩ (by omega)
            · replace h216 := Decidable.not_not.1 (of_decide_eq_false h216)
              refine VC_skip ?_
              refine VE_then ?_
              refine VC_seq ?_
              refine VC_region ?_
              refine VL_val rfl rfl rfl (yd_move rfl) ?_
              refine VL_val rfl rfl rfl (yd_move rfl) ?_
              refine VL_val rfl rfl rfl (yd_nilcO rfl (lA_some ha)) ?_
              refine VL_val rfl rfl rfl (yd_field rfl T.fld85_3) ?_
              refine VL_storeL { s with dp := upd dp a d } rfl rfl rfl rfl rfl T.one83 rfl hS 0 rfl hLS.li.nd ham (by omega) (lcs_dp (s := { s with dp := dp })) (fun x e => lcs_dp' (s := { s with dp := dp }) e) ?_
              clear hS; intro w hS
              refine VL_nil ?_
              refine VE_then ?_
              refine VC_region ?_
              refine VL_val rfl rfl rfl (yd_move rfl) ?_
              refine VL_val rfl rfl rfl (yd_sub rfl rfl ((d - 1 : Nat) : Int) (by rw [wi16 (by omega) (by omega)]; omega)) ?_
              refine VL_val rfl rfl rfl (yd_assign rfl) ?_
              refine VL_nil ?_
              refine VE_block_normal ?_
              refine VE_then ?_
              refine VC_region ?_
              refine VL_val rfl rfl rfl (yd_move rfl) ?_
              refine VL_val rfl rfl rfl (yd_nilcO rfl (lA_some ha)) ?_
              refine VL_val rfl rfl rfl (yd_field rfl T.fld85_1) ?_
              refine VL_val rfl rfl rfl (yd_load rfl T.one76 (blk_cell (loop_get (hS.get 0 rfl) ham) rfl)) ?_
              refine VL_val rfl rfl rfl (yd_assign rfl) ?_
              refine VL_nil ?_
              refine VE_round3 (s.O a) (d - 1) (upd dp a d) ⟨rfl, rfl, rfl, rfl, rfl, rfl, rfl, rfl, rfl, rfl, rfl, rfl, rfl, rfl, rfl, rfl, rfl, rfl, rfl, rfl, rfl, rfl, rfl, rfl, rfl, rfl, trivial⟩ ⟨fun p e => ⟨hOm a p e, ?_⟩, fun q => ?_, fun q hq => ?_, ?_, hS⟩ ?_
              · have := clv_some hrk (hln a ham) e; omega
              · by_cases e : q = a
                · subst e; rw [upd_same]; exact .inr hda
                · rw [upd_ne _ _ e]; exact hdi q
              · by_cases e : hs[q]! = a
                · rw [e, upd_same]; omega
                · rw [upd_ne _ _ e]; exact hdn q hq
              · by_cases e : h = a
                · subst e; rw [upd_same]; exact .inl (by omega)
                · rw [upd_ne _ _ e]
                  rcases hdx with h1 | h1
                  · exact .inl h1
                  · rw [ha] at h1; cases h1; exact absurd rfl e
              · rw [ha]
                show ork G (s.O a) < drk G a + 1
                cases e : s.O a with
                | none => exact Nat.succ_pos _
                | some q => have := hrk a q e; show drk G q + 1 < _; omega
          · replace h207 := Decidable.not_not.1 (of_decide_eq_false h207)
            have hdn1 : ∀ q, q < m + 1 → dp hs[q]! ≠ 0 := all_succ hdn (by
              rw [← hh]
              rcases hdx with h1 | h1
              · exact h1
              · rw [lA_none h207] at h1; cases h1)
            refine VC_exit ?_
            refine VE_then_exit (VE_then_exit (VE_block_exit ?_))
            refine VE_block_normal ?_
            refine VE_then ?_
            refine VC_region ?_
            refine VL_val rfl rfl rfl (yd_add rfl rfl ((m + 1 : Nat) : Int) (by rw [wi64 (by omega) (by omega)]; omega)) ?_
            refine VL_val rfl rfl rfl (yd_move rfl) ?_
            refine VL_nil ?_
            exact VE_round2 (m + 1) dp ⟨rfl, rfl, rfl, rfl, rfl, rfl, rfl, rfl, rfl, rfl, trivial⟩ ⟨by omega, hdi, hdn1, hS⟩ (by omega)
    · replace h177 := Int.not_lt.1 (of_decide_eq_false h177)
      refine VC_exit ?_
      refine VE_then_exit (VE_then_exit (VE_block_exit ?_))
      refine VE_then ?_
      refine VC_seq ?_
      refine VC_seq ?_
      refine VC_region ?_
      obtain rfl : m = hs.length := by omega
      have hdp : ∀ h ∈ hs, dp h = clv s.O G.length h := fun h hh => by
        obtain ⟨q, hq, rfl⟩ := List.mem_iff_getElem.1 hh
        have := hdn q hq
        rw [getElem!_pos hs q hq] at this
        rcases hdi hs[q] with h1 | h1
        · exact absurd h1 this
        · exact h1
      refine VL_val rfl rfl rfl (yd_move rfl) ?_
      refine VL_val rfl rfl rfl (yd_len rfl Try.underlying77) ?_
      refine VL_val rfl rfl rfl (yd_move rfl) ?_
      refine VL_nil ?_
      refine VE_then ?_
      refine VC_block ?_
      refine VC_loop1 [0, 2, 3, 4, 5, 6, 8, 224, 225] [_, _, _, _, _, _, _, _, _] rfl (fun (m : Nat) => [(226, .int .i64 ((m : Nat) : Int))]) (fun (m : Nat) w => m ≤ hs.length ∧ St w0 M0 [loopsR f hs lb { s with dp := dp }, row (.slice (some ⟨bo, 0, none⟩) (postL G).length co) 82 1 (postL G).length (ordV f (postL G)), blk tb 98 (tcells f G.length t), blk b31 76 (b2c G.length lb B), row (.slice (some ⟨lvb, 0, none⟩) hs.length lvc) 76 1 hs.length (hs.map fun h => ptr (lb h)), blk bv 4 (vl.map Value.bool)] w) (fun (m : Nat) => hs.length - m) 0 ⟨rfl, trivial⟩ (⟨Nat.zero_le _, hS⟩) ?_
      clear hS; rintro m w ⟨hm, hS⟩
      refine VC_seq ?_
      refine VC_region ?_
      refine VL_val rfl rfl rfl (yd_lss rfl rfl) ?_
      refine VL_nil ?_
      refine VE_then ?_
      refine VC_seq ?_
      refine VC_cond rfl (fun h227 => ?_) (fun h227 => ?_)
      · replace h227 := of_decide_eq_true h227
        refine VC_skip ?_
        refine VE_then ?_
        refine VC_seq ?_
        refine VC_block ?_
        refine VC_seq ?_
        refine VC_region ?_
        have hml : m < hs.length := by omega
        obtain ⟨h, hh⟩ : ∃ h, h = hs[m]! := ⟨_, rfl⟩
        have hhm : h ∈ hs := by rw [hh, getElem!_pos hs m hml]; exact List.getElem_mem _
        have hdph := hdp h hhm
        refine VL_val rfl rfl rfl (yd_index0 rfl rfl Try.underlying77 T.sz76 (by omega)) ?_
        refine VL_val rfl rfl rfl (yd_load rfl T.one76 (show _ = some (ptr (lb h)) by rw [hh]; exact lrow_cell (hS.get 4 rfl) hml)) ?_
        refine VL_val rfl rfl rfl (yd_assign rfl) ?_
        refine VL_nil ?_
        refine VE_then ?_
        refine VC_seq ?_
        refine VC_region ?_
        refine VL_val rfl rfl rfl (yd_assign rfl) ?_
        refine VL_nil ?_
        refine VE_then ?_
        refine VC_seq ?_
        refine VC_seq ?_
        refine VC_region ?_
        refine VL_val rfl rfl rfl (yd_move rfl) ?_
        refine VL_val rfl rfl rfl (yd_nilc rfl) ?_
        refine VL_val rfl rfl rfl (yd_field rfl T.fld85_1) ?_
        refine VL_val rfl rfl rfl (yd_load rfl T.one76 (blk_cell (loop_get (hS.get 0 rfl) hhm) rfl)) ?_
        refine VL_val rfl rfl rfl (yd_neqp rfl rfl Try.underlying76 T.sz85 (by decide) (isC_lA (hS.get 0 rfl) (fun a e => hOm h a e)) isC_none) ?_
        refine VL_nil ?_
        refine VE_then ?_
        refine VC_cond rfl (fun h234 => ?_) (fun h234 => ?_)
        · replace h234 := of_decide_eq_true h234
          obtain ⟨p, hp⟩ : ∃ p, s.O h = some p := Option.ne_none_iff_exists'.1 (fun e => h234 (by show lA lb (s.O h) = none; rw [e]; rfl))
          have hpm := hOm h p hp
          have hcs := clv_some hrk (hln h hhm) hp
          have hdpp := hdp p hpm
          have hcp := hcle p
          refine VC_region ?_
          refine VL_val rfl rfl rfl (yd_move rfl) ?_
          refine VL_val rfl rfl rfl (yd_nilc rfl) ?_
          refine VL_val rfl rfl rfl (yd_field rfl T.fld85_1) ?_
          refine VL_val rfl rfl rfl (yd_load rfl T.one76 (blk_cell (loop_get (hS.get 0 rfl) hhm) rfl)) ?_
          refine VL_val rfl rfl rfl (yd_nilcO rfl (lA_some hp)) ?_
          refine VL_val rfl rfl rfl (yd_field rfl T.fld85_3) ?_
          refine VL_val rfl rfl rfl (yd_load rfl T.one83 (blk_cell (loop_get (hS.get 0 rfl) hpm) rfl)) ?_
          refine VL_val rfl rfl rfl (yd_add rfl rfl ((dp p + 1 : Nat) : Int) (by show IntKind.i16.wrap (((dp p : Nat) : Int) + 1) = _; rw [wi16 (by omega) (by omega)]; omega)) ?_
          refine VL_val rfl rfl rfl (yd_assign rfl) ?_
          refine VL_nil ?_
          refine VE_then ?_
          refine VC_seq ?_
          refine VC_region ?_
          refine VL_val rfl rfl rfl (yd_move rfl) ?_
          refine VL_val rfl rfl rfl (yd_nilc rfl) ?_
          refine VL_val rfl rfl rfl (yd_field rfl T.fld85_3) ?_
          refine VL_val rfl rfl rfl (yd_load rfl T.one83 (blk_cell (loop_get (hS.get 0 rfl) hhm) rfl)) ?_
          refine VL_val rfl rfl rfl (yd_move rfl) ?_
          refine VL_val rfl rfl rfl (yd_neq rfl rfl) ?_
          refine VL_nil ?_
          refine VE_then ?_
          refine VC_cond rfl (fun h248 => ?_) (fun h248 => ?_)
          · replace h248 := of_decide_eq_true h248
            exfalso
            first
            | (have h248 : ((dp h : Nat) : Int) ≠ ((dp p + 1 : Nat) : Int) := h248; omega)
            | (have h248 : ((dp h : Nat) : Int) ≠ 1 := h248; omega)
          · replace h248 := Decidable.not_not.1 (of_decide_eq_false h248)
            refine VC_skip ?_
            refine VE_block_normal ?_
            refine VE_then ?_
            refine VC_region ?_
            refine VL_val rfl rfl rfl (yd_add rfl rfl ((m + 1 : Nat) : Int) (by rw [wi64 (by omega) (by omega)]; omega)) ?_
            refine VL_val rfl rfl rfl (yd_move rfl) ?_
            refine VL_nil ?_
            exact VE_round1 (m + 1) ⟨rfl, rfl, rfl, rfl, rfl, rfl, rfl, rfl, rfl, rfl, trivial⟩ ⟨by omega, hS⟩ (by omega)
        · replace h234 := Decidable.not_not.1 (of_decide_eq_false h234)
          have hcs := clv_none (O := s.O) (hln h hhm) (lA_none h234)
          refine VC_skip ?_
          refine VE_then ?_
          refine VC_seq ?_
          refine VC_region ?_
          refine VL_val rfl rfl rfl (yd_move rfl) ?_
          refine VL_val rfl rfl rfl (yd_nilc rfl) ?_
          refine VL_val rfl rfl rfl (yd_field rfl T.fld85_3) ?_
          refine VL_val rfl rfl rfl (yd_load rfl T.one83 (blk_cell (loop_get (hS.get 0 rfl) hhm) rfl)) ?_
          refine VL_val rfl rfl rfl (yd_move rfl) ?_
          refine VL_val rfl rfl rfl (yd_neq rfl rfl) ?_
          refine VL_nil ?_
          refine VE_then ?_
          refine VC_cond rfl (fun h248 => ?_) (fun h248 => ?_)
          · replace h248 := of_decide_eq_true h248
            exfalso
            first
            | (have h248 : ((dp h : Nat) : Int) ≠ ((dp p + 1 : Nat) : Int) := h248; omega)
            | (have h248 : ((dp h : Nat) : Int) ≠ 1 := h248; omega)
          · replace h248 := Decidable.not_not.1 (of_decide_eq_false h248)
            refine VC_skip ?_
            refine VE_block_normal ?_
            refine VE_then ?_
            refine VC_region ?_
            refine VL_val rfl rfl rfl (yd_add rfl rfl ((m + 1 : Nat) : Int) (by rw [wi64 (by omega) (by omega)]; omega)) ?_
            refine VL_val rfl rfl rfl (yd_move rfl) ?_
            refine VL_nil ?_
            exact VE_round1 (m + 1) ⟨rfl, rfl, rfl, rfl, rfl, rfl, rfl, rfl, rfl, rfl, trivial⟩ ⟨by omega, hS⟩ (by omega)
      · replace h227 := Int.not_lt.1 (of_decide_eq_false h227)
        refine VC_exit ?_
        refine VE_then_exit (VE_then_exit (VE_block_exit ?_))
        refine VE_then ?_
        refine VC_seq ?_
        refine VC_region ?_
        refine VL_val rfl rfl rfl (yd_move rfl) ?_
        refine VL_val rfl rfl rfl (yd_move rfl) ?_
        refine VL_val rfl rfl rfl (yd_move rfl) ?_
        refine VL_val rfl rfl rfl (yd_move rfl) ?_
        refine VL_val rfl rfl rfl (yd_move rfl) ?_
        refine VL_val rfl rfl rfl (yd_move rfl) ?_
        refine VL_val rfl rfl rfl (yd_build (cells := #[ptr f.bf, .slice (some ⟨b31, 0, none⟩) (G.length + 1) (G.length + 1), .slice (some ⟨bo, 0, none⟩) (postL G).length co, .slice (some ⟨tb, 0, none⟩) (G.length + 1) (G.length + 1), .slice (some ⟨lvb, 0, none⟩) hs.length lvc, .bool irr]) T.st79 (vs := [(0, _), (1, _), (2, _), (3, _), (4, _), (5, _)]) rfl rfl) ?_
        refine VL_box rfl rfl rfl rfl rfl hS ?_
        clear hS; intro b258 w hS
        refine VL_val rfl rfl rfl (yd_assign rfl) ?_
        refine VL_nil ?_
        refine VE_then ?_
        refine VC_seq ?_
        refine VC_region ?_
        refine VL_val rfl rfl rfl (yd_move rfl) ?_
        refine VL_val rfl rfl rfl (yd_assign rfl) ?_
        refine VL_nil ?_
        refine VE_then ?_
        refine VC_ret ?_
        refine VE_ret1D rfl rfl ?_
        intro tmps ht
        refine leaves_one T.call63 freeBool_ok ?_
        intro w1 hR
        have hS := hS.call0 hR
        refine leaves_nil1 rfl ht ?_
        exact ⟨b258, b31, lvb, lvc, _, _, hs, lb, { s with dp := dp }, B, irr, rfl, ⟨hLS.li.nd, hln, hLS.li.oi, hLS.li.bm, hir.fin hg hw, fun h => Nat.le_trans (hLS.nbl h) (postL_le hg), hdp, fun hr => hLS.li.nest hg hw hr, fun hr h => by have := hLS.nbc hr h; rw [List.take_length] at this; exact this, hLS.ii, hLS.i0⟩, hS.sub (List.Sublist.cons_cons _ (List.Sublist.cons _ (List.Sublist.cons _ (List.Sublist.cons_cons _ (List.Sublist.cons_cons _ (List.Sublist.cons _ (List.Sublist.cons_cons _ (List.nil_sublist _))))))))⟩

end Go.Proofs.Ytmoooaaiohplhac
