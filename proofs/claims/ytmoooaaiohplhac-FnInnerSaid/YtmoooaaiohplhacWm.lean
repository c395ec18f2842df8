/- Lengauer and Tarjan: memory; compressOrig, evalOrig, linkOrig. -/
import Derived.Test.YtmoooaaiohplhacWh
import Derived.Test.YtmoooaaiohplhacVj
import Derived.Test.YtmoooaaiohplhacPg
namespace Go.Proofs.Ytmoooaaiohplhac
open Go Go.V
set_option linter.unusedVariables false
set_option maxRecDepth 100000

theorem T.e90 : ElemT Try.prog 90 1 4 (.int .i32 0) := ElemT.of (by kernel_rfl)
theorem T.sz90 : (Try.prog.info? 90).map (·.size) = some 1 := by kernel_rfl
theorem T.call77 : CallT Try.prog 77 := CallT.of Try.func77 (by kernel_rfl) (by kernel_rfl)

open Go.PL
def iN (k : Nat) : Value := .int .i32 ((k : Nat) : Int)
def oN : Option Nat → Nat
  | none => 0
  | some x => x + 1
theorem oN_zero {o : Option Nat} (h : oN o = 0) : o = none := by cases o with | none => rfl | some x => cases h
/-- Three of the arrays: values, labels, ancestors. -/
structure ZF (n : Nat) (Z : List Nat) (nu sv : Nat → Nat) (anc : Nat → Option Nat) (lab : Nat → Nat) : Prop where
  len : Z.length = 7 * (n + 1)
  sem : ∀ x, x < n → Z[x + 1]! = sv x
  lab : ∀ x, x < n → nu x ≠ 0 → Z[2 * (n + 1) + (x + 1)]! = lab x + 1
  anc : ∀ x, x < n → Z[4 * (n + 1) + (x + 1)]! = oN (anc x)
structure Kept (n : Nat) (Z Z' : List Nat) : Prop where
  k0 : ∀ i, i < n + 1 → Z'[i]! = Z[i]!
  k1 : ∀ i, i < n + 1 → Z'[1 * (n + 1) + i]! = Z[1 * (n + 1) + i]!
  k3 : ∀ i, i < n + 1 → Z'[3 * (n + 1) + i]! = Z[3 * (n + 1) + i]!
  k5 : ∀ i, i < n + 1 → Z'[5 * (n + 1) + i]! = Z[5 * (n + 1) + i]!
  k6 : ∀ i, i < n + 1 → Z'[6 * (n + 1) + i]! = Z[6 * (n + 1) + i]!
theorem Kept.refl (n : Nat) (Z : List Nat) : Kept n Z Z := ⟨fun _ _ => rfl, fun _ _ => rfl, fun _ _ => rfl, fun _ _ => rfl, fun _ _ => rfl⟩
theorem Kept.trans {n : Nat} {Z Z' Z2 : List Nat} (h : Kept n Z Z') (h' : Kept n Z' Z2) : Kept n Z Z2 :=
  ⟨fun i hi => (h'.k0 i hi).trans (h.k0 i hi), fun i hi => (h'.k1 i hi).trans (h.k1 i hi), fun i hi => (h'.k3 i hi).trans (h.k3 i hi), fun i hi => (h'.k5 i hi).trans (h.k5 i hi), fun i hi => (h'.k6 i hi).trans (h.k6 i hi)⟩
theorem kept2 {n x v : Nat} {Z : List Nat} (hx : x < n) : Kept n Z (Z.set (2 * (n + 1) + (x + 1)) v) :=
  ⟨fun i hi => get!_set_ne _ _ (by omega), fun i hi => get!_set_ne _ _ (by omega), fun i hi => get!_set_ne _ _ (by omega), fun i hi => get!_set_ne _ _ (by omega), fun i hi => get!_set_ne _ _ (by omega)⟩
theorem kept4 {n x v : Nat} {Z : List Nat} (hx : x < n) : Kept n Z (Z.set (4 * (n + 1) + (x + 1)) v) :=
  ⟨fun i hi => get!_set_ne _ _ (by omega), fun i hi => get!_set_ne _ _ (by omega), fun i hi => get!_set_ne _ _ (by omega), fun i hi => get!_set_ne _ _ (by omega), fun i hi => get!_set_ne _ _ (by omega)⟩
section
variable {n : Nat} {Z : List Nat} {nu sv : Nat → Nat} {anc : Nat → Option Nat} {lab : Nat → Nat}
theorem ZF.setlab (h : ZF n Z nu sv anc lab) {x l : Nat} (hx : x < n) : ZF n (Z.set (2 * (n + 1) + (x + 1)) (l + 1)) nu sv anc (oset lab x l) := by
  have hl := h.len
  refine ⟨by rw [List.length_set, hl], fun y hy => by rw [get!_set_ne _ _ (by omega)]; exact h.sem y hy, fun y hy hn => ?_, fun y hy => by rw [get!_set_ne _ _ (by omega)]; exact h.anc y hy⟩
  by_cases e : y = x
  · subst e; rw [get!_set_self _ _ _ (by omega), oset_same]
  · rw [get!_set_ne _ _ (by omega), oset_ne _ _ e]; exact h.lab y hy hn
theorem ZF.setanc (h : ZF n Z nu sv anc lab) {x : Nat} (o : Option Nat) (hx : x < n) : ZF n (Z.set (4 * (n + 1) + (x + 1)) (oN o)) nu sv (oset anc x o) lab := by
  have hl := h.len
  refine ⟨by rw [List.length_set, hl], fun y hy => by rw [get!_set_ne _ _ (by omega)]; exact h.sem y hy, fun y hy hn => by rw [get!_set_ne _ _ (by omega)]; exact h.lab y hy hn, fun y hy => ?_⟩
  by_cases e : y = x
  · subst e; rw [get!_set_self _ _ _ (by omega), oset_same]
  · rw [get!_set_ne _ _ (by omega), oset_ne _ _ e]; exact h.anc y hy
theorem ZF.ancs (h : ZF n Z nu sv anc lab) {x a : Nat} (hx : x < n) (e : anc x = some a) : Z[4 * (n + 1) + (x + 1)]! = a + 1 := by rw [h.anc x hx, e]; rfl
end
theorem zc {w : World} {b i v : Nat} {t : TypeId} {Z : List Nat} (h : (blk b t (Z.map iN)).holds w) (hi : i < Z.length) (e : Z[i]! = v) : w.cell? ⟨b, i, none⟩ = some (iN v) := by rw [← e]; exact blk_cellM h hi
def arr (bs n j c : Nat) : Value := .slice (some ⟨bs, j * (n + 1), none⟩) (n + 1) c
def arr0 (bs n c : Nat) : Value := .slice (some ⟨bs, 0, none⟩) (n + 1) c
/-- What compressOrig does for x. -/
def CompOK (nu pr sv : Nat → Nat) (k n bs c0 c2 c4 x : Nat) : Prop := ∀ (w0 : World) (Z : List Nat) (anc : Nat → Option Nat) (lab : Nat → Nat), (blk bs 90 (Z.map iN)).holds w0 → ZF n Z nu sv anc lab → FI nu pr sv k anc lab → k ≤ nu x →
  Calls Try.prog 77 #[iN (x + 1), arr bs n 4 c4, arr0 bs n c0, arr bs n 2 c2] w0 (Ret fun _ w' => ∃ Z' anc' lab', St w0 (blk bs 90 (Z.map iN)).fp [blk bs 90 (Z'.map iN)] w' ∧ ZF n Z' nu sv anc' lab' ∧ FI nu pr sv k anc' lab' ∧ Kept n Z Z' ∧ (∀ y, nu x < nu y → anc' y = anc y ∧ lab' y = lab y) ∧ ∃ r, anc' x = some r ∧ nu r < k)

theorem allocID_ok {w0 : World} {n : Nat} (hn : n ≤ 1000) : Calls Try.prog 70 #[.agg #[], .int .i64 (n : Int)] w0 (Ret fun u w' => ∃ b, u = .slice (some ⟨b, 0, none⟩) n n ∧ St w0 M0 [blk b 90 ((List.replicate n 0).map iN)] w') := by
  have hS := St.refl w0
  refine V_enter (N := 7) Try.func70 rfl Try.ntmps70 rfl ?_
  refine VC.sub (τ := [(0, _), (1, _)]) ⟨rfl, rfl, trivial⟩ ?_
  refine VC_seq ?_
  refine VC_region ?_
  refine VL_box rfl rfl rfl rfl rfl hS ?_
  clear hS; intro b2 w hS
  refine VL_val rfl rfl rfl (yd_assign rfl) ?_
  refine VL_nil ?_
  refine VE_then ?_
  refine VC_seq ?_
  refine VC_region ?_
  refine VL_val rfl rfl rfl (yd_move rfl) ?_
  refine VL_makeM iN 0 rfl rfl rfl rfl rfl rfl Try.underlying118 T.e90 rfl rfl (by omega) (by omega) (by omega) hS ?_
  clear hS; intro b6 w hS
  refine VL_val rfl rfl rfl (yd_assign rfl) ?_
  refine VL_nil ?_
  refine VE_then ?_
  refine VC_ret ?_
  refine VE_ret1 (rfl) rfl ?_
  exact ⟨_, rfl, hS.sub (by simp)⟩

theorem freeID_ok {w0 : World} {v : Value} {u : FrameMode} : CallsD Try.prog 71 #[.agg #[], v] u w0 (fun e u' w' => u' = u ∧ Ret (fun _ w' => St w0 M0 [] w') e w') := by
  have hS := St.refl w0
  refine V_enterC (N := 4) Try.func71 rfl Try.ntmps71 rfl ?_
  refine VC.sub (τ := [(0, _), (1, _)]) ⟨rfl, rfl, trivial⟩ ?_
  refine VC_region ?_
  refine VL_box rfl rfl rfl rfl rfl hS ?_
  clear hS; intro b2 w hS
  refine VL_nil ?_
  refine VE_end0 (rfl) ?_
  exact hS.sub (by simp)

theorem allocBlock_ok {w0 : World} {f : FRep} {n : Nat} (hn : n ≤ 1000) : Calls Try.prog 72 #[.agg #[], .int .i64 (n : Int)] w0 (Ret fun u w' => ∃ b, u = .slice (some ⟨b, 0, none⟩) n n ∧ St w0 M0 [blk b 82 ((List.replicate n none).map (pP f))] w') := by
  have hS := St.refl w0
  refine V_enter (N := 7) Try.func72 rfl Try.ntmps72 rfl ?_
  refine VC.sub (τ := [(0, _), (1, _)]) ⟨rfl, rfl, trivial⟩ ?_
  refine VC_seq ?_
  refine VC_region ?_
  refine VL_box rfl rfl rfl rfl rfl hS ?_
  clear hS; intro b2 w hS
  refine VL_val rfl rfl rfl (yd_assign rfl) ?_
  refine VL_nil ?_
  refine VE_then ?_
  refine VC_seq ?_
  refine VC_region ?_
  refine VL_val rfl rfl rfl (yd_move rfl) ?_
  refine VL_makeM (pP f) none rfl rfl rfl rfl rfl rfl Try.underlying72 T.e82 rfl rfl (by omega) (by omega) (by omega) hS ?_
  clear hS; intro b6 w hS
  refine VL_val rfl rfl rfl (yd_assign rfl) ?_
  refine VL_nil ?_
  refine VE_then ?_
  refine VC_ret ?_
  refine VE_ret1 (rfl) rfl ?_
  exact ⟨_, rfl, hS.sub (by simp)⟩

theorem freeBlock_ok {w0 : World} {v : Value} {u : FrameMode} : CallsD Try.prog 73 #[.agg #[], v] u w0 (fun e u' w' => u' = u ∧ Ret (fun _ w' => St w0 M0 [] w') e w') := by
  have hS := St.refl w0
  refine V_enterC (N := 4) Try.func73 rfl Try.ntmps73 rfl ?_
  refine VC.sub (τ := [(0, _), (1, _)]) ⟨rfl, rfl, trivial⟩ ?_
  refine VC_region ?_
  refine VL_box rfl rfl rfl rfl rfl hS ?_
  clear hS; intro b2 w hS
  refine VL_nil ?_
  refine VE_end0 (rfl) ?_
  exact hS.sub (by simp)

theorem compress_step {G : Graph} {nu pr sv : Nat → Nat} {k n bs c0 c2 c4 x : Nat} (h : DT G nu pr) (hlt : ∀ x, nu x ≠ 0 → x < n) (hk : 0 < k) (ih : ∀ a, nu a < nu x → CompOK nu pr sv k n bs c0 c2 c4 a) : CompOK nu pr sv k n bs c0 c2 c4 x := by
  intro w0 Z anc lab hb hz hf hkx
  have hS := St.start hb
  have hxl : nu x ≠ 0 := by omega
  have hxn := hlt x hxl
  have hZ := hz.len
  obtain ⟨a, ha, sg⟩ := hf.li x hkx
  have hal := (h.anl sg.an hxl).1
  have han := hlt a hal
  have hax := h.lt sg.an hxl sg.ne
  have e4 := hz.ancs hxn ha
  refine V_enter (N := 62) Try.func77 rfl Try.ntmps77 rfl ?_
  refine VC.sub (τ := [(0, _), (1, _), (2, _), (3, _)]) ⟨rfl, rfl, rfl, rfl, trivial⟩ ?_
  refine VC_seq ?_
  refine VC_region ?_
  refine VL_val rfl rfl rfl (yd_move rfl) ?_
  refine VL_val rfl rfl rfl (yd_move rfl) ?_
  refine VL_val rfl rfl rfl (yd_move rfl) ?_
  refine VL_val rfl rfl rfl (yd_index1 rfl rfl Try.underlying118 T.sz90 (by omega)) ?_
  refine VL_val rfl rfl rfl (yd_load rfl T.one90 (zc (hS.get 0 rfl) (by omega) e4)) ?_
  refine VL_val rfl rfl rfl (yd_index1 rfl rfl Try.underlying118 T.sz90 (by omega)) ?_
  refine VL_val rfl rfl rfl (yd_load rfl T.one90 (zc (hS.get 0 rfl) (by omega) (hz.anc a han))) ?_
  refine VL_val rfl rfl rfl (yd_neq rfl rfl) ?_
  refine VL_nil ?_
  refine VE_then ?_
  refine VC_cond rfl (fun h15 => ?_) (fun h15 => ?_)
  · replace h15 := of_decide_eq_true h15
    obtain ⟨r0, hr0⟩ : ∃ r0, anc a = some r0 := by
      cases e : anc a with
      | none => rw [e] at h15; exact absurd rfl h15
      | some r0 => exact ⟨r0, rfl⟩
    have hka : k ≤ nu a := by
      by_cases c : k ≤ nu a
      · exact c
      · rw [hf.un a (by omega)] at hr0; cases hr0
    refine VC_seq ?_
    refine VC_region ?_
    refine VL_val rfl rfl rfl (yd_move rfl) ?_
    refine VL_val rfl rfl rfl (yd_move rfl) ?_
    refine VL_val rfl rfl rfl (yd_index1 rfl rfl Try.underlying118 T.sz90 (by omega)) ?_
    refine VL_val rfl rfl rfl (yd_load rfl T.one90 (zc (hS.get 0 rfl) (by omega) e4)) ?_
    refine VL_val rfl rfl rfl (yd_move rfl) ?_
    refine VL_val rfl rfl rfl (yd_move rfl) ?_
    refine VL_val rfl rfl rfl (yd_move rfl) ?_
    refine VL_call rfl rfl rfl rfl T.call77 rfl (ih a hax _ Z anc lab (hS.get 0 rfl) hz hf hka) ?_
    rintro _ w ⟨Z1, anc1, lab1, hR, hz1, hf1, hkp, hfr, r, hr, hrk⟩
    have hS := hS.call1 0 rfl hR
    have hZ1 := hz1.len
    obtain ⟨hfa, hfl⟩ := hfr x hax
    have ha1 : anc1 x = some a := hfa.trans ha
    have e5 := hz1.ancs hxn ha1
    obtain ⟨a2, ha2, sg1⟩ := hf1.li x hkx
    obtain ⟨r2, hr2, sg2⟩ := hf1.li a hka
    have hl1 := hlt _ (h.anl sg1.lx hxl).1
    have hl2 := hlt _ (h.anl sg2.lx hal).1
    have e6 := hz1.lab a han hal
    have e7 := hz1.lab x hxn hxl
    have e8 := hz1.sem _ hl1
    have e9 := hz1.sem _ hl2
    have hrl : r < n := by rw [hr] at hr2; cases hr2; exact hlt r (h.anl sg2.an hal).1
    refine VL_nil ?_
    refine VE_then ?_
    refine VC_seq ?_
    refine VC_seq ?_
    refine VC_draw T.mixed hS ?_
    clear hS; intro w hS
    refine VA_take (i := 0) rfl rfl rfl rfl (by kernel_rfl) (by kernel_rfl) (by kernel_rfl) #[true, false, false, false, false, false, false, false, false, false, false, false, false, false, false, false, false, false] (by kernel_rfl) (fun _ _ _ _ h => h) (fun w hS => yd_move rfl) ?_
    refine VA_take (i := 1) rfl rfl rfl rfl (by kernel_rfl) (by kernel_rfl) (by kernel_rfl) #[true, true, false, false, false, false, false, false, false, false, false, false, false, false, false, false, false, false] (by kernel_rfl) (fun _ _ _ _ h => h) (fun w hS => yd_move rfl) ?_
    refine VA_take (i := 2) rfl rfl rfl rfl (by kernel_rfl) (by kernel_rfl) (by kernel_rfl) #[true, true, true, false, false, false, false, false, false, false, false, false, false, false, false, false, false, false] (by kernel_rfl) (fun _ _ _ _ h => h) (fun w hS => yd_move rfl) ?_
    refine VA_take (i := 3) rfl rfl rfl rfl (by kernel_rfl) (by kernel_rfl) (by kernel_rfl) #[true, true, true, true, false, false, false, false, false, false, false, false, false, false, false, false, false, false] (by kernel_rfl) (fun _ _ _ _ h => h) (fun w hS => yd_move rfl) ?_
    refine VA_take (i := 4) rfl rfl rfl rfl (by kernel_rfl) (by kernel_rfl) (by kernel_rfl) #[true, true, true, true, true, false, false, false, false, false, false, false, false, false, false, false, false, false] (by kernel_rfl) (fun _ _ _ _ h => h) (fun w hS => yd_index1 rfl rfl Try.underlying118 T.sz90 (by omega)) ?_
    refine VA_take (i := 5) rfl rfl rfl rfl (by kernel_rfl) (by kernel_rfl) (by kernel_rfl) #[true, true, true, true, true, true, false, false, false, false, false, false, false, false, false, false, false, false] (by kernel_rfl) (fun _ _ _ _ h => h) (fun w hS => yd_load rfl T.one90 (zc (hS.get 0 rfl) (by omega) e5)) ?_
    refine VA_take (i := 6) rfl rfl rfl rfl (by kernel_rfl) (by kernel_rfl) (by kernel_rfl) #[true, true, true, true, true, true, true, false, false, false, false, false, false, false, false, false, false, false] (by kernel_rfl) (fun _ _ _ _ h => h) (fun w hS => yd_index1 rfl rfl Try.underlying118 T.sz90 (by omega)) ?_
    refine VA_take (i := 7) rfl rfl rfl rfl (by kernel_rfl) (by kernel_rfl) (by kernel_rfl) #[true, true, true, true, true, true, true, true, false, false, false, false, false, false, false, false, false, false] (by kernel_rfl) (fun _ _ _ _ h => h) (fun w hS => yd_load rfl T.one90 (zc (hS.get 0 rfl) (by omega) e6)) ?_
    refine VA_take (i := 8) rfl rfl rfl rfl (by kernel_rfl) (by kernel_rfl) (by kernel_rfl) #[true, true, true, true, true, true, true, true, true, false, false, false, false, false, false, false, false, false] (by kernel_rfl) (fun _ _ _ _ h => h) (fun w hS => yd_index0 rfl rfl Try.underlying118 T.sz90 (by omega)) ?_
    refine VA_take (i := 9) rfl rfl rfl rfl (by kernel_rfl) (by kernel_rfl) (by kernel_rfl) #[true, true, true, true, true, true, true, true, true, true, false, false, false, false, false, false, false, false] (by kernel_rfl) (fun _ _ _ _ h => h) (fun w hS => yd_load rfl T.one90 (zc (hS.get 0 rfl) (by omega) e9)) ?_
    refine VA_take (i := 10) rfl rfl rfl rfl (by kernel_rfl) (by kernel_rfl) (by kernel_rfl) #[true, true, true, true, true, true, true, true, true, true, true, false, false, false, false, false, false, false] (by kernel_rfl) (fun _ _ _ _ h => h) (fun w hS => yd_move rfl) ?_
    refine VA_take (i := 11) rfl rfl rfl rfl (by kernel_rfl) (by kernel_rfl) (by kernel_rfl) #[true, true, true, true, true, true, true, true, true, true, true, true, false, false, false, false, false, false] (by kernel_rfl) (fun _ _ _ _ h => h) (fun w hS => yd_move rfl) ?_
    refine VA_take (i := 12) rfl rfl rfl rfl (by kernel_rfl) (by kernel_rfl) (by kernel_rfl) #[true, true, true, true, true, true, true, true, true, true, true, true, true, false, false, false, false, false] (by kernel_rfl) (fun _ _ _ _ h => h) (fun w hS => yd_move rfl) ?_
    refine VA_take (i := 13) rfl rfl rfl rfl (by kernel_rfl) (by kernel_rfl) (by kernel_rfl) #[true, true, true, true, true, true, true, true, true, true, true, true, true, true, false, false, false, false] (by kernel_rfl) (fun _ _ _ _ h => h) (fun w hS => yd_index1 rfl rfl Try.underlying118 T.sz90 (by omega)) ?_
    refine VA_take (i := 14) rfl rfl rfl rfl (by kernel_rfl) (by kernel_rfl) (by kernel_rfl) #[true, true, true, true, true, true, true, true, true, true, true, true, true, true, true, false, false, false] (by kernel_rfl) (fun _ _ _ _ h => h) (fun w hS => yd_load rfl T.one90 (zc (hS.get 0 rfl) (by omega) e7)) ?_
    refine VA_take (i := 15) rfl rfl rfl rfl (by kernel_rfl) (by kernel_rfl) (by kernel_rfl) #[true, true, true, true, true, true, true, true, true, true, true, true, true, true, true, true, false, false] (by kernel_rfl) (fun _ _ _ _ h => h) (fun w hS => yd_index0 rfl rfl Try.underlying118 T.sz90 (by omega)) ?_
    refine VA_take (i := 16) rfl rfl rfl rfl (by kernel_rfl) (by kernel_rfl) (by kernel_rfl) #[true, true, true, true, true, true, true, true, true, true, true, true, true, true, true, true, true, false] (by kernel_rfl) (fun _ _ _ _ h => h) (fun w hS => yd_load rfl T.one90 (zc (hS.get 0 rfl) (by omega) e8)) ?_
    refine VA_take (i := 17) rfl rfl rfl rfl (by kernel_rfl) (by kernel_rfl) (by kernel_rfl) #[true, true, true, true, true, true, true, true, true, true, true, true, true, true, true, true, true, true] (by kernel_rfl) (fun _ _ _ _ h => h) (fun w hS => yd_lss rfl rfl) ?_
    refine VA_done (by kernel_rfl) hS ?_
    refine VE_then ?_
    refine VC_cond rfl (fun h41 => ?_) (fun h41 => ?_)
    · replace h41 := of_decide_eq_true h41
      refine VC_region ?_
      refine VL_val rfl rfl rfl (yd_move rfl) ?_
      refine VL_val rfl rfl rfl (yd_move rfl) ?_
      refine VL_val rfl rfl rfl (yd_move rfl) ?_
      refine VL_val rfl rfl rfl (yd_move rfl) ?_
      refine VL_val rfl rfl rfl (yd_move rfl) ?_
      refine VL_val rfl rfl rfl (yd_index1 rfl rfl Try.underlying118 T.sz90 (by omega)) ?_
      refine VL_val rfl rfl rfl (yd_load rfl T.one90 (zc (hS.get 0 rfl) (by omega) e5)) ?_
      refine VL_val rfl rfl rfl (yd_index1 rfl rfl Try.underlying118 T.sz90 (by omega)) ?_
      refine VL_val rfl rfl rfl (yd_load rfl T.one90 (zc (hS.get 0 rfl) (by omega) e6)) ?_
      refine VL_val rfl rfl rfl (yd_index1 rfl rfl Try.underlying118 T.sz90 (by omega)) ?_
      refine VL_storeM (f := iN) rfl rfl rfl rfl rfl T.one90 rfl hS 0 rfl (by omega) rfl ?_
      clear hS; intro w hS
      have hz2 : ZF n (Z1.set (2 * (n + 1) + (x + 1)) (lab1 a + 1)) nu sv anc1 (oset lab1 x (if sv (lab1 a) < sv (lab1 x) then lab1 a else lab1 x)) := by rw [if_pos (by omega)]; exact hz1.setlab hxn
      have hkp2 := hkp.trans (kept2 (v := lab1 a + 1) hxn)
      refine VL_nil ?_
      refine VE_then ?_
      refine VC_region ?_
      have hZ2 := hz2.len
      have e10 := hz2.ancs hxn ha1
      have e11 := hz2.ancs han hr
      refine VL_val rfl rfl rfl (yd_move rfl) ?_
      refine VL_val rfl rfl rfl (yd_move rfl) ?_
      refine VL_val rfl rfl rfl (yd_move rfl) ?_
      refine VL_val rfl rfl rfl (yd_move rfl) ?_
      refine VL_val rfl rfl rfl (yd_move rfl) ?_
      refine VL_val rfl rfl rfl (yd_index1 rfl rfl Try.underlying118 T.sz90 (by omega)) ?_
      refine VL_val rfl rfl rfl (yd_load rfl T.one90 (zc (hS.get 0 rfl) (by omega) e10)) ?_
      refine VL_val rfl rfl rfl (yd_index1 rfl rfl Try.underlying118 T.sz90 (by omega)) ?_
      refine VL_val rfl rfl rfl (yd_load rfl T.one90 (zc (hS.get 0 rfl) (by omega) e11)) ?_
      refine VL_val rfl rfl rfl (yd_index1 rfl rfl Try.underlying118 T.sz90 (by omega)) ?_
      refine VL_storeM (f := iN) rfl rfl rfl rfl rfl T.one90 rfl hS 0 rfl (by omega) rfl ?_
      clear hS; intro w hS
      refine VL_nil ?_
      refine VE_end0 (rfl) ?_
      exact ⟨_, _, _, hS, hz2.setanc (some r) hxn, hf1.comp h hk hkx ha1 hr, hkp2.trans (kept4 hxn), fun y hy => by
        have hyx : y ≠ x := fun e => by subst e; omega
        rw [oset_ne _ _ hyx, oset_ne _ _ hyx]; exact hfr y (by omega), r, oset_same _ _ _, hrk⟩
    · replace h41 := Int.not_lt.1 (of_decide_eq_false h41)
      have hz2 : ZF n Z1 nu sv anc1 (oset lab1 x (if sv (lab1 a) < sv (lab1 x) then lab1 a else lab1 x)) := by
        have e : oset lab1 x (if sv (lab1 a) < sv (lab1 x) then lab1 a else lab1 x) = lab1 := by
          rw [if_neg (by omega)]; funext y; by_cases e : y = x
          · subst e; rw [oset_same]
          · rw [oset_ne _ _ e]
        rw [e]; exact hz1
      have hkp2 := hkp
      refine VC_skip ?_
      refine VE_then ?_
      refine VC_region ?_
      have hZ2 := hz2.len
      have e10 := hz2.ancs hxn ha1
      have e11 := hz2.ancs han hr
      refine VL_val rfl rfl rfl (yd_move rfl) ?_
      refine VL_val rfl rfl rfl (yd_move rfl) ?_
      refine VL_val rfl rfl rfl (yd_move rfl) ?_
      refine VL_val rfl rfl rfl (yd_move rfl) ?_
      refine VL_val rfl rfl rfl (yd_move rfl) ?_
      refine VL_val rfl rfl rfl (yd_index1 rfl rfl Try.underlying118 T.sz90 (by omega)) ?_
      refine VL_val rfl rfl rfl (yd_load rfl T.one90 (zc (hS.get 0 rfl) (by omega) e10)) ?_
      refine VL_val rfl rfl rfl (yd_index1 rfl rfl Try.underlying118 T.sz90 (by omega)) ?_
      refine VL_val rfl rfl rfl (yd_load rfl T.one90 (zc (hS.get 0 rfl) (by omega) e11)) ?_
      refine VL_val rfl rfl rfl (yd_index1 rfl rfl Try.underlying118 T.sz90 (by omega)) ?_
      refine VL_storeM (f := iN) rfl rfl rfl rfl rfl T.one90 rfl hS 0 rfl (by omega) rfl ?_
      clear hS; intro w hS
      refine VL_nil ?_
      refine VE_end0 (rfl) ?_
      exact ⟨_, _, _, hS, hz2.setanc (some r) hxn, hf1.comp h hk hkx ha1 hr, hkp2.trans (kept4 hxn), fun y hy => by
        have hyx : y ≠ x := fun e => by subst e; omega
        rw [oset_ne _ _ hyx, oset_ne _ _ hyx]; exact hfr y (by omega), r, oset_same _ _ _, hrk⟩
  · replace h15 := Decidable.not_not.1 (of_decide_eq_false h15)
    have hna : anc a = none := oN_zero (by omega)
    have hka : nu a < k := by
      by_cases c : nu a < k
      · exact c
      · obtain ⟨q, hq, _⟩ := hf.li a (by omega); rw [hna] at hq; cases hq
    refine VC_skip ?_
    refine VE_end0 (rfl) ?_
    exact ⟨Z, anc, lab, hS, hz, hf, Kept.refl _ _, fun _ _ => ⟨rfl, rfl⟩, a, ha, hka⟩


theorem compress_ok {G : Graph} {nu pr sv : Nat → Nat} {k n bs c0 c2 c4 : Nat} (h : DT G nu pr) (hlt : ∀ x, nu x ≠ 0 → x < n) (hk : 0 < k) (x : Nat) : CompOK nu pr sv k n bs c0 c2 c4 x := by
  generalize e : nu x = m
  induction m using Nat.strongRecOn generalizing x with
  | _ m ih => exact compress_step h hlt hk (fun a ha => ih (nu a) (by omega) a rfl)

theorem eval_ok {w0 : World} {G : Graph} {nu pr sv : Nat → Nat} {k n bs c0 c2 c4 x : Nat} {Z : List Nat} {anc : Nat → Option Nat} {lab : Nat → Nat} (h : DT G nu pr) (hlt : ∀ x, nu x ≠ 0 → x < n) (hk : 0 < k) (hb : (blk bs 90 (Z.map iN)).holds w0) (hz : ZF n Z nu sv anc lab) (hf : FI nu pr sv k anc lab) (hxl : nu x ≠ 0) : Calls Try.prog 75 #[iN (x + 1), arr bs n 4 c4, arr0 bs n c0, arr bs n 2 c2] w0 (Ret fun u w' => ∃ Z' anc' lab' e, u = iN (e + 1) ∧ EvalOK nu pr sv k x e ∧ nu e ≠ 0 ∧ St w0 (blk bs 90 (Z.map iN)).fp [blk bs 90 (Z'.map iN)] w' ∧ ZF n Z' nu sv anc' lab' ∧ FI nu pr sv k anc' lab' ∧ Kept n Z Z') := by
  have hS := St.start hb
  have hxn := hlt x hxl
  have hZ := hz.len
  refine V_enter (N := 24) Try.func75 rfl Try.ntmps75 rfl ?_
  refine VC.sub (τ := [(0, _), (1, _), (2, _), (3, _)]) ⟨rfl, rfl, rfl, rfl, trivial⟩ ?_
  refine VC_seq ?_
  refine VC_region ?_
  refine VL_val rfl rfl rfl (yd_assign rfl) ?_
  refine VL_nil ?_
  refine VE_then ?_
  refine VC_seq ?_
  refine VC_seq ?_
  refine VC_region ?_
  refine VL_val rfl rfl rfl (yd_move rfl) ?_
  refine VL_val rfl rfl rfl (yd_move rfl) ?_
  refine VL_val rfl rfl rfl (yd_index1 rfl rfl Try.underlying118 T.sz90 (by omega)) ?_
  refine VL_val rfl rfl rfl (yd_load rfl T.one90 (zc (hS.get 0 rfl) (by omega) (hz.anc x hxn))) ?_
  refine VL_val rfl rfl rfl (yd_eql rfl rfl) ?_
  refine VL_nil ?_
  refine VE_then ?_
  refine VC_cond rfl (fun h13 => ?_) (fun h13 => ?_)
  · replace h13 := of_decide_eq_true h13
    have hna : anc x = none := oN_zero (by omega)
    have hkx : nu x < k := by
      by_cases c : nu x < k
      · exact c
      · obtain ⟨q, hq, _⟩ := hf.li x (by omega); rw [hna] at hq; cases hq
    refine VC_seq ?_
    refine VC_region ?_
    refine VL_val rfl rfl rfl (yd_move rfl) ?_
    refine VL_val rfl rfl rfl (yd_assign rfl) ?_
    refine VL_nil ?_
    refine VE_then ?_
    refine VC_ret ?_
    refine VE_then_ret (?_)
    refine VE_ret1 (rfl) rfl ?_
    exact ⟨Z, anc, lab, x, rfl, .inl ⟨hkx, rfl⟩, hxl, hS, hz, hf, Kept.refl _ _⟩
  · replace h13 := of_decide_eq_false h13
    have hkx : k ≤ nu x := by
      by_cases c : k ≤ nu x
      · exact c
      · rw [hf.un x (by omega)] at h13; exact absurd rfl h13
    refine VC_skip ?_
    refine VE_then ?_
    refine VC_seq ?_
    refine VC_region ?_
    refine VL_val rfl rfl rfl (yd_move rfl) ?_
    refine VL_val rfl rfl rfl (yd_move rfl) ?_
    refine VL_val rfl rfl rfl (yd_move rfl) ?_
    refine VL_val rfl rfl rfl (yd_move rfl) ?_
    refine VL_call rfl rfl rfl rfl T.call77 rfl (compress_ok h hlt hk x _ Z anc lab (hS.get 0 rfl) hz hf hkx) ?_
    rintro _ w ⟨Z1, anc1, lab1, hR, hz1, hf1, hkp, -, r, hr, hrk⟩
    have hS := hS.call1 0 rfl hR
    have hZ1 := hz1.len
    obtain ⟨a2, ha2, sg1⟩ := hf1.li x hkx
    rw [hr] at ha2; cases ha2
    have e7 := hz1.lab x hxn hxl
    refine VL_nil ?_
    refine VE_then ?_
    refine VC_seq ?_
    refine VC_region ?_
    refine VL_val rfl rfl rfl (yd_move rfl) ?_
    refine VL_val rfl rfl rfl (yd_move rfl) ?_
    refine VL_val rfl rfl rfl (yd_index1 rfl rfl Try.underlying118 T.sz90 (by omega)) ?_
    refine VL_val rfl rfl rfl (yd_load rfl T.one90 (zc (hS.get 0 rfl) (by omega) e7)) ?_
    refine VL_val rfl rfl rfl (yd_assign rfl) ?_
    refine VL_nil ?_
    refine VE_then ?_
    refine VC_ret ?_
    refine VE_ret1 (rfl) rfl ?_
    exact ⟨Z1, anc1, lab1, lab1 x, rfl, .inr ⟨hkx, r, hrk, sg1⟩, (h.anl sg1.lx hxl).1, hS, hz1, hf1, hkp⟩

theorem link_ok {w0 : World} {n bs c4 x p : Nat} {Z : List Nat} (hb : (blk bs 90 (Z.map iN)).holds w0) (hZ : Z.length = 7 * (n + 1)) (hx : x < n) : Calls Try.prog 76 #[iN (p + 1), iN (x + 1), arr bs n 4 c4] w0 (Ret fun _ w' => St w0 (blk bs 90 (Z.map iN)).fp [blk bs 90 ((Z.set (4 * (n + 1) + (x + 1)) (p + 1)).map iN)] w') := by
  have hS := St.start hb
  refine V_enter (N := 10) Try.func76 rfl Try.ntmps76 rfl ?_
  refine VC.sub (τ := [(0, _), (1, _), (2, _)]) ⟨rfl, rfl, rfl, trivial⟩ ?_
  refine VC_region ?_
  refine VL_val rfl rfl rfl (yd_move rfl) ?_
  refine VL_val rfl rfl rfl (yd_move rfl) ?_
  refine VL_val rfl rfl rfl (yd_move rfl) ?_
  refine VL_val rfl rfl rfl (yd_index1 rfl rfl Try.underlying118 T.sz90 (by omega)) ?_
  refine VL_storeM (f := iN) rfl rfl rfl rfl rfl T.one90 rfl hS 0 rfl (by omega) rfl ?_
  clear hS; intro w hS
  refine VL_nil ?_
  refine VE_end0 (rfl) ?_
  exact hS

end Go.Proofs.Ytmoooaaiohplhac
