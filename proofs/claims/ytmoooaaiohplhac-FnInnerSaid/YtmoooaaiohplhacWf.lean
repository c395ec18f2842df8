/- postorder, Postorder, PostorderNumbers, impl.Postorder, impl.PostorderNumbers. -/
import Derived.Test.YtmoooaaiohplhacWe
namespace Go.Proofs.Ytmoooaaiohplhac
open Go Go.V
set_option linter.unusedVariables false
set_option maxRecDepth 100000

theorem T.call36 : CallT Try.prog 36 := CallT.of Try.func36 (by kernel_rfl) (by kernel_rfl)
theorem T.call43 : CallT Try.prog 43 := CallT.of Try.func43 (by kernel_rfl) (by kernel_rfl)
theorem T.call46 : CallT Try.prog 46 := CallT.of Try.func46 (by kernel_rfl) (by kernel_rfl)
theorem T.call47 : CallT Try.prog 47 := CallT.of Try.func47 (by kernel_rfl) (by kernel_rfl)
theorem T.call55 : CallT Try.prog 55 := CallT.of Try.func55 (by kernel_rfl) (by kernel_rfl)

open Go.PL
def zL (l : List Nat) : List Int := l.map (fun k : Nat => (k : Int))
theorem zL_len (l : List Nat) : (zL l).length = l.length := by simp [zL]
theorem zL_get {l : List Nat} {i : Nat} (h : i < l.length) : (zL l)[i]! = ((l[i]! : Nat) : Int) := by simp [zL, h]
/-- Pointers to blocks, read off a row of ours. -/
theorem ptrs_of_row {w : World} {f : FRep} {v : Value} {e : TypeId} {l : List Nat} (h : (row v e 1 l.length (ordV f l)).holds w) : PtrsAt w v f (l.map some) := by
  obtain ⟨a, c, b, e1, h2, h3, _⟩ := row_reads h
  refine ⟨a, c, b, 0, by simpa using e1, by simpa using h2, fun j hj => ?_⟩
  have hj' : j < l.length := by simpa using hj
  rw [Nat.zero_add, h3 j hj']
  simp [hj', pO]
theorem nO_some (l : List Nat) : (l.map some).map nO = zL l := by simp [zL, nO, Function.comp_def]
theorem isPlaces_unique {l : List Nat} {n : Nat} {A B : List Int} (hnd : ∀ i j, i < j → j < l.length → l[i]! ≠ l[j]!) (hA : IsPlaces l n A) (hB : IsPlaces l n B) : A = B := by
  refine List.ext_getElem (by rw [hA.1, hB.1]) fun x h1 h2 => ?_
  rw [← getElem!_pos A x h1, ← getElem!_pos B x h2]
  have hx : x < n := by rw [← hA.1]; exact h1
  have key : ∀ i j, i < l.length → j < l.length → l[i]! = x → l[j]! = x → i = j := by
    intro i j hi hj e1 e2
    rcases Nat.lt_trichotomy i j with h | h | h
    · exact absurd (e1.trans e2.symm) (hnd i j h hj)
    · exact h
    · exact absurd (e2.trans e1.symm) (hnd j i h hi)
  rcases hA.2 x hx with ⟨a1, a2⟩ | ⟨i, a1, a2, a3⟩
  · rcases hB.2 x hx with ⟨b1, b2⟩ | ⟨j, b1, b2, b3⟩
    · rw [a1, b1]
    · exact absurd (by rw [← b2, getElem!_pos l j b1]; exact List.getElem_mem b1) a2
  · rcases hB.2 x hx with ⟨b1, b2⟩ | ⟨j, b1, b2, b3⟩
    · exact absurd (by rw [← a2, getElem!_pos l i a1]; exact List.getElem_mem a1) b2
    · rw [a3, b3, key i j a1 b1 a2 b2]
theorem postL_le {G : Graph} (hg : Gd G) : (postL G).length ≤ 13 := Nat.le_trans (nodup_len _ (postL_ok hg).nd (postL_ok hg).lt) hg.le
theorem postL_pos {G : Graph} (hg : Gd G) : 0 < (postL G).length := by obtain ⟨l, h⟩ := (postL_ok hg).last; rw [h]; simp
theorem postL_lt {G : Graph} (hg : Gd G) {i : Nat} (hi : i < (postL G).length) : (postL G)[i]! < G.length := (postL_ok hg).lt _ (by rw [getElem!_pos (postL G) i hi]; exact List.getElem_mem hi)
theorem pn_places {G : Graph} {l : List Nat} {pn : List Int} (h : PnOK G l pn) : IsPlaces l G.length (pn.drop 1) := by
  refine ⟨by simp [h.1], fun x hx => ?_⟩
  have e : (pn.drop 1)[x]! = pn[x + 1]! := by
    have h1 : x + 1 < pn.length := by rw [h.1]; omega
    have h2 : x < (pn.drop 1).length := by simp; omega
    rw [getElem!_pos (pn.drop 1) x h2, getElem!_pos pn (x + 1) h1, List.getElem_drop]; congr 1; omega
  rw [e]
  rcases h.2 x hx with ⟨h1, h2⟩ | h1
  · exact .inl ⟨h2, h1⟩
  · exact .inr h1

theorem postorder_ok {w0 : World} {f : FRep} {G : Graph} (hF : (funcR f G).holds w0) (hg : Gd G) : Calls Try.prog 47 #[ptr f.bf] w0 (Ret fun u w' => ∃ b c, u = .slice (some ⟨b, 0, none⟩) (postL G).length c ∧ St w0 M0 [row u 82 1 (postL G).length (ordV f (postL G))] w') := by
  refine V_enter (N := 5) Try.func47 rfl Try.ntmps47 rfl ?_
  refine VC.sub (τ := [(0, _)]) ⟨rfl, trivial⟩ ?_
  refine VC_seq ?_
  refine VC_region ?_
  refine VL_val rfl rfl rfl (yd_assign rfl) ?_
  refine VL_nil ?_
  refine VE_then ?_
  refine VC_seq ?_
  refine VC_region ?_
  refine VL_val rfl rfl rfl (yd_move rfl) ?_
  refine VL_call rfl rfl rfl rfl T.call55 rfl (post_nil hF hg) ?_
  rintro _ w ⟨b, c, rfl, hS⟩
  refine VL_val rfl rfl rfl (yd_assign rfl) ?_
  refine VL_nil ?_
  refine VE_then ?_
  refine VC_ret ?_
  refine VE_ret1 (rfl) rfl ?_
  exact ⟨_, _, rfl, hS⟩

theorem Postorder_ok {w0 : World} {v : Value} {G : Graph} (hG : GraphAt w0 v G) (hg : Gd G) : Calls Try.prog 36 #[v] w0 (Ret fun u w' => St w0 M0 [row u 3 1 (postL G).length ((zL (postL G)).map (Value.int .i64))] w') := by
  have hS := St.refl w0
  have hpl := postL_le hg
  refine V_enter (N := 7) Try.func36 rfl Try.ntmps36 rfl ?_
  refine VC.sub (τ := [(0, _)]) ⟨rfl, trivial⟩ ?_
  refine VC_seq ?_
  refine VC_region ?_
  refine VL_val rfl rfl rfl (yd_assign rfl) ?_
  refine VL_nil ?_
  refine VE_then ?_
  refine VC_seq ?_
  refine VC_region ?_
  refine VL_val rfl rfl rfl (yd_move rfl) ?_
  refine VL_call rfl rfl rfl rfl T.call43 rfl (newFunc_ok hG hg) ?_
  rintro _ w ⟨f, rfl, hP, hR⟩
  have hS := hS.call0 hR
  refine VL_call rfl rfl rfl rfl T.call47 rfl (postorder_ok (hS.get 0 rfl) hg) ?_
  rintro _ w ⟨b, c, rfl, hR⟩
  have hS := hS.call0 hR
  refine VL_call rfl rfl rfl rfl T.call46 rfl (numbers_ok (hS.get 0 rfl) hg (ptrs_of_row (hS.get 1 rfl)) (by simp; omega) (fun j hj i hi => by simp at hj; have := postL_lt hg hj; simp [hj] at hi this; omega)) ?_
  rintro u w hR
  have hS := hS.call0 hR
  refine VL_val rfl rfl rfl (yd_assign rfl) ?_
  refine VL_nil ?_
  refine VE_then ?_
  refine VC_ret ?_
  refine VE_ret1 (rfl) rfl ?_
  have hS := hS.sub (η' := [_]) (List.Sublist.cons _ (List.Sublist.cons _ (List.Sublist.cons_cons _ (List.nil_sublist _))))
  rw [nO_some, List.length_map] at hS
  exact hS

theorem implPostorder_ok {w0 : World} {v : Value} {G : Graph} (hG : GraphAt w0 v G) (hg : Gd G) : Calls Try.prog 18 #[v] w0 (Ret fun u w' => St w0 M0 [row u 3 1 (postL G).length ((zL (postL G)).map (Value.int .i64))] w') := by
  refine V_enter (N := 5) Try.func18 rfl Try.ntmps18 rfl ?_
  refine VC.sub (τ := [(0, _)]) ⟨rfl, trivial⟩ ?_
  refine VC_seq ?_
  refine VC_region ?_
  refine VL_val rfl rfl rfl (yd_assign rfl) ?_
  refine VL_nil ?_
  refine VE_then ?_
  refine VC_seq ?_
  refine VC_region ?_
  refine VL_val rfl rfl rfl (yd_move rfl) ?_
  refine VL_call rfl rfl rfl rfl T.call36 rfl (Postorder_ok hG hg) ?_
  rintro u w hS
  refine VL_val rfl rfl rfl (yd_assign rfl) ?_
  refine VL_nil ?_
  refine VE_then ?_
  refine VC_ret ?_
  refine VE_ret1 (rfl) rfl ?_
  exact hS

end Go.Proofs.Ytmoooaaiohplhac
