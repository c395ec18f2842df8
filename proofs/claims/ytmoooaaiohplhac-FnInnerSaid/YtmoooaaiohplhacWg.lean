/- The laws on postorder, walked. -/
import Derived.Test.YtmoooaaiohplhacWf
namespace Go.Proofs.Ytmoooaaiohplhac
open Go Go.V
set_option linter.unusedVariables false
set_option maxRecDepth 100000



open Go.PL
theorem ed_post {G : Graph} {l : List Nat} (h : PostOK G l) {x y : Nat} (hx : x ∈ l) (e : Ed G x y) : y ∈ l ∧ (Rc G y x ∨ ∃ i j, j < i ∧ i < l.length ∧ l[i]! = x ∧ l[j]! = y) := by
  obtain ⟨i, hi, rfl⟩ := List.mem_iff_getElem.1 hx
  have e' : Ed G l[i]! y := by rw [getElem!_pos l i hi]; exact e
  obtain ⟨h1, h2⟩ := h.edge i hi y e'
  refine ⟨h1, ?_⟩
  rcases h2 with ⟨j, hj, h3⟩ | h3
  · exact .inr ⟨i, j, hj, hi, getElem!_pos l i hi, h3⟩
  · rw [getElem!_pos l i hi] at h3; exact .inl h3
theorem place_of {l : List Nat} {n : Nat} {A : List Int} (hA : IsPlaces l n A) (hnd : ∀ i j, i < j → j < l.length → l[i]! ≠ l[j]!) {x i : Nat} (hx : x < n) (hi : i < l.length) (e : l[i]! = x) : A[x]! = (i : Int) := by
  rcases hA.2 x hx with ⟨_, a2⟩ | ⟨j, a1, a2, a3⟩
  · exact absurd (by rw [← e, getElem!_pos l i hi]; exact List.getElem_mem hi) a2
  · rw [a3]
    rcases Nat.lt_trichotomy i j with h | h | h
    · exact absurd (e.trans a2.symm) (hnd i j h a1)
    · rw [h]
    · exact absurd (a2.trans e.symm) (hnd j i h hi)
theorem place_nonneg {l : List Nat} {n : Nat} {A : List Int} (hA : IsPlaces l n A) {x : Nat} (hx : x < n) : 0 ≤ A[x]! ↔ x ∈ l := by
  rcases hA.2 x hx with ⟨a1, a2⟩ | ⟨j, a1, a2, a3⟩
  · rw [a1]; constructor
    · intro h; omega
    · intro h; exact absurd h a2
  · rw [a3]; constructor
    · intro _; rw [← a2, getElem!_pos l j a1]; exact List.getElem_mem a1
    · intro _; omega
/-- A way leads ahead, or one can come back. -/
theorem place_edge {G : Graph} {A : List Int} (hg : Gd G) (hA : IsPlaces (postL G) G.length A) {x y : Nat} (e : Ed G x y) (h0 : 0 ≤ A[x]!) : 0 ≤ A[y]! ∧ (A[y]! < A[x]! ∨ Rc G y x) := by
  have hP := postL_ok hg
  have hx := e.1
  have hy := e.lt hg
  obtain ⟨h1, h2⟩ := ed_post hP ((place_nonneg hA hx).1 h0) e
  refine ⟨(place_nonneg hA hy).2 h1, ?_⟩
  rcases h2 with h2 | ⟨i, j, hji, hi, h3, h4⟩
  · exact .inr h2
  · left
    rw [place_of hA hP.nd' hx hi h3, place_of hA hP.nd' hy (by omega) h4]; omega
theorem post_last {G : Graph} (hg : Gd G) : (postL G)[(postL G).length - 1]! = 0 := by
  obtain ⟨l, h⟩ := (postL_ok hg).last
  rw [h]; simp


theorem _root_.Go.V.St.rows {w0 w : World} {η : List Res} {v : Value} {G : List (List Int)} (hS : St w0 M0 η w) (h : RowsAt w0 v G) : RowsAt w v G := h.keep (fun b hb => hS.old b hb (fun x => x))

end Go.Proofs.Ytmoooaaiohplhac
