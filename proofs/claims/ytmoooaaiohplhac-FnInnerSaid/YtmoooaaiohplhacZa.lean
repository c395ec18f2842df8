/- How the arguments of the laws read. -/
import Derived.Test.YtmoooaaiohplhacWa
import Derived.Test.YtmoooaaiohplhacChecked
import Derived.ProofKit
import Derived.OpenShut
import Derived.Deep.Matrix
namespace Go.Proofs.Ytmoooaaiohplhac
open Go Go.V Go.ChangeShapes Go.WideShapes Go.ChangeAt Go.RowKit Go.Deep
set_option linter.unusedVariables false

theorem own : ownKnob Try.prog.godebug = none := by kernel_rfl
theorem laidOut : laidOutB Try.prog = true := by kernel_rfl
theorem addr_plain {w : World} {a : Addr} {i : Nat} {v : Value} (h : w.cell? (a.add i) = some v) (h0 : ∃ u, w.cell? (a.add 0) = some u) : w.cell? ⟨a.block, a.off + i, none⟩ = some v := by
  obtain ⟨b, off, spot⟩ := a
  obtain ⟨u, hu⟩ := h0
  have hspot : spot = none := by simpa [Addr.add] using World.cell?_spot hu
  subst hspot
  rwa [V.add_plain] at h
theorem addr_none {w : World} {a : Addr} (h0 : ∃ u, w.cell? (a.add 0) = some u) : a = ⟨a.block, a.off, none⟩ := by
  obtain ⟨b, off, spot⟩ := a
  obtain ⟨u, hu⟩ := h0
  have hspot : spot = none := by simpa [Addr.add] using World.cell?_spot hu
  subst hspot; rfl
theorem ints_of_trod {H : Type} {enc : TypeId × Value → H} {W : World} {a : Option Addr} {len cap fuel : Nat} {x : DataW H × List MemPlace} (h : DataW.trod enc Try.prog W 0 (fun _ => true) true fuel 29 [.slice a len cap] = some x) : ∃ l, l.length = len ∧ IntsAt W (.slice a len cap) l := by
  rcases open_ints Try.underlying29 Try.underlying3 (by kernel_rfl) h with ⟨hcs, _⟩ | ⟨y, l, c, zs, hcs, _, hl, hm, hz, _, hcell, hwz⟩
  · simp at hcs
    obtain ⟨rfl, rfl, rfl⟩ := hcs
    exact ⟨[], rfl, none, 0, 0, 0, rfl, fun h => by simp at h, fun j hj => by simp at hj⟩
  · simp at hcs
    obtain ⟨rfl, rfl, rfl⟩ := hcs
    simp only [if_true] at hz
    have h0 : 0 < len → ∃ u, W.cell? (y.add 0) = some u := fun h => ⟨_, hcell 0 (by omega)⟩
    refine ⟨zs.take len, by simp; omega, some y, cap, y.block, y.off, by rw [List.length_take, Nat.min_eq_left (by omega)], fun h => by rw [List.length_take] at h; exact congrArg some (addr_none (h0 (by omega))), fun j hj => ?_⟩
    rw [List.length_take] at hj
    rw [addr_plain (hcell j (by omega)) (h0 (by omega))]
    rw [getElem!_pos (zs.take len) j (by rw [List.length_take]; exact hj), List.getElem_take]
    simp [List.getD, List.getElem?_eq_getElem (show j < zs.length by omega)]
theorem rows_of_trod {H : Type} {enc : TypeId × Value → H} {W : World} {a : Option Addr} {len cap fuel : Nat} {x : DataW H × List MemPlace} (h : DataW.trod enc Try.prog W 0 (fun _ => true) true fuel 22 [.slice a len cap] = some x) : ∃ G, RowsAt W (.slice a len cap) G := by
  rcases open_int_rows Try.underlying22 Try.underlying29 Try.underlying3 (by kernel_rfl) (by kernel_rfl) h with ⟨hcs, _⟩ | ⟨y, l, c, A, L, C, Z, hcs, _, hl, hm, _, hrows⟩
  · simp at hcs
    obtain ⟨rfl, rfl, rfl⟩ := hcs
    exact ⟨[], none, 0, 0, 0, rfl, fun h => by simp at h, fun j hj => by simp at hj⟩
  · simp at hcs
    obtain ⟨rfl, rfl, rfl⟩ := hcs
    have h0 : 0 < len → ∃ u, W.cell? (y.add 0) = some u := fun h => ⟨_, (hrows 0 (by omega)).1⟩
    refine ⟨(List.range len).map fun r => (Z r).take (L r), some y, cap, y.block, y.off, by simp, fun h => congrArg some (addr_none (h0 (by simpa using h))), fun i hi => ?_⟩
    have hi' : i < len := by simpa using hi
    obtain ⟨e1, e2, e3, e4, e5, e6, e7⟩ := hrows i (by omega)
    have hget : ((List.range len).map fun r => (Z r).take (L r))[i]! = (Z i).take (L i) := by simp [hi']
    have hlen : ((Z i).take (L i)).length = L i := by rw [List.length_take]; omega
    refine ⟨.slice (A i) (L i) (C i), addr_plain e1 (h0 (by omega)), ?_⟩
    rw [hget]
    cases hA : A i with
    | none =>
      have hc := e6 hA
      have hL0 : L i = 0 := by omega
      refine ⟨none, C i, 0, 0, by rw [hlen], fun h => by rw [hlen] at h; omega, fun j hj => by rw [hlen] at hj; omega⟩
    | some a' =>
      have hcell := (e7 a' hA).2
      have h0' : 0 < L i → ∃ u, W.cell? (a'.add 0) = some u := fun h => ⟨_, hcell 0 (by omega)⟩
      refine ⟨some a', C i, a'.block, a'.off, by rw [hlen], fun h => by rw [hlen] at h; exact congrArg some (addr_none (h0' h)), fun j hj => ?_⟩
      rw [hlen] at hj
      rw [addr_plain (hcell j (by omega)) (h0' (by omega))]
      rw [getElem!_pos ((Z i).take (L i)) j (by rw [hlen]; exact hj), List.getElem_take]
      simp [List.getD, List.getElem?_eq_getElem (show j < (Z i).length by omega)]
end Go.Proofs.Ytmoooaaiohplhac
