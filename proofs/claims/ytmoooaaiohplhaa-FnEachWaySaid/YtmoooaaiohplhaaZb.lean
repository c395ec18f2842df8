/- How an argument that is a list of bytes reads. -/
import Derived.Test.YtmoooaaiohplhaaWk
import Derived.Test.YtmoooaaiohplhaaZa
namespace Go.Proofs.Ytmoooaaiohplhaa
open Go Go.V Go.ChangeShapes Go.WideShapes Go.ChangeAt Go.RowKit Go.Deep
set_option linter.unusedVariables false
theorem bytes_of_trod {H : Type} {enc : TypeId × Value → H} {W : World} {a : Option Addr} {len cap fuel : Nat} {x : DataW H × List MemPlace} (h : DataW.trod enc Try.prog W 0 (fun _ => true) true fuel 52 [.slice a len cap] = some x) : ∃ l, l.length = len ∧ BytesAt W (.slice a len cap) l := by
  rcases open_ints Try.underlying52 Try.underlying5 (by kernel_rfl) h with ⟨hcs, _⟩ | ⟨y, l, c, zs, hcs, _, hl, hm, hz, _, hcell, hwz⟩
  · simp at hcs
    obtain ⟨rfl, rfl, rfl⟩ := hcs
    exact ⟨[], rfl, none, 0, 0, 0, rfl, fun h => by simp at h, fun j hj => by simp at hj⟩
  · simp at hcs
    obtain ⟨rfl, rfl, rfl⟩ := hcs
    simp only [if_true] at hz
    have h0 : 0 < len → ∃ u, W.cell? (y.add 0) = some u := fun h => ⟨_, hcell 0 (by omega)⟩
    have hlen : ((zs.take len).map Int.toNat).length = len := by rw [List.length_map, List.length_take]; omega
    refine ⟨(zs.take len).map Int.toNat, hlen, some y, cap, y.block, y.off, by rw [hlen], fun h => by rw [hlen] at h; exact congrArg some (addr_none (h0 h)), fun j hj => ?_⟩
    rw [hlen] at hj
    have hb := bounds_u8 (hwz zs[j] (List.getElem_mem (by omega)))
    have e : ((zs.take len).map Int.toNat)[j]! = zs[j].toNat := by
      rw [getElem!_pos _ j (by rw [hlen]; exact hj), List.getElem_map, List.getElem_take]
    rw [e, addr_plain (hcell j (by omega)) (h0 (by omega))]
    refine ⟨?_, by omega⟩
    have : ((zs[j].toNat : Nat) : Int) = zs[j] := by omega
    rw [this]
    simp [List.getD, List.getElem?_eq_getElem (show j < zs.length by omega)]
end Go.Proofs.Ytmoooaaiohplhaa
