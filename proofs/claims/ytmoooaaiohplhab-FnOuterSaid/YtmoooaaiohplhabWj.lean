/- DominatorsSimple; the law on it. -/
import Derived.Test.YtmoooaaiohplhabWh
import Derived.Test.YtmoooaaiohplhabWi
namespace Go.Proofs.Ytmoooaaiohplhab
open Go Go.V
set_option linter.unusedVariables false
set_option maxRecDepth 100000



open Go.PL
theorem get!_drop1 {α : Type} [Inhabited α] {l : List α} {j : Nat} (h : j + 1 < l.length) : (l.drop 1)[j]! = l[j + 1]! := by
  have h2 : j < (l.drop 1).length := by simp; omega
  rw [getElem!_pos _ j h2, getElem!_pos _ (j + 1) h, List.getElem_drop]; congr 1; omega
theorem ptrs_drop {w : World} {f : FRep} {L : List (Option Nat)} {b n : Nat} {t : TypeId} (h : (blk b t (L.map (pP f))).holds w) (hl : L.length = n + 1) : PtrsAt w (.slice (some ⟨b, 0 + 1 * 1, none⟩) (n + 1 - 1) (n + 1 - 1)) f (L.drop 1) := by
  refine ⟨_, _, b, 0 + 1 * 1, by rw [List.length_drop, hl], fun _ => rfl, fun j hj => ?_⟩
  have hj' : j + 1 < L.length := by simp at hj; omega
  rw [get!_drop1 hj', ← pP_eq, show 0 + 1 * 1 + j = j + 1 by omega]
  exact blk_cellM h hj'

end Go.Proofs.Ytmoooaaiohplhab
