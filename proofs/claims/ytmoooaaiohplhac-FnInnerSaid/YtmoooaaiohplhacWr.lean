/- spec.Above, spec.Kept; laws on dominators. -/
import Derived.Test.YtmoooaaiohplhacWl
import Derived.Test.YtmoooaaiohplhacWq
import Derived.Test.YtmoooaaiohplhacVk
import Derived.Test.YtmoooaaiohplhacPh
namespace Go.Proofs.Ytmoooaaiohplhac
open Go Go.V
set_option linter.unusedVariables false
set_option maxRecDepth 100000



open Go.PL
theorem abvI_succ {l : List Int} {x z : Int} {m : Nat} (h : 0 < m) : abvI l x m z = if x = z then true else if z < 0 ∨ (l.length : Int) ≤ z then false else abvI l x (m - 1) l[z.toNat]! := by
  cases m with
  | zero => omega
  | succ m => rfl
theorem parL_idoms {G : Graph} {L : List (Option Nat)} (hg : Gd G) (h : IdomsOK G L) : ParL (L.map nO) G.length (fun y => L[y]!) := by
  refine ⟨by rw [List.length_map, h.len], fun y hy => ?_⟩
  have hl : y < L.length := by rw [h.len]; exact hy
  have e : (L.map nO)[y]! = nO L[y]! := by rw [getElem!_pos (L.map nO) y (by simpa using hl), List.getElem_map, ← getElem!_pos L y hl]
  cases hp : L[y]! with
  | none => left; rw [e, hp]; exact ⟨rfl, by decide⟩
  | some p => right; rw [e, hp]; exact ⟨p, rfl, (h.lt hg hy hp), rfl⟩
theorem abv_dm {G : Graph} {L : List (Option Nat)} (hg : Gd G) (h : IdomsOK G L) {x y : Nat} (hy : Rc G 0 y) : abvI (L.map nO) (x : Int) (L.map nO).length (y : Int) = true ↔ Dm G x y := by
  have hp := parL_idoms hg h
  rw [hp.len, abvI_iff hp (r := drk G) (fun y p e => drk_idom hg (h.idom e)) (fun y hy => drk_lt hy) (Rch.lt hg hg.pos hy)]
  exact h.abv hg hy
theorem got_ints {w : World} {v : Value} {L : List (Option Nat)} {t : TypeId} (h : (row v t 1 L.length ((L.map nO).map (Value.int .i64))).holds w) : IntsAt w v (L.map nO) := ints_of_row (by rw [List.length_map]; exact h)
/-- No way leads out of blocks that are left out. -/
def keptG (G : Graph) (lv : Nat → Bool) : Graph := (List.range G.length).map fun i => if lv i then G[i]! else []
theorem keptG_get {G : Graph} {lv : Nat → Bool} {i : Nat} (hi : i < G.length) : (keptG G lv)[i]! = if lv i then G[i]! else [] := by simp [keptG, hi]
theorem keptG_ed {G : Graph} {lv : Nat → Bool} {a b : Nat} : Ed (keptG G lv) a b ↔ Ed G a b ∧ lv a = true := by
  unfold Ed
  have hl : (keptG G lv).length = G.length := by simp [keptG]
  rw [hl]
  constructor
  · rintro ⟨h1, h2⟩
    rw [keptG_get h1] at h2
    split at h2
    · rename_i h; exact ⟨⟨h1, h2⟩, h⟩
    · cases h2
  · rintro ⟨⟨h1, h2⟩, h⟩
    exact ⟨h1, by rw [keptG_get h1, if_pos h]; exact h2⟩
theorem keptG_gd {G : Graph} {lv : Nat → Bool} (hg : Gd G) : Gd (keptG G lv) := by
  have hl : (keptG G lv).length = G.length := by simp [keptG]
  refine ⟨by rw [hl]; exact hg.pos, by rw [hl]; exact hg.le, fun i hi => ?_, fun i hi j hj => ?_⟩
  · rw [hl] at hi; rw [keptG_get hi]; split
    · exact hg.row i hi
    · simp
  · rw [hl]; exact ((keptG_ed.1 (Ed.get hi hj)).1).lt hg
theorem if_len {c : Bool} {a : List Nat} : (if c = true then a else []).length ≤ a.length := by split <;> simp

end Go.Proofs.Ytmoooaaiohplhac
