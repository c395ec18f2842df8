/- Parts of one block as slices. -/
import Derived.Test.YtmoooaaiohplhacVi
namespace Go.V
open Go
section
variable {P : Program} {σ : List (Nat × Value)} {w w0 : World} {d : Option Tmp} {ty : TypeId} {pos : String} {af : Array Edge} {gd : Option (Nat × Bool)}
theorem yd_slice_at {t e : TypeId} {x l h : Operand} {b len c m m' : Nat} {k k' : IntKind} (q : Nat) (hx : ev σ x = some (.slice (some ⟨b, 0, none⟩) len c)) (hl : ev σ l = some (.int k (m : Int))) (hh : ev σ h = some (.int k' (m' : Int))) (ht : P.underlying t = some (.slice e)) (he : (P.info? e).map (·.size) = some 1) (hq : m' = m + q) (hm' : m' ≤ c) (hc : m < c) :
    Yd P σ w ⟨d, .slice t x (some l) (some h) none, ty, pos, af, gd⟩ (.slice (some ⟨b, m, none⟩) q (c - m)) w := by
  have := yd_slice_lohi (d := d) (ty := ty) (pos := pos) (af := af) (gd := gd) (w := w) hx hl hh ht he (by omega) hm' hc
  rw [Nat.zero_add, Nat.mul_one, show m' - m = q by omega] at this
  exact this
end
end Go.V
