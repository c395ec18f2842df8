/- A field of a struct that is no variable. -/
import Derived.Test.YtmoooaaiohplhacVj
namespace Go.V
open Go
structure FieldV (P : Program) (s : TypeId) (f off : Nat) (ft : TypeId) : Prop where
  ex : ∃ fs fld, P.underlying s = some (.struct fs) ∧ fs[f]? = some fld ∧ fld.offset = off ∧ fld.type = ft
  one : OneT P ft
def fieldVOf (P : Program) (s : TypeId) (f : Nat) : Option (Nat × TypeId) :=
  match P.underlying s with
  | some (.struct fs) => match fs[f]? with
    | some fld => some (fld.offset, fld.type)
    | none => none
  | _ => none
theorem FieldV.of {P : Program} {s : TypeId} {f off : Nat} {ft : TypeId} (h : fieldVOf P s f = some (off, ft)) (ho : OneT P ft) : FieldV P s f off ft := by
  refine ⟨?_, ho⟩
  unfold fieldVOf at h
  split at h
  · rename_i fs hfs
    split at h
    · rename_i fld hfld
      simp only [Option.some.injEq, Prod.mk.injEq] at h
      exact ⟨fs, fld, hfs, hfld, h.1, h.2⟩
    · cases h
  · cases h
section
variable {P : Program} {σ : List (Nat × Value)} {w : World} {d : Option Tmp} {ty : TypeId} {pos : String} {af : Array Edge} {gd : Option (Nat × Bool)}
theorem yd_fieldv {s ft : TypeId} {x : Operand} {f off : Nat} {cs : Array Value} {v : Value} (hx : ev σ x = some (.agg cs)) (hf : FieldV P s f off ft) (hv : cs[off]? = some v) : Yd P σ w ⟨d, .field s x f, ty, pos, af, gd⟩ v w := fun ρ hρ => by
  obtain ⟨fs, fld, h1, h2, h3, h4⟩ := hf.ex
  have h5 := run_isAgg_one hf.one w
  simp [execOp, Instr.field, hρ x _ hx, run_underlying h1, h2, asAgg, part, h3, h4, h5, hv]
end
end Go.V
