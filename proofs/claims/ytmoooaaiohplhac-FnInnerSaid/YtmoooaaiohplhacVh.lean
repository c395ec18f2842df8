/- A result that lies in a cell of several parts; resources in another order. -/
import Derived.Test.YtmoooaaiohplhacVg
import Derived.Laws.Rows
namespace Go.V
open Go
section
variable {P : Program} {σ : List (Nat × Value)} {w w0 : World} {M : Nat → Prop} {η η' : List Res} {n : Nat} {d : Option Tmp} {ty : TypeId} {pos : String} {af : Array Edge} {gd : Option (Nat × Bool)}
theorem VE_ret1A {fn : Func} {R : Value → World → Prop} {p : Tmp} {ty bt : TypeId} {b : Nat} {cs : List Value} (hr : fn.results = #[.cell p ty]) (hv : lk σ p = some (.pointer (some ⟨b, 0, none⟩))) (ht : AggT P ty cs.length) (hb : (blk b bt cs).holds w) (h : R (.agg cs.toArray) w) : VE (bodyPost P fn (Ret R)) .ret n [] σ w := by
  intro a ha
  refine bodyPost_ret (v := .agg cs.toArray) ?_ ha.defers ⟨_, rfl, h⟩
  obtain ⟨d, hd, hd'⟩ := ht.ex
  exact results_cell_row hr _ _ b bt cs.toArray (0, 0) d (by simp [Array.getD_eq_getD_getElem?, ha.slot p _ hv]) hb hd (by cases d <;> first | rfl | cases hd') (by rw [ht.sz]; simp)
theorem St.perm (hS : St w0 M η w) (h : η.Perm η') : St w0 M η' w :=
  ⟨hS.os, hS.tape, hS.output, hS.size, hS.old, fun r hr => hS.res r (h.mem_iff.2 hr), fun r hr => hS.own r (h.mem_iff.2 hr), (h.pairwise_iff (fun h => disj_sym _ _ h)).1 hS.disj⟩
theorem perm_erase {α : Type} : ∀ (l : List α) (k : Nat) (r : α), l[k]? = some r → (r :: l.eraseIdx k).Perm l
  | [], _, _, h => by simp at h
  | a :: l, 0, r, h => by simp at h; subst h; simp
  | a :: l, k + 1, r, h => (List.Perm.swap a r _).trans (List.Perm.cons a (perm_erase l k r (by simpa using h)))
/-- The k-th resource comes to the front. -/
theorem St.front (hS : St w0 M η w) (k : Nat) {r : Res} (hk : η[k]? = some r) : St w0 M (r :: η.eraseIdx k) w := by
  exact hS.perm (perm_erase η k r hk).symm
/-- []T{} -/
theorem yr_bslice0 {t e : TypeId} {z : Value} {sz bytes : Nat} (ht : P.underlying t = some (.slice e)) (he : ElemT P e sz bytes z) (hS : St w0 M η w) :
    Yr P σ w ⟨d, .buildSlice t 0 #[], ty, pos, af, gd⟩ (fun u w' => ∃ b, u = .slice (some ⟨b, 0, none⟩) 0 0 ∧ St w0 M (η ++ [row (.slice (some ⟨b, 0, none⟩) 0 0) e sz 0 []]) w') := fun ρ hρ => by
  obtain ⟨i, hi, rfl, rfl, hz⟩ := he.ex
  have hr : (Instr.buildSlice t 0 #[]).run P w = .ok (.slice (some ⟨w.heap.size, 0, none⟩) 0 0) (w.alloc (.cells #[] e)) := by
    simp [Instr.buildSlice, run_underlying ht, sizeOf, typeInfo, hi, Instr.fill, newRow]
    have e0 : Array.map (fun _ => (default : Value)) (Array.range 0) = #[] := Array.eq_empty_of_size_eq_zero (by simp)
    rw [e0]
  refine ⟨.slice (some ⟨w.heap.size, 0, none⟩) 0 0, w.alloc (.cells #[] e), ?_, w.heap.size, rfl, ?_⟩
  · simp [execOp, hr]
  · have h1 := hS.alloc e []
    have h2 := h1.mkrow η.length (c := 0) (sz := i.size) (b := w.heap.size) (e := e) (vs := []) (by simp) (by simp) (by omega)
    simpa using h2
end
end Go.V
