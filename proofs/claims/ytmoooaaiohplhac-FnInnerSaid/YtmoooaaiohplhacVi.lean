/- append(s, t...); the remainder. -/
import Derived.Test.YtmoooaaiohplhacVh
import Derived.Deep.Upon
namespace Go.V
open Go
section
variable {P : Program} {σ : List (Nat × Value)} {w w0 : World} {M : Nat → Prop} {η η' : List Res} {n : Nat} {d : Option Tmp} {ty : TypeId} {pos : String} {af : Array Edge} {gd : Option (Nat × Bool)}
theorem yd_rem {t t' : TypeId} {x y : Operand} {k : IntKind} {a b : Int} (hx : ev σ x = some (.int k a)) (hy : ev σ y = some (.int k b)) (hb : b ≠ 0) (c : Int) (hc : a.tmod b = c) : Yd P σ w ⟨d, .binOp .rem t x y t', ty, pos, af, gd⟩ (.int k c) w := fun ρ hρ => by
  simp [execOp, run_eqGuard_int, binOp, Op.intDiv, hb, hρ x _ hx, hρ y _ hy, hc]
theorem tmod_nat {a b : Nat} : ((a : Int)).tmod (b : Int) = ((a % b : Nat) : Int) := by
  rw [Int.tmod_eq_emod_of_nonneg (by omega)]; omega
/-- s = append(s, t...), t read from wherever it lies -/
theorem yr_appendS {t e : TypeId} {x y : Operand} {v z : Value} {sz bytes m len c b q0 : Nat} {sa : Option Addr} {xs news : List Value} (hx : ev σ x = some v) (hy : ev σ y = some (.slice sa m c)) (ht : P.underlying t = some (.slice e)) (he : ElemT P e sz bytes z) (hz : z.cells.size = sz) (hpos : 0 < sz)
    (hS : St w0 M η w) (k : Nat) (hk : η[k]? = some (row v e sz len xs)) (hsa : 0 < m → sa = some ⟨b, q0, none⟩) (hcells : ∀ q u, news[q]? = some u → w.cell? ⟨b, q0 + q, none⟩ = some u) (hn : news.length = m * sz) (h1 : ∀ u ∈ news, u.oneCell' = true) (hm : len + m ≤ 9223372036854775807) (hb : (len + m) * bytes ≤ 140737488355328) :
    Yr P σ w ⟨d, .call { callee := .builtin .append, args := #[x, y], argTypes := #[t, t] }, ty, pos, af, gd⟩ (fun u w' => St w0 M (η.set k (row u e sz (len + m) (xs ++ news))) w' ∧ (u = .slice none 0 0 ↔ v = .slice none 0 0 ∧ m = 0)) := fun ρ hρ => by
  obtain ⟨i, hi, rfl, rfl, hzz⟩ := he.ex
  have hown : w.ownsRow 0 e i.size v len xs := hS.get k hk
  have hnews : ∀ q u, news[q]? = some u → w.cell? ((⟨b, q0, none⟩ : Addr).add q) = some u := fun q u hq => by
    rw [add_plain]; exact hcells q u hq
  by_cases h0 : m = 0
  · subst h0
    obtain rfl : news = [] := List.eq_nil_of_length_eq_zero (by simpa using hn)
    have hsrc : Src P i.size t (.slice sa 0 c) 0 [] w := by
      cases sa with
      | none => exact Src.ofNil w ht c
      | some a => exact Src.ofSlice w ht a 0 c [] (by simp) (by simp) (by simp)
    have hv : ∃ base cap, v = .slice base len cap ∧ len ≤ cap := by
      rcases hown.2 with ⟨rfl, rfl⟩ | ⟨g, cap, cur, rfl, _, _, hnc, _⟩
      · exact ⟨_, _, rfl, Nat.le_refl _⟩
      · exact ⟨_, _, rfl, hnc⟩
    obtain ⟨base, cap, rfl, hle⟩ := hv
    have hr := run_append_nothing w t t ty e i ht hi base len cap hle _ hsrc
    refine ⟨.slice base len cap, w, ?_, ?_, by simp⟩
    · simp only [execOp, resolve, invoke, builtin, Sem.run_bind, Sem.run_pure, Result.andThen_ok, List.map_toArray, List.map_cons, List.map_nil, hρ x _ hx, hρ y _ hy, hr]
    · exact hS.recast k hk (by rw [List.append_nil]; exact hown) (fun _ hc => hc)
  obtain rfl := hsa (by omega)
  have key : ∃ v' w', (Builtin.append_ #[t, t] ty #[v, .slice (some ⟨b, q0, none⟩) m c]).run P w = .ok v' w' ∧ w'.ownsRow 0 e i.size v' (len + m) (xs ++ news) ∧ w.grownBy w' v.ownBlock ∧
      (v' = .slice none 0 0 ↔ v = .slice none 0 0 ∧ m = 0) ∧ ∀ q, v'.ownBlock = some q → v.ownBlock = some q ∨ w.heap.size ≤ q := by
    rcases hown.2 with ⟨rfl, rfl⟩ | ⟨g, cap, cur, rfl, hbg, hg, hnc, hcm, hcs, htake⟩
    · have hown' : w.ownsRow w.heap.size e i.size (.slice none 0 0) 0 xs := ⟨hown.1, .inl ⟨rfl, rfl⟩⟩
      obtain ⟨v', w', hr, h2, h3, h4⟩ := run_append_own (P := P) w w.heap.size t ty e i z i.size i.bytes ht hi hzz rfl rfl hz hpos _ 0 xs hown' ⟨b, q0, none⟩ m c news hn hnews h1 hm hb (Nat.le_refl _)
      refine ⟨v', w', hr, ⟨h2.1, ?_⟩, h3, h4, fun q hq => .inr (h2.lt q hq).1⟩
      rcases h2.2 with h | ⟨g, cap, cur, a1, a2, a3⟩
      · exact .inl h
      · exact .inr ⟨g, cap, cur, a1, Nat.zero_le _, a3⟩
    · by_cases hroom : len + m ≤ cap
      · have hfit : len * i.size + news.length ≤ cur.size := by rw [hn, hcs, ← Nat.add_mul]; exact Nat.mul_le_mul_right _ hroom
        have hr := run_append_room (P := P) w t ty e i ht hi g len cap cur hg ⟨b, q0, none⟩ m c news hn hnews h1 hroom hfit
        obtain ⟨v', w', hr', h2, h3, h4⟩ := run_append_own (P := P) w 0 t ty e i z i.size i.bytes ht hi hzz rfl rfl hz hpos _ len xs hown ⟨b, q0, none⟩ m c news hn hnews h1 hm hb (Nat.zero_le _)
        rw [hr] at hr'
        cases hr'
        exact ⟨_, _, hr, h2, h3, h4, fun q hq => .inl hq⟩
      · have holds : ∀ j u, xs[j]? = some u → w.cell? ((⟨g, 0, none⟩ : Addr).add j) = some u := hown.cells (g := g) rfl
        have hr := run_append_grow (P := P) w t ty e i z ht hi hzz ⟨g, 0, none⟩ len cap xs hown.1 holds ⟨b, q0, none⟩ m c news hn hnews (by omega) (by omega) (growslice_fits (by omega) hb)
        obtain ⟨v', w', hr', h2, h3, h4⟩ := run_append_own (P := P) w 0 t ty e i z i.size i.bytes ht hi hzz rfl rfl hz hpos _ len xs hown ⟨b, q0, none⟩ m c news hn hnews h1 hm hb (Nat.zero_le _)
        rw [hr] at hr'
        cases hr'
        exact ⟨_, _, hr, h2, h3, h4, fun q hq => by simp [Value.ownBlock] at hq; exact .inr (by omega)⟩
  obtain ⟨v', w', hr, h2, h3, h4, h5⟩ := key
  refine ⟨v', w', ?_, ?_, h4⟩
  · simp only [execOp, resolve, invoke, builtin, Sem.run_bind, Sem.run_pure, Result.andThen_ok, List.map_toArray, List.map_cons, List.map_nil, hρ x _ hx, hρ y _ hy, hr]
  · exact hS.upd k hk ⟨h3.os, h3.tape, h3.output, h3.size, fun c hc hne => h3.block c hc (fun e => hne e.symm)⟩ (r' := row v' e i.size (len + m) (xs ++ news)) h2 (fun c hc => h5 c hc)
/-- A block is a full row. -/
theorem St.asrow (hS : St w0 M η w) (k : Nat) {b m sz : Nat} {e : TypeId} {vs : List Value} (hk : η[k]? = some (blk b e vs)) (hl : vs.length = m * sz) (hc : m ≤ 9223372036854775807) : St w0 M (η.set k (row (.slice (some ⟨b, 0, none⟩) m m) e sz m vs)) w :=
  hS.recast k hk ⟨hl, .inr ⟨b, m, vs.toArray, rfl, Nat.zero_le _, hS.get k hk, Nat.le_refl _, hc, by simpa using hl, by simp [← hl]⟩⟩ (fun q hq => by simp [row, Value.ownBlock] at hq; exact hq.symm)
end
end Go.V
