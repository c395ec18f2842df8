/- spec.Walk; the law on each way. -/
import Derived.Test.YtmoooaaiohplhacWj
import Derived.Test.YtmoooaaiohplhacVi
namespace Go.Proofs.Ytmoooaaiohplhac
open Go Go.V
set_option linter.unusedVariables false
set_option maxRecDepth 100000



open Go.PL
/-- The slice value v reads as the bytes l. -/
def BytesAt (w : World) (v : Value) (l : List Nat) : Prop :=
  ∃ a c b o, v = .slice a l.length c ∧ (0 < l.length → a = some ⟨b, o, none⟩) ∧ ∀ j, j < l.length → w.cell? ⟨b, o + j, none⟩ = some (.int .u8 ((l[j]! : Nat) : Int)) ∧ l[j]! < 256
theorem BytesAt.keep {w w' : World} {v : Value} {l : List Nat} (h : BytesAt w v l) (hk : ∀ b, b < w.heap.size → w'.heap[b]? = w.heap[b]?) : BytesAt w' v l := by
  obtain ⟨a, c, b, o, h1, h2, h3⟩ := h
  exact ⟨a, c, b, o, h1, h2, fun j hj => ⟨(World.cell?_of_block (hk _ (World.block_lt_of_cell? w _ (h3 j hj).1))).trans (h3 j hj).1, (h3 j hj).2⟩⟩
theorem _root_.Go.V.St.bytes {w0 w : World} {η : List Res} {v : Value} {l : List Nat} (hS : St w0 M0 η w) (h : BytesAt w0 v l) : BytesAt w v l := h.keep (fun b hb => hS.old b hb (fun x => x))
/-- A way from the first block. -/
structure IsWalk (G : Graph) (p : List Nat) : Prop where
  pos : 0 < p.length
  zero : p[0]! = 0
  ed : ∀ i, i + 1 < p.length → Ed G p[i]! p[i + 1]!
theorem IsWalk.lt {G : Graph} (hg : Gd G) {p : List Nat} (h : IsWalk G p) {i : Nat} (hi : i < p.length) : p[i]! < G.length := by
  cases i with
  | zero => rw [h.zero]; exact hg.pos
  | succ i => exact (h.ed i hi).lt hg
theorem IsWalk.snoc {G : Graph} {p : List Nat} (h : IsWalk G p) {x y : Nat} (hx : p[p.length - 1]! = x) (e : Ed G x y) : IsWalk G (p ++ [y]) := by
  have hp := h.pos
  refine ⟨by simp, by rw [get!_append_left hp]; exact h.zero, fun i hi => ?_⟩
  have hi' : i < p.length := by simp at hi; omega
  rw [get!_append_left hi']
  by_cases e1 : i + 1 < p.length
  · rw [get!_append_left e1]; exact h.ed i e1
  · have : i + 1 = p.length := by omega
    rw [this, get!_append_len, show i = p.length - 1 by omega, hx]; exact e
theorem IsWalk.pth {G : Graph} {p : List Nat} (h : IsWalk G p) : ∀ k, k < p.length → Pth G (p.take (k + 1)).reverse p[k]!
  | 0, hk => by
    have : p.take 1 = [0] := by
      obtain ⟨a, l, rfl⟩ := List.exists_cons_of_length_pos hk
      have := h.zero; simp at this; subst this; simp
    rw [this, h.zero]; exact .nil
  | k + 1, hk => by
    rw [take_snoc hk, List.reverse_append]
    exact .step (h.pth k (by omega)) (h.ed k hk)
theorem mem_rev_take {p : List Nat} {d k : Nat} (h : d ∈ (p.take k).reverse) : ∃ i, i < k ∧ i < p.length ∧ p[i]! = d := by
  rw [List.mem_reverse] at h
  obtain ⟨i, hi, e⟩ := List.mem_iff_getElem.1 h
  rw [List.length_take] at hi
  refine ⟨i, by omega, by omega, ?_⟩
  rw [getElem!_pos p i (by omega), ← e, List.getElem_take]
/-- One has been at the immediate dominator. -/
theorem been {G : Graph} (hg : Gd G) {L : List (Option Nat)} (hid : IdomsOK G L) {p : List Nat} (h : IsWalk G p) {k : Nat} (hk : k < p.length) (h0 : p[k]! ≠ 0) : ∃ d, L[p[k]!]! = some d ∧ d < G.length ∧ ∃ i, i < k ∧ p[i]! = d := by
  have hp := h.pth k hk
  have hsp := hid.spec p[k]! (h.lt hg hk)
  cases e : L[p[k]!]! with
  | none => rcases hsp.2 e with h1 | h1
            · exact absurd h1 h0
            · exact absurd hp.rc h1
  | some d =>
    have hi := hsp.1 d e
    refine ⟨d, rfl, (hi.2.1.lt hg).1, ?_⟩
    obtain ⟨i, h1, h2, h3⟩ := mem_rev_take ((dm_iff.1 hi.2.1).2 _ hp)
    have : i ≠ k := fun e => hi.1 (by rw [← h3, e])
    exact ⟨i, by omega, h3⟩
theorem got_cell {w : World} {L : List (Option Nat)} {b c x : Nat} {t : TypeId} (h : (row (.slice (some ⟨b, 0, none⟩) L.length c) t 1 L.length ((L.map nO).map (Value.int .i64))).holds w) (hx : x < L.length) : w.cell? ⟨b, x, none⟩ = some (.int .i64 (nO L[x]!)) :=
  row_cell h (by simp [hx])
theorem got_some {w : World} {L : List (Option Nat)} {b c x d : Nat} {t : TypeId} (h : (row (.slice (some ⟨b, 0, none⟩) L.length c) t 1 L.length ((L.map nO).map (Value.int .i64))).holds w) (hx : x < L.length) (hd : L[x]! = some d) : w.cell? ⟨b, x, none⟩ = some (.int .i64 ((d : Nat) : Int)) := by
  have := got_cell h hx; rw [hd] at this; exact this
theorem zl_cell {w : World} {p : List Nat} {b c x : Nat} {t : TypeId} (h : (row (.slice (some ⟨b, 0, none⟩) p.length c) t 1 p.length ((zL p).map (Value.int .i64))).holds w) (hx : x < p.length) : w.cell? ⟨b, x, none⟩ = some (.int .i64 ((p[x]! : Nat) : Int)) :=
  row_cell h (by simp [zL, hx])
theorem idom_zero {G : Graph} (hg : Gd G) {L : List (Option Nat)} (hid : IdomsOK G L) : L[0]! = none := by
  cases e : L[0]! with
  | none => rfl
  | some d => exact absurd rfl ((hid.spec 0 hg.pos).1 d e).ne_zero

end Go.Proofs.Ytmoooaaiohplhac
