/- ssadom.NewFunc: the control-flow graph in memory. -/
import Derived.Test.YtmoooaaiohplhacWb
namespace Go.Proofs.Ytmoooaaiohplhac
open Go Go.V
set_option linter.unusedVariables false
set_option maxRecDepth 100000

theorem T.e82 : ElemT Try.prog 82 1 8 (.pointer none) := ElemT.of (by kernel_rfl)
theorem T.e89 : ElemT Try.prog 89 2 40 (.agg #[(.pointer none), (.slice none 0 0)]) := ElemT.of (by kernel_rfl)
theorem T.e96 : ElemT Try.prog 96 1 8 (.agg #[(.pointer none)]) := ElemT.of (by kernel_rfl)
theorem T.fld89_0 : FieldT Try.prog 89 0 0 := FieldT.of (by kernel_rfl)
theorem T.fld89_1 : FieldT Try.prog 89 1 1 := FieldT.of (by kernel_rfl)
theorem T.fld93_1 : FieldT Try.prog 93 1 1 := FieldT.of (by kernel_rfl)
theorem T.fld93_2 : FieldT Try.prog 93 2 2 := FieldT.of (by kernel_rfl)
theorem T.one72 : OneT Try.prog 72 := ⟨⟨_, Try.underlying72, rfl⟩, by kernel_rfl⟩
theorem T.one82 : OneT Try.prog 82 := ⟨⟨_, Try.underlying82, rfl⟩, by kernel_rfl⟩
theorem T.one91 : OneT Try.prog 91 := ⟨⟨_, Try.underlying91, rfl⟩, by kernel_rfl⟩
theorem T.st93 : StructT Try.prog 93 [(0, 1), (1, 1), (2, 1), (3, 1)] [(.int .i32 0), (.slice none 0 0), (.slice none 0 0), (.pointer none)] := ⟨⟨_, Try.underlying93, by kernel_rfl⟩, ⟨_, rfl, by kernel_rfl⟩⟩
theorem T.st96 : StructT Try.prog 96 [(0, 1)] [(.pointer none)] := ⟨⟨_, Try.underlying96, by kernel_rfl⟩, ⟨_, rfl, by kernel_rfl⟩⟩
theorem T.sz82 : (Try.prog.info? 82).map (·.size) = some 1 := by kernel_rfl

open Go.PL
def ptr (b : Nat) : Value := .pointer (some ⟨b, 0, none⟩)
def upd {α : Type} (f : Nat → α) (i : Nat) (x : α) : Nat → α := fun j => if j = i then x else f j
theorem upd_same {α : Type} (f : Nat → α) (i : Nat) (x : α) : upd f i x i = x := by simp [upd]
theorem upd_ne {α : Type} (f : Nat → α) {i j : Nat} (x : α) (h : j ≠ i) : upd f i x j = f j := by simp [upd, h]

/-- The first part of the blocks: the function, its list of blocks, the blocks. -/
def fB (bf : Nat) (bb : Nat → Nat) (sv pv : Nat → Value) (i : Nat) : Res := blk (bb i) 93 [.int .i32 ((i + 1 : Nat) : Int), sv i, pv i, ptr bf]
def fR (bb : Nat → Nat) (sv : Nat → Value) (S : Nat → List Nat) (i : Nat) : Res := row (sv i) 96 1 (S i).length ((S i).map fun t => ptr (bb t))
def fη (bf : Nat) (e vB : Value) (n : Nat) (bb : Nat → Nat) (sv : Nat → Value) (S : Nat → List Nat) (pv : Nat → Value) (Q : Nat → List Nat) : List Res :=
  blk bf 89 [e, vB] :: row vB 82 1 n ((List.range n).map fun i => ptr (bb i)) :: ((List.range n).map (fB bf bb sv pv) ++ ((List.range n).map (fR bb sv S) ++ (List.range n).map (fR bb pv Q)))

theorem map_range_set {α : Type} (n i : Nat) (f : Nat → α) (x : α) : ((List.range n).map f).set i x = (List.range n).map (upd f i x) := by
  apply List.ext_getElem?
  intro j
  simp only [List.getElem?_set, List.getElem?_map, List.length_map, List.length_range]
  by_cases hj : j < n
  · by_cases e : i = j
    · subst e; simp [hj, upd]
    · have e' : ¬ j = i := fun h => e h.symm
      simp [hj, e, e', upd]
  · have : (List.range n)[j]? = none := by simp; omega
    simp [this]; omega
theorem set3 {α : Type} (A B C : List α) (n i : Nat) (x : α) (hA : A.length = n) (hB : B.length = n) : (A ++ (B ++ C)).set (i + n + n) x = A ++ (B ++ C.set i x) := by
  rw [List.set_append_right _ _ (by omega), List.set_append_right _ _ (by omega)]
  congr 3; omega
section
variable {bf n : Nat} {e vB : Value} {bb : Nat → Nat} {sv pv : Nat → Value} {S Q : Nat → List Nat} {i : Nat}
theorem fη_B (hi : i < n) : (fη bf e vB n bb sv S pv Q)[i + 2]? = some (fB bf bb sv pv i) := by
  unfold fη; simp only [List.getElem?_cons_succ]
  rw [List.getElem?_append_left (by simpa using hi)]; simp [hi]
theorem fη_S (hi : i < n) : (fη bf e vB n bb sv S pv Q)[i + n + 2]? = some (fR bb sv S i) := by
  unfold fη; simp only [List.getElem?_cons_succ]
  rw [List.getElem?_append_right (by simp), List.getElem?_append_left (by simpa using hi)]; simp [hi]
theorem fη_P (hi : i < n) : (fη bf e vB n bb sv S pv Q)[i + n + n + 2]? = some (fR bb pv Q i) := by
  unfold fη; simp only [List.getElem?_cons_succ]
  rw [List.getElem?_append_right (by simp <;> omega), List.getElem?_append_right (by simp)]; simp [hi]
theorem fη_setS (hi : i < n) (v : Value) (t : Nat) (r : Res) (hr : r = row v 96 1 ((S i).length + 1) ((S i).map (fun t => ptr (bb t)) ++ [ptr (bb t)])) :
    ((fη bf e vB n bb sv S pv Q).set (i + n + 2) r).set (i + 2) (blk (bb i) 93 [.int .i32 ((i + 1 : Nat) : Int), v, pv i, ptr bf]) = fη bf e vB n bb (upd sv i v) (upd S i (S i ++ [t])) pv Q := by
  subst hr
  unfold fη
  simp only [List.set_cons_succ]
  rw [List.set_append_right _ _ (by simp), List.set_append_left _ _ (by simpa using hi), List.set_append_left _ _ (by simpa using hi)]
  simp only [List.length_map, List.length_range, Nat.add_sub_cancel]
  have h1 : upd (fB bf bb sv pv) i (blk (bb i) 93 [.int .i32 ((i + 1 : Nat) : Int), v, pv i, ptr bf]) = fB bf bb (upd sv i v) pv := by
    funext j; unfold upd fB; by_cases h : j = i
    · subst h; simp
    · simp [h]
  have h2 : upd (fR bb sv S) i (row v 96 1 ((S i).length + 1) ((S i).map (fun t => ptr (bb t)) ++ [ptr (bb t)])) = fR bb (upd sv i v) (upd S i (S i ++ [t])) := by
    funext j; unfold upd fR; by_cases h : j = i
    · subst h; simp
    · simp [h]
  rw [map_range_set, map_range_set, h1, h2]
theorem fη_setP (hi : i < n) (v : Value) (t : Nat) (r : Res) (hr : r = row v 96 1 ((Q i).length + 1) ((Q i).map (fun t => ptr (bb t)) ++ [ptr (bb t)])) :
    ((fη bf e vB n bb sv S pv Q).set (i + n + n + 2) r).set (i + 2) (blk (bb i) 93 [.int .i32 ((i + 1 : Nat) : Int), sv i, v, ptr bf]) = fη bf e vB n bb sv S (upd pv i v) (upd Q i (Q i ++ [t])) := by
  subst hr
  unfold fη
  simp only [List.set_cons_succ]
  rw [set3 _ _ _ n i _ (by simp) (by simp), List.set_append_left _ _ (by simpa using hi)]
  have h1 : upd (fB bf bb sv pv) i (blk (bb i) 93 [.int .i32 ((i + 1 : Nat) : Int), sv i, v, ptr bf]) = fB bf bb sv (upd pv i v) := by
    funext j; unfold upd fB; by_cases h : j = i
    · subst h; simp
    · simp [h]
  have h2 : upd (fR bb pv Q) i (row v 96 1 ((Q i).length + 1) ((Q i).map (fun t => ptr (bb t)) ++ [ptr (bb t)])) = fR bb (upd pv i v) (upd Q i (Q i ++ [t])) := by
    funext j; unfold upd fR; by_cases h : j = i
    · subst h; simp
    · simp [h]
  rw [map_range_set, map_range_set, h1, h2]
end
/-- Resources that span nothing. -/
theorem St_nils {w0 w : World} {M : Nat → Prop} {η L : List Res} (hS : St w0 M η w) (h : ∀ r ∈ L, r.holds w ∧ ∀ b, ¬ r.fp b) : St w0 M (η ++ L) w := by
  refine ⟨hS.os, hS.tape, hS.output, hS.size, hS.old, ?_, ?_, ?_⟩
  · intro r hr
    rcases List.mem_append.1 hr with hr | hr
    · exact hS.res r hr
    · exact (h r hr).1
  · intro r hr b hb
    rcases List.mem_append.1 hr with hr | hr
    · exact hS.own r hr b hb
    · exact ((h r hr).2 b hb).elim
  · rw [List.pairwise_append]
    refine ⟨hS.disj, ?_, fun s _ r hr b _ hb => (h r hr).2 b hb⟩
    rw [List.pairwise_iff_getElem]
    intro i j hi hj _ b hb
    exact ((h _ (List.getElem_mem hi)).2 b hb).elim
def nil_ : Nat → Value := fun _ => .slice none 0 0
def noQ : Nat → List Nat := fun _ => []
/-- Behind the first loop. -/
def f1 (bf : Nat) (vB : Value) (k : Nat) (bb : Nat → Nat) : List Res :=
  blk bf 89 [.pointer none, vB] :: row vB 82 1 k ((List.range k).map fun i => ptr (bb i)) :: (List.range k).map (fB bf bb nil_ nil_)
theorem f1_nils {w0 w : World} {bf : Nat} {vB : Value} {n : Nat} {bb : Nat → Nat} (hS : St w0 M0 (f1 bf vB n bb) w) : St w0 M0 (fη bf (.pointer none) vB n bb nil_ noQ nil_ noQ) w := by
  have h : ∀ r ∈ (List.range n).map (fR bb nil_ noQ) ++ (List.range n).map (fR bb nil_ noQ), r.holds w ∧ ∀ b, ¬ r.fp b := by
    intro r hr
    have : ∃ i, r = fR bb nil_ noQ i := by
      simp only [List.mem_append, List.mem_map, or_self] at hr
      obtain ⟨i, _, rfl⟩ := hr; exact ⟨i, rfl⟩
    obtain ⟨i, rfl⟩ := this
    exact ⟨⟨rfl, .inl ⟨rfl, rfl⟩⟩, fun b hb => by simp [fR, row, nil_, Value.ownBlock] at hb⟩
  exact St_nils hS h
theorem f1_step {w0 w : World} {bf : Nat} {v' : Value} {k b : Nat} {bb : Nat → Nat} {r0 r1 r2 : Res}
    (hS : St w0 M0 (r0 :: r1 :: ((List.range k).map (fB bf bb nil_ nil_) ++ [r2])) w)
    (h0 : r0 = blk bf 89 [.pointer none, v']) (h1 : r1 = row v' 82 1 (k + 1) ((List.range k).map (fun i => ptr (bb i)) ++ [ptr b]))
    (h2 : r2 = blk b 93 [.int .i32 ((k + 1 : Nat) : Int), .slice none 0 0, .slice none 0 0, ptr bf]) : St w0 M0 (f1 bf v' (k + 1) (upd bb k b)) w := by
  have e : f1 bf v' (k + 1) (upd bb k b) = r0 :: r1 :: ((List.range k).map (fB bf bb nil_ nil_) ++ [r2]) := by
    subst h0 h1 h2
    unfold f1
    rw [List.range_succ, List.map_append, List.map_append]
    congr 2
    · congr 1
      congr 1
      · apply List.map_congr_left
        intro i hi
        rw [upd_ne _ _ (by simp at hi; omega)]
      · simp [upd_same]
    · congr 1
      · apply List.map_congr_left
        intro i hi
        unfold fB
        rw [upd_ne _ _ (by simp at hi; omega)]
      · simp [fB, upd_same, nil_]
  rw [e]; exact hS

section
variable {w0 w : World} {bf n : Nat} {e vB : Value} {bb : Nat → Nat} {sv pv : Nat → Value} {S Q : Nat → List Nat} {i : Nat}
theorem fη_lt {k : Nat} (L : List Res) (h : k < n + n + n + 2) : k < (fη bf e vB n bb sv S pv Q ++ L).length := by
  rw [List.length_append]; simp only [fη, List.length_cons, List.length_append, List.length_map, List.length_range]; omega
theorem fη_S' (hi : i < n) (L : List Res) : (fη bf e vB n bb sv S pv Q ++ L)[i + n + 2]? = some (fR bb sv S i) := by
  rw [List.getElem?_append_left (by simp [fη]; omega)]; exact fη_S hi
theorem fη_P' (hi : i < n) (L : List Res) : (fη bf e vB n bb sv S pv Q ++ L)[i + n + n + 2]? = some (fR bb pv Q i) := by
  rw [List.getElem?_append_left (by simp [fη]; omega)]; exact fη_P hi
theorem fη_BS (hi : i < n) (L : List Res) (r : Res) (k : Nat) : ((fη bf e vB n bb sv S pv Q ++ L).set (k + n + 2) r)[i + 2]? = some (fB bf bb sv pv i) := by
  rw [List.getElem?_set_ne (by omega), List.getElem?_append_left (by simp [fη]; omega)]; exact fη_B hi
theorem fη_memB (hi : i < n) (L : List Res) : fB bf bb sv pv i ∈ fη bf e vB n bb sv S pv Q ++ L := List.mem_append_left _ (List.mem_of_getElem? (fη_B hi))
theorem fη_finS {tmp : Res} {v : Value} {t : Nat} {news : List Value} (hi : i < n) (hn : news = [ptr (bb t)]) (hS : St w0 M0 (((fη bf e vB n bb sv S pv Q ++ [tmp]).set (i + n + 2) (row v 96 1 ((S i).length + 1) ((S i).map (fun t => ptr (bb t)) ++ news))).set (i + 2) (blk (bb i) 93 [.int .i32 ((i + 1 : Nat) : Int), v, pv i, ptr bf])) w) :
    St w0 M0 (fη bf e vB n bb (upd sv i v) (upd S i (S i ++ [t])) pv Q) w := by
  subst hn
  rw [List.set_append_left _ _ (by simp [fη]; omega), List.set_append_left _ _ (by simp [fη]; omega)] at hS
  have := hS.sub (List.sublist_append_left _ _)
  rwa [fη_setS hi v t _ rfl] at this
theorem fη_finP {tmp : Res} {v : Value} {t : Nat} {news : List Value} (hi : i < n) (hn : news = [ptr (bb t)]) (hS : St w0 M0 (((fη bf e vB n bb sv S pv Q ++ [tmp]).set (i + n + n + 2) (row v 96 1 ((Q i).length + 1) ((Q i).map (fun t => ptr (bb t)) ++ news))).set (i + 2) (blk (bb i) 93 [.int .i32 ((i + 1 : Nat) : Int), sv i, v, ptr bf])) w) :
    St w0 M0 (fη bf e vB n bb sv S (upd pv i v) (upd Q i (Q i ++ [t]))) w := by
  subst hn
  rw [List.set_append_left _ _ (by simp [fη]; omega), List.set_append_left _ _ (by simp [fη]; omega)] at hS
  have := hS.sub (List.sublist_append_left _ _)
  rwa [fη_setP hi v t _ rfl] at this
end
/-- What the reads of a statement that appends ask of the world. -/
def BC (bf bB n cB : Nat) (bb : Nat → Nat) (w : World) : Prop := w.cell? ⟨bf, 1, none⟩ = some (.slice (some ⟨bB, 0, none⟩) n cB) ∧ ∀ j, j < n → w.cell? ⟨bB, j, none⟩ = some (ptr (bb j))
theorem bc_of {bf bB n cB : Nat} {bb : Nat → Nat} {w : World} {e : Value} {b1 t1 t2 : Nat} (h0 : (blk bf t1 [e, .slice (some ⟨bB, 0, none⟩) n cB]).holds w) (h1 : (row (.slice (some ⟨bB, 0, none⟩) n cB) t2 1 n ((List.range n).map fun i => ptr (bb i))).holds w) : BC bf bB n cB bb w :=
  ⟨blk_cell h0 rfl, fun j hj => row_cell h1 (by simp [hj])⟩
/-- The ways that have been laid. -/
structure NInv (G : Graph) (i j : Nat) (S Q : Nat → List Nat) : Prop where
  sl : ∀ a, a < i → S a = G[a]!
  sc : S i = G[i]!.take j
  sr : ∀ a, i < a → S a = []
  q : ∀ t x, x ∈ Q t ↔ ∃ c, x < G.length ∧ c < G[x]!.length ∧ G[x]![c]! = t ∧ (x < i ∨ (x = i ∧ c < j))
  ql : ∀ t, (Q t).length ≤ i * 4 + j
theorem NInv.init (G : Graph) : NInv G 0 0 noQ noQ := ⟨fun a h => by omega, by simp [noQ], fun a _ => rfl, fun t x => by simp [noQ], fun t => by simp [noQ]⟩
theorem NInv.step {G : Graph} {i j : Nat} {S Q : Nat → List Nat} (h : NInv G i j S Q) (hi : i < G.length) (hj : j < G[i]!.length) : NInv G i (j + 1) (upd S i (S i ++ [G[i]![j]!])) (upd Q G[i]![j]! (Q G[i]![j]! ++ [i])) := by
  refine ⟨?_, ?_, ?_, ?_, ?_⟩
  · intro a ha; rw [upd_ne _ _ (by omega)]; exact h.sl a ha
  · rw [upd_same, h.sc, List.take_succ_eq_append_getElem hj, getElem!_pos G[i]! j hj]
  · intro a ha; rw [upd_ne _ _ (by omega)]; exact h.sr a ha
  · intro t x
    by_cases ht : t = G[i]![j]!
    · subst ht
      rw [upd_same, List.mem_append, h.q]
      simp only [List.mem_singleton]
      constructor
      · rintro (⟨c, h1, h2, h3, h4⟩ | rfl)
        · exact ⟨c, h1, h2, h3, by omega⟩
        · exact ⟨j, hi, hj, rfl, by omega⟩
      · rintro ⟨c, h1, h2, h3, h4⟩
        by_cases hx : x = i ∧ c = j
        · exact .inr hx.1
        · exact .inl ⟨c, h1, h2, h3, by omega⟩
    · rw [upd_ne _ _ ht, h.q]
      constructor
      · rintro ⟨c, h1, h2, h3, h4⟩; exact ⟨c, h1, h2, h3, by omega⟩
      · rintro ⟨c, h1, h2, h3, h4⟩
        by_cases hx : x = i ∧ c = j
        · obtain ⟨rfl, rfl⟩ := hx; exact absurd h3.symm ht
        · exact ⟨c, h1, h2, h3, by omega⟩
  · intro t
    by_cases ht : t = G[i]![j]!
    · subst ht; rw [upd_same, List.length_append]; have := h.ql G[i]![j]!; simp only [List.length_singleton]; omega
    · rw [upd_ne _ _ ht]; have := h.ql t; omega
theorem NInv.row {G : Graph} {i j : Nat} {S Q : Nat → List Nat} (h : NInv G i j S Q) (hj : j = G[i]!.length) (h4 : j ≤ 4) : NInv G (i + 1) 0 S Q := by
  refine ⟨?_, ?_, fun a ha => h.sr a (by omega), ?_, fun t => by have := h.ql t; omega⟩
  · intro a ha
    rcases Nat.lt_or_ge a i with h1 | h1
    · exact h.sl a h1
    · obtain rfl : a = i := by omega
      rw [h.sc, hj, List.take_length]
  · rw [h.sr (i + 1) (by omega)]; simp
  · intro t x
    rw [h.q]
    constructor
    · rintro ⟨c, h1, h2, h3, h4⟩; exact ⟨c, h1, h2, h3, by omega⟩
    · rintro ⟨c, h1, h2, h3, h4⟩
      refine ⟨c, h1, h2, h3, ?_⟩
      rcases Nat.lt_or_ge x i with h5 | h5
      · exact .inl h5
      · obtain rfl : x = i := by omega
        exact .inr ⟨rfl, by omega⟩

/-- Several resources as one. -/
def bundle (L : List Res) : Res where
  fp := fun b => ∃ r ∈ L, r.fp b
  holds := fun w => (∀ r ∈ L, r.holds w) ∧ L.Pairwise (fun (r s : Res) => ∀ b : Nat, r.fp b → ¬ s.fp b)
  loc := fun w w' h ⟨h1, h2⟩ => ⟨fun r hr => r.loc w w' (fun b hb => h b ⟨r, hr, hb⟩) (h1 r hr), h2⟩
  dom := fun w ⟨h1, _⟩ b ⟨r, hr, hb⟩ => r.dom w (h1 r hr) b hb
theorem St_bundle {w0 w : World} {M : Nat → Prop} {L : List Res} (h : St w0 M L w) : St w0 M [bundle L] w :=
  ⟨h.os, h.tape, h.output, h.size, h.old, by intro r hr; simp at hr; subst hr; exact ⟨h.res, h.disj⟩, by intro r hr b hb; simp at hr; subst hr; obtain ⟨s, hs, hb⟩ := hb; exact h.own s hs b hb, by simp⟩
structure FRep where
  bf : Nat
  bB : Nat
  cB : Nat
  bb : Nat → Nat
  sv : Nat → Value
  pv : Nat → Value
  Q : Nat → List Nat
def fvB (f : FRep) (G : Graph) : Value := .slice (some ⟨f.bB, 0, none⟩) G.length f.cB
/-- The control-flow graph in memory. -/
def funcR (f : FRep) (G : Graph) : Res := bundle (fη f.bf (ptr (f.bb 0)) (fvB f G) G.length f.bb f.sv (fun i => G[i]!) f.pv f.Q)
structure PredsOk (f : FRep) (G : Graph) : Prop where
  mem : ∀ t x, x ∈ f.Q t ↔ Ed G x t
  len : ∀ t, (f.Q t).length ≤ 52
theorem PredsOk.lt {f : FRep} {G : Graph} (h : PredsOk f G) {t j : Nat} (hj : j < (f.Q t).length) : (f.Q t)[j]! < G.length := by
  rw [getElem!_pos (f.Q t) j hj]; exact ((h.mem t _).1 (List.getElem_mem hj)).1
structure FuncAt (w : World) (f : FRep) (G : Graph) : Prop where
  entry : w.cell? ⟨f.bf, 0, none⟩ = some (ptr (f.bb 0))
  blocks : w.cell? ⟨f.bf, 1, none⟩ = some (fvB f G)
  blk : ∀ i, i < G.length → w.cell? ⟨f.bB, i, none⟩ = some (ptr (f.bb i))
  id : ∀ i, i < G.length → w.cell? ⟨f.bb i, 0, none⟩ = some (.int .i32 ((i + 1 : Nat) : Int))
  suc : ∀ i, i < G.length → ∃ a c b, w.cell? ⟨f.bb i, 1, none⟩ = some (.slice a G[i]!.length c) ∧ (0 < G[i]!.length → a = some ⟨b, 0, none⟩) ∧ (∀ j, j < G[i]!.length → w.cell? ⟨b, j, none⟩ = some (ptr (f.bb G[i]![j]!))) ∧ (0 < G[i]!.length → (funcR f G).fp b)
  pre : ∀ i, i < G.length → ∃ a c b, w.cell? ⟨f.bb i, 2, none⟩ = some (.slice a (f.Q i).length c) ∧ (0 < (f.Q i).length → a = some ⟨b, 0, none⟩) ∧ (∀ j, j < (f.Q i).length → w.cell? ⟨b, j, none⟩ = some (ptr (f.bb (f.Q i)[j]!))) ∧ (0 < (f.Q i).length → (funcR f G).fp b)
  fn : ∀ i, i < G.length → w.cell? ⟨f.bb i, 3, none⟩ = some (ptr f.bf)
  inj : ∀ i j, i < G.length → j < G.length → f.bb i = f.bb j → i = j
  hb : ∀ i, i < G.length → ∃ cs, w.heap[f.bb i]? = some (.cells cs 93 (0, 0))
  hf : ∃ cs, w.heap[f.bf]? = some (.cells cs 89 (0, 0))
theorem row_reads {w : World} {v : Value} {e : TypeId} {l : List Nat} {g : Nat → Value} (h : (row v e 1 l.length (l.map g)).holds w) : ∃ a c b, v = .slice a l.length c ∧ (0 < l.length → a = some ⟨b, 0, none⟩) ∧ (∀ j, j < l.length → w.cell? ⟨b, j, none⟩ = some (g l[j]!)) ∧ (0 < l.length → (row v e 1 l.length (l.map g)).fp b) := by
  have h' := h
  rcases h.2 with ⟨rfl, h3⟩ | ⟨b, cap, cur, rfl, _⟩
  · exact ⟨none, 0, 0, by rw [h3], fun h => by omega, fun j hj => by omega, fun h => by omega⟩
  · exact ⟨_, cap, b, rfl, fun _ => rfl, fun j hj => row_cell h' (by simp [hj]), fun _ => rfl⟩
theorem funcAt {w : World} {f : FRep} {G : Graph} (h : (funcR f G).holds w) : FuncAt w f G := by
  have h0 : (V.blk f.bf 89 [ptr (f.bb 0), fvB f G]).holds w := h.1 _ (by simp [fη])
  have h1 : (row (fvB f G) 82 1 G.length ((List.range G.length).map fun i => ptr (f.bb i))).holds w := h.1 _ (by simp [fη])
  have hB : ∀ i, i < G.length → (fB f.bf f.bb f.sv f.pv i).holds w := fun i hi => h.1 _ (List.mem_of_getElem? (fη_B hi))
  have hS : ∀ i, i < G.length → (fR f.bb f.sv (fun i => G[i]!) i).holds w := fun i hi => h.1 _ (List.mem_of_getElem? (fη_S hi))
  have hP : ∀ i, i < G.length → (fR f.bb f.pv f.Q i).holds w := fun i hi => h.1 _ (List.mem_of_getElem? (fη_P hi))
  refine ⟨blk_cell h0 rfl, blk_cell h0 rfl, fun i hi => row_cell h1 (by simp [hi]), fun i hi => blk_cell (hB i hi) rfl, fun i hi => ?_, fun i hi => ?_, fun i hi => blk_cell (hB i hi) rfl, ?_, fun i hi => ⟨_, hB i hi⟩, ⟨_, h0⟩⟩
  · obtain ⟨a, c, b, e, h2, h3, h4⟩ := row_reads (hS i hi)
    exact ⟨a, c, b, (blk_cell (hB i hi) (i := 1) (v := f.sv i) rfl).trans (by rw [e]), h2, h3, fun h => ⟨_, List.mem_of_getElem? (fη_S hi), h4 h⟩⟩
  · obtain ⟨a, c, b, e, h2, h3, h4⟩ := row_reads (hP i hi)
    exact ⟨a, c, b, (blk_cell (hB i hi) (i := 2) (v := f.pv i) rfl).trans (by rw [e]), h2, h3, fun h => ⟨_, List.mem_of_getElem? (fη_P hi), h4 h⟩⟩
  · intro i j hi hj e
    by_cases hne : i = j
    · exact hne
    · exfalso
      exact pairwise_get disj_sym h.2 (fη_B hi) (fη_B hj) (by omega) (f.bb i) rfl e
theorem fp_bf {f : FRep} {G : Graph} : (funcR f G).fp f.bf := ⟨V.blk f.bf 89 [ptr (f.bb 0), fvB f G], by simp [fη], rfl⟩
theorem fp_bB {f : FRep} {G : Graph} : (funcR f G).fp f.bB := ⟨row (fvB f G) 82 1 G.length ((List.range G.length).map fun i => ptr (f.bb i)), by simp [fη], rfl⟩
theorem fp_bb {f : FRep} {G : Graph} {i : Nat} (hi : i < G.length) : (funcR f G).fp (f.bb i) := ⟨fB f.bf f.bb f.sv f.pv i, List.mem_of_getElem? (fη_B hi), rfl⟩
theorem FuncAt.isC {w : World} {f : FRep} {G : Graph} (h : FuncAt w f G) {i : Nat} (hi : i < G.length) : IsC w (some ⟨f.bb i, 0, none⟩) := by
  intro p hp; cases hp; obtain ⟨cs, hc⟩ := h.hb i hi; exact ⟨_, _, hc⟩
theorem FuncAt.len {w : World} {f : FRep} {G : Graph} (h : FuncAt w f G) {i : Nat} (hi : i < G.length) : f.bb i < w.heap.size := by
  obtain ⟨cs, hc⟩ := h.hb i hi; exact (Array.getElem?_eq_some_iff.1 hc).1
theorem fη_congr {bf n : Nat} {e vB : Value} {bb : Nat → Nat} {sv pv : Nat → Value} {S S' Q : Nat → List Nat} (h : ∀ i, i < n → S i = S' i) : fη bf e vB n bb sv S pv Q = fη bf e vB n bb sv S' pv Q := by
  unfold fη
  congr 4
  apply List.map_congr_left
  intro i hi
  unfold fR
  rw [h i (by simpa using hi)]
theorem NInv.preds {G : Graph} {S Q : Nat → List Nat} (hg : Gd G) (h : NInv G G.length 0 S Q) : (∀ t x, x ∈ Q t ↔ Ed G x t) ∧ ∀ t, (Q t).length ≤ 52 := by
  refine ⟨fun t x => ?_, fun t => by have := h.ql t; have := hg.le; omega⟩
  rw [h.q]
  constructor
  · rintro ⟨c, h1, h2, rfl, _⟩; exact Ed.get h1 h2
  · intro e; obtain ⟨c, hc, rfl⟩ := e.idx; exact ⟨c, e.1, hc, rfl, .inl e.1⟩

theorem newFunc_ok {w0 : World} {v : Value} {G : Graph} (hG : GraphAt w0 v G) (hg : Gd G) : Calls Try.prog 43 #[v] w0 (Ret fun u w' => ∃ f, u = ptr f.bf ∧ PredsOk f G ∧ St w0 M0 [funcR f G] w') := by
  obtain ⟨ga, gc, gb, go, rfl, hga, hrow⟩ := hG
  obtain rfl := hga (by have := hg.pos; omega)
  have hS := St.refl w0
  have hle := hg.le
  refine V_enter (N := 114) Try.func43 rfl Try.ntmps43 rfl ?_
  refine VC.sub (τ := [(0, _)]) ⟨rfl, trivial⟩ ?_
  refine VC_seq ?_
  refine VC_region ?_
  refine VL_val rfl rfl rfl (yd_assign rfl) ?_
  refine VL_nil ?_
  refine VE_then ?_
  refine VC_seq ?_
  refine VC_region ?_
  refine VL_alloc rfl rfl rfl rfl T.e89 hS ?_
  clear hS; intro b9 w hS
  refine VL_val rfl rfl rfl (yd_assign rfl) ?_
  refine VL_nil ?_
  refine VE_then ?_
  refine VC_seq ?_
  refine VC_seq ?_
  refine VC_region ?_
  refine VL_val rfl rfl rfl (yd_move rfl) ?_
  refine VL_val rfl rfl rfl (yd_len rfl Try.underlying22) ?_
  refine VL_val rfl rfl rfl (yd_move rfl) ?_
  refine VL_nil ?_
  refine VE_then ?_
  refine VC_block ?_
  have hS := St_nils hS (L := [row (.slice none 0 0) 82 1 0 []]) (by intro r hr; simp at hr; subst hr; exact ⟨⟨rfl, .inl ⟨rfl, rfl⟩⟩, fun b hb => by simp [row, Value.ownBlock] at hb⟩)
  refine VC_loop3 [0, 2, 3, 11] [_, _, _, _] rfl (fun (k : Nat) (vB : Value) (bb : Nat → Nat) => [(12, .int .i64 ((k : Nat) : Int))]) (fun (k : Nat) (vB : Value) (bb : Nat → Nat) w => k ≤ G.length ∧ St w0 M0 (f1 b9 vB k bb) w) (fun (k : Nat) (vB : Value) (bb : Nat → Nat) => G.length - k) 0 (.slice none 0 0) (fun _ => 0) ⟨rfl, trivial⟩ (⟨Nat.zero_le _, hS⟩) ?_
  clear hS; rintro k vB bb w ⟨hk, hS⟩
  refine VC_seq ?_
  refine VC_region ?_
  refine VL_val rfl rfl rfl (yd_lss rfl rfl) ?_
  refine VL_nil ?_
  refine VE_then ?_
  refine VC_seq ?_
  refine VC_cond rfl (fun h13 => ?_) (fun h13 => ?_)
  · replace h13 := of_decide_eq_true h13
    refine VC_skip ?_
    refine VE_then ?_
    refine VC_seq ?_
    refine VC_block ?_
    refine VC_seq ?_
    refine VC_region ?_
    refine VL_val rfl rfl rfl (yd_move rfl) ?_
    refine VL_val rfl rfl rfl (yd_assign rfl) ?_
    refine VL_nil ?_
    refine VE_then ?_
    refine VC_region ?_
    refine VL_val rfl rfl rfl (yd_move rfl) ?_
    refine VL_val rfl rfl rfl (yd_move rfl) ?_
    refine VL_val rfl rfl rfl (yd_nilc rfl) ?_
    refine VL_val rfl rfl rfl (yd_field rfl T.fld89_1) ?_
    refine VL_val rfl rfl rfl (yd_load rfl T.one72 (blk_cell (hS.get 0 rfl) rfl)) ?_
    refine VL_val rfl rfl rfl (yd_move rfl) ?_
    refine VL_val rfl rfl rfl (yd_add rfl rfl ((k + 1 : Nat) : Int) (by rw [wi64 (by omega) (by omega)]; omega)) ?_
    refine VL_val rfl rfl rfl (yd_conv rfl ⟨_, Try.underlying3⟩ Try.underlying90 ((k + 1 : Nat) : Int) (by rw [wi32 (by omega) (by omega)])) ?_
    refine VL_val rfl rfl rfl (yd_move rfl) ?_
    refine VL_val rfl rfl rfl (yd_build T.st93 (vs := [(0, _), (3, _)]) rfl rfl) ?_
    refine VL_box rfl rfl rfl rfl rfl hS ?_
    clear hS; intro b25 w hS
    refine VL_rel rfl rfl rfl (yr_bslice rfl Try.underlying72 T.e82 rfl (by decide) (by decide) hS) ?_
    clear hS; rintro _ w ⟨b26, rfl, hS⟩
    refine VL_rel rfl rfl rfl (yr_append rfl rfl Try.underlying72 T.e82 rfl (by decide) hS 1 rfl (hS.res _ (List.mem_append_right _ (List.mem_singleton.2 rfl))) rfl (by intro u hu; simp [Value.cells] at hu; subst hu; rfl) (by omega) (by omega)) ?_
    clear hS; rintro v27 w ⟨hS, hnil⟩
    obtain ⟨bB, cB, rfl, hcB⟩ := row_form (hS.get 1 rfl) (.inr (by omega))
    refine VL_val rfl rfl rfl (yd_nilc rfl) ?_
    refine VL_val rfl rfl rfl (yd_field rfl T.fld89_1) ?_
    refine VL_store rfl rfl rfl rfl rfl T.one72 rfl hS 0 rfl (by simp) ?_
    clear hS; intro w hS
    have hS := f1_step (St.sub hS (.cons_cons _ (.cons_cons _ (List.sublist_append_left _ _)))) rfl rfl rfl
    refine VL_nil ?_
    refine VE_block_normal ?_
    refine VE_then ?_
    refine VC_region ?_
    refine VL_val rfl rfl rfl (yd_add rfl rfl ((k + 1 : Nat) : Int) (by rw [wi64 (by omega) (by omega)]; omega)) ?_
    refine VL_val rfl rfl rfl (yd_move rfl) ?_
    refine VL_nil ?_
    exact VE_round3 (k + 1) _ (upd bb k b25) ⟨rfl, rfl, rfl, rfl, rfl, trivial⟩ ⟨by omega, hS⟩ (by omega)
  · replace h13 := Int.not_lt.1 (of_decide_eq_false h13)
    refine VC_exit ?_
    refine VE_then_exit (VE_then_exit (VE_block_exit ?_))
    refine VE_then ?_
    refine VC_seq ?_
    refine VC_seq ?_
    refine VC_region ?_
    have hkn : k = G.length := by omega
    subst hkn
    obtain ⟨bB, cB, rfl, hcB⟩ := row_form (hS.get 1 rfl) (.inr (by have := hg.pos; omega))
    have hS := f1_nils hS
    refine VL_val rfl rfl rfl (yd_move rfl) ?_
    refine VL_val rfl rfl rfl (yd_len rfl Try.underlying22) ?_
    refine VL_val rfl rfl rfl (yd_move rfl) ?_
    refine VL_nil ?_
    refine VE_then ?_
    refine VC_block ?_
    refine VC_loop5 [2, 3, 31, 32] [_, _, _, _] rfl (fun (i : Nat) (sv : Nat → Value) (S : Nat → List Nat) (pv : Nat → Value) (Q : Nat → List Nat) => [(33, .int .i64 ((i : Nat) : Int))]) (fun (i : Nat) (sv : Nat → Value) (S : Nat → List Nat) (pv : Nat → Value) (Q : Nat → List Nat) w => i ≤ G.length ∧ NInv G i 0 S Q ∧ St w0 M0 (fη b9 (.pointer none) (.slice (some ⟨bB, 0, none⟩) G.length cB) G.length bb sv S pv Q) w) (fun (i : Nat) (sv : Nat → Value) (S : Nat → List Nat) (pv : Nat → Value) (Q : Nat → List Nat) => G.length - i) 0 _ _ _ _ ⟨rfl, trivial⟩ (⟨Nat.zero_le _, NInv.init G, hS⟩) ?_
    clear hS; rintro i sv S pv Q w ⟨hi, hN, hS⟩
    refine VC_seq ?_
    refine VC_region ?_
    refine VL_val rfl rfl rfl (yd_lss rfl rfl) ?_
    refine VL_nil ?_
    refine VE_then ?_
    refine VC_seq ?_
    refine VC_cond rfl (fun h34 => ?_) (fun h34 => ?_)
    · replace h34 := of_decide_eq_true h34
      refine VC_skip ?_
      refine VE_then ?_
      refine VC_seq ?_
      refine VC_block ?_
      refine VC_seq ?_
      refine VC_region ?_
      obtain ⟨ra, rc, rb, ro, hc, hra, hcs⟩ := hrow i (by omega)
      have hr4 := hg.row i (by omega)
      refine VL_val rfl rfl rfl (yd_move rfl) ?_
      refine VL_val rfl rfl rfl (yd_index1 rfl rfl Try.underlying22 T.sz29 (by omega)) ?_
      refine VL_val rfl rfl rfl (yd_load rfl T.one29 (hS.cell0 hc)) ?_
      refine VL_val rfl rfl rfl (yd_assign rfl) ?_
      refine VL_val rfl rfl rfl (yd_assign rfl) ?_
      refine VL_nil ?_
      refine VE_then ?_
      refine VC_seq ?_
      refine VC_region ?_
      refine VL_val rfl rfl rfl (yd_move rfl) ?_
      refine VL_val rfl rfl rfl (yd_len rfl Try.underlying29) ?_
      refine VL_val rfl rfl rfl (yd_move rfl) ?_
      refine VL_nil ?_
      refine VE_then ?_
      refine VC_block ?_
      refine VC_loop5 [2, 3, 5, 6, 31, 32, 33, 34, 35, 36, 37, 38, 39] [_, _, _, _, _, _, _, _, _, _, _, _, _] rfl (fun (j : Nat) (sv : Nat → Value) (S : Nat → List Nat) (pv : Nat → Value) (Q : Nat → List Nat) => [(40, .int .i64 ((j : Nat) : Int))]) (fun (j : Nat) (sv : Nat → Value) (S : Nat → List Nat) (pv : Nat → Value) (Q : Nat → List Nat) w => j ≤ G[i]!.length ∧ NInv G i j S Q ∧ St w0 M0 (fη b9 (.pointer none) (.slice (some ⟨bB, 0, none⟩) G.length cB) G.length bb sv S pv Q) w) (fun (j : Nat) (sv : Nat → Value) (S : Nat → List Nat) (pv : Nat → Value) (Q : Nat → List Nat) => G[i]!.length - j) 0 _ _ _ _ ⟨rfl, trivial⟩ (⟨Nat.zero_le _, hN, hS⟩) ?_
      clear hS hN S Q sv pv; rintro j sv S pv Q w ⟨hj, hN, hS⟩
      refine VC_seq ?_
      refine VC_region ?_
      refine VL_val rfl rfl rfl (yd_lss rfl rfl) ?_
      refine VL_nil ?_
      refine VE_then ?_
      refine VC_seq ?_
      refine VC_cond rfl (fun h41 => ?_) (fun h41 => ?_)
      · replace h41 := of_decide_eq_true h41
        refine VC_skip ?_
        refine VE_then ?_
        refine VC_seq ?_
        refine VC_block ?_
        refine VC_seq ?_
        refine VC_region ?_
        obtain rfl := hra (by omega)
        have hslt := hg.lt i (by omega) j (by omega)
        have hSl : (S i).length ≤ 4 := by rw [hN.sc, List.length_take]; omega
        have hQl := hN.ql G[i]![j]!
        refine VL_val rfl rfl rfl (yd_index1 rfl rfl Try.underlying29 T.sz3 (by omega)) ?_
        refine VL_val rfl rfl rfl (yd_load rfl T.one3 (hS.cell0 (hcs j (by omega)))) ?_
        refine VL_val rfl rfl rfl (yd_assign rfl) ?_
        refine VL_nil ?_
        refine VE_then ?_
        refine VC_seq ?_
        refine VC_drawS (BC b9 bB G.length cB bb) T.mixed hS ?_
        clear hS; intro w hS
        refine VA_take (i := 0) rfl rfl rfl rfl (by kernel_rfl) (by kernel_rfl) (by kernel_rfl) #[true, false, false, false, false, false, false, false, false, false, false, false, false, false, false, false, false, false, false, false, false, false, false, false, false, false, false, false, false, false] (by kernel_rfl) (fun _ _ _ _ h => h) (fun w hC => yd_move rfl) ?_
        refine VA_take (i := 1) rfl rfl rfl rfl (by kernel_rfl) (by kernel_rfl) (by kernel_rfl) #[true, true, false, false, false, false, false, false, false, false, false, false, false, false, false, false, false, false, false, false, false, false, false, false, false, false, false, false, false, false] (by kernel_rfl) (fun _ _ _ _ h => h) (fun w hC => yd_nilc rfl) ?_
        refine VA_take (i := 2) rfl rfl rfl rfl (by kernel_rfl) (by kernel_rfl) (by kernel_rfl) #[true, true, true, false, false, false, false, false, false, false, false, false, false, false, false, false, false, false, false, false, false, false, false, false, false, false, false, false, false, false] (by kernel_rfl) (fun _ _ _ _ h => h) (fun w hC => yd_field rfl T.fld89_1) ?_
        refine VA_take (i := 3) rfl rfl rfl rfl (by kernel_rfl) (by kernel_rfl) (by kernel_rfl) #[true, true, true, true, false, false, false, false, false, false, false, false, false, false, false, false, false, false, false, false, false, false, false, false, false, false, false, false, false, false] (by kernel_rfl) (fun _ _ _ _ h => h) (fun w hC => yd_load rfl T.one72 hC.1) ?_
        refine VA_take (i := 4) rfl rfl rfl rfl (by kernel_rfl) (by kernel_rfl) (by kernel_rfl) #[true, true, true, true, true, false, false, false, false, false, false, false, false, false, false, false, false, false, false, false, false, false, false, false, false, false, false, false, false, false] (by kernel_rfl) (fun _ _ _ _ h => h) (fun w hC => yd_move rfl) ?_
        refine VA_take (i := 5) rfl rfl rfl rfl (by kernel_rfl) (by kernel_rfl) (by kernel_rfl) #[true, true, true, true, true, true, false, false, false, false, false, false, false, false, false, false, false, false, false, false, false, false, false, false, false, false, false, false, false, false] (by kernel_rfl) (fun _ _ _ _ h => h) (fun w hC => yd_index0 rfl rfl Try.underlying72 T.sz82 (by omega)) ?_
        refine VA_take (i := 6) rfl rfl rfl rfl (by kernel_rfl) (by kernel_rfl) (by kernel_rfl) #[true, true, true, true, true, true, true, false, false, false, false, false, false, false, false, false, false, false, false, false, false, false, false, false, false, false, false, false, false, false] (by kernel_rfl) (fun _ _ _ _ h => h) (fun w hC => yd_load rfl T.one82 (hC.2 i (by omega))) ?_
        refine VA_take (i := 7) rfl rfl rfl rfl (by kernel_rfl) (by kernel_rfl) (by kernel_rfl) #[true, true, true, true, true, true, true, true, false, false, false, false, false, false, false, false, false, false, false, false, false, false, false, false, false, false, false, false, false, false] (by kernel_rfl) (fun _ _ _ _ h => h) (fun w hC => yd_move rfl) ?_
        refine VA_take (i := 8) rfl rfl rfl rfl (by kernel_rfl) (by kernel_rfl) (by kernel_rfl) #[true, true, true, true, true, true, true, true, true, false, false, false, false, false, false, false, false, false, false, false, false, false, false, false, false, false, false, false, false, false] (by kernel_rfl) (fun _ _ _ _ h => h) (fun w hC => yd_nilc rfl) ?_
        refine VA_take (i := 9) rfl rfl rfl rfl (by kernel_rfl) (by kernel_rfl) (by kernel_rfl) #[true, true, true, true, true, true, true, true, true, true, false, false, false, false, false, false, false, false, false, false, false, false, false, false, false, false, false, false, false, false] (by kernel_rfl) (fun _ _ _ _ h => h) (fun w hC => yd_field rfl T.fld89_1) ?_
        refine VA_take (i := 10) rfl rfl rfl rfl (by kernel_rfl) (by kernel_rfl) (by kernel_rfl) #[true, true, true, true, true, true, true, true, true, true, true, false, false, false, false, false, false, false, false, false, false, false, false, false, false, false, false, false, false, false] (by kernel_rfl) (fun _ _ _ _ h => h) (fun w hC => yd_load rfl T.one72 hC.1) ?_
        refine VA_take (i := 11) rfl rfl rfl rfl (by kernel_rfl) (by kernel_rfl) (by kernel_rfl) #[true, true, true, true, true, true, true, true, true, true, true, true, false, false, false, false, false, false, false, false, false, false, false, false, false, false, false, false, false, false] (by kernel_rfl) (fun _ _ _ _ h => h) (fun w hC => yd_move rfl) ?_
        refine VA_take (i := 12) rfl rfl rfl rfl (by kernel_rfl) (by kernel_rfl) (by kernel_rfl) #[true, true, true, true, true, true, true, true, true, true, true, true, true, false, false, false, false, false, false, false, false, false, false, false, false, false, false, false, false, false] (by kernel_rfl) (fun _ _ _ _ h => h) (fun w hC => yd_index0 rfl rfl Try.underlying72 T.sz82 (by omega)) ?_
        refine VA_take (i := 13) rfl rfl rfl rfl (by kernel_rfl) (by kernel_rfl) (by kernel_rfl) #[true, true, true, true, true, true, true, true, true, true, true, true, true, true, false, false, false, false, false, false, false, false, false, false, false, false, false, false, false, false] (by kernel_rfl) (fun _ _ _ _ h => h) (fun w hC => yd_load rfl T.one82 (hC.2 i (by omega))) ?_
        refine VA_take (i := 14) rfl rfl rfl rfl (by kernel_rfl) (by kernel_rfl) (by kernel_rfl) #[true, true, true, true, true, true, true, true, true, true, true, true, true, true, true, false, false, false, false, false, false, false, false, false, false, false, false, false, false, false] (by kernel_rfl) (fun _ _ _ _ h => h) (fun w hC => yd_nilc rfl) ?_
        refine VA_take (i := 15) rfl rfl rfl rfl (by kernel_rfl) (by kernel_rfl) (by kernel_rfl) #[true, true, true, true, true, true, true, true, true, true, true, true, true, true, true, true, false, false, false, false, false, false, false, false, false, false, false, false, false, false] (by kernel_rfl) (fun _ _ _ _ h => h) (fun w hC => yd_field rfl T.fld93_1) ?_
        refine VA_take (i := 17) rfl rfl rfl rfl (by kernel_rfl) (by kernel_rfl) (by kernel_rfl) #[true, true, true, true, true, true, true, true, true, true, true, true, true, true, true, true, false, true, false, false, false, false, false, false, false, false, false, false, false, false] (by kernel_rfl) (fun _ _ _ _ h => h) (fun w hC => yd_move rfl) ?_
        refine VA_take (i := 18) rfl rfl rfl rfl (by kernel_rfl) (by kernel_rfl) (by kernel_rfl) #[true, true, true, true, true, true, true, true, true, true, true, true, true, true, true, true, false, true, true, false, false, false, false, false, false, false, false, false, false, false] (by kernel_rfl) (fun _ _ _ _ h => h) (fun w hC => yd_nilc rfl) ?_
        refine VA_take (i := 19) rfl rfl rfl rfl (by kernel_rfl) (by kernel_rfl) (by kernel_rfl) #[true, true, true, true, true, true, true, true, true, true, true, true, true, true, true, true, false, true, true, true, false, false, false, false, false, false, false, false, false, false] (by kernel_rfl) (fun _ _ _ _ h => h) (fun w hC => yd_field rfl T.fld89_1) ?_
        refine VA_take (i := 20) rfl rfl rfl rfl (by kernel_rfl) (by kernel_rfl) (by kernel_rfl) #[true, true, true, true, true, true, true, true, true, true, true, true, true, true, true, true, false, true, true, true, true, false, false, false, false, false, false, false, false, false] (by kernel_rfl) (fun _ _ _ _ h => h) (fun w hC => yd_load rfl T.one72 hC.1) ?_
        refine VA_take (i := 21) rfl rfl rfl rfl (by kernel_rfl) (by kernel_rfl) (by kernel_rfl) #[true, true, true, true, true, true, true, true, true, true, true, true, true, true, true, true, false, true, true, true, true, true, false, false, false, false, false, false, false, false] (by kernel_rfl) (fun _ _ _ _ h => h) (fun w hC => yd_move rfl) ?_
        refine VA_take (i := 22) rfl rfl rfl rfl (by kernel_rfl) (by kernel_rfl) (by kernel_rfl) #[true, true, true, true, true, true, true, true, true, true, true, true, true, true, true, true, false, true, true, true, true, true, true, false, false, false, false, false, false, false] (by kernel_rfl) (fun _ _ _ _ h => h) (fun w hC => yd_index0 rfl rfl Try.underlying72 T.sz82 (by omega)) ?_
        refine VA_take (i := 23) rfl rfl rfl rfl (by kernel_rfl) (by kernel_rfl) (by kernel_rfl) #[true, true, true, true, true, true, true, true, true, true, true, true, true, true, true, true, false, true, true, true, true, true, true, true, false, false, false, false, false, false] (by kernel_rfl) (fun _ _ _ _ h => h) (fun w hC => yd_load rfl T.one82 (hC.2 _ hslt)) ?_
        refine VA_take (i := 24) rfl rfl rfl rfl (by kernel_rfl) (by kernel_rfl) (by kernel_rfl) #[true, true, true, true, true, true, true, true, true, true, true, true, true, true, true, true, false, true, true, true, true, true, true, true, true, false, false, false, false, false] (by kernel_rfl) (fun _ _ _ _ h => h) (fun w hC => yd_build T.st96 (vs := [(0, _)]) rfl rfl) ?_
        refine VA_two (i := 16) (j := 25) (by kernel_rfl) (bc_of (b1 := 0) (hS.get 0 rfl) (hS.get 1 rfl)) ?_ ?_
        · skip
          refine VS_val rfl (wanted_none rfl) #[true, true, true, true, true, true, true, true, true, true, true, true, true, true, true, true, true, true, true, true, true, true, true, true, true, false, false, false, false, false] (by kernel_rfl) rfl rfl (yd_load rfl T.one91 (blk_cell (hS.res (fB b9 bb sv pv i) (by first | exact List.mem_of_getElem? (fη_B (by omega)) | exact fη_memB (by omega) _)) rfl)) ?_
          refine VA_only (i := 25) (by kernel_rfl) (bc_of (b1 := 0) (hS.get 0 rfl) (hS.get 1 rfl)) ?_
          refine VS_rel rfl (wanted_none rfl) #[true, true, true, true, true, true, true, true, true, true, true, true, true, true, true, true, true, true, true, true, true, true, true, true, true, true, false, false, false, false] (by kernel_rfl) rfl rfl (yr_bslice rfl Try.underlying91 T.e96 rfl (by decide) (by decide) hS) ?_
          clear hS; rintro _ w ⟨b69, rfl, hS⟩
          refine VA_only (i := 26) (by kernel_rfl) (bc_of (b1 := 0) (hS.get 0 rfl) (hS.get 1 rfl)) ?_
          refine VS_rel rfl (wanted_none rfl) #[true, true, true, true, true, true, true, true, true, true, true, true, true, true, true, true, true, true, true, true, true, true, true, true, true, true, true, false, false, false] (by kernel_rfl) rfl rfl (yr_append rfl rfl Try.underlying91 T.e96 rfl (by decide) hS (i + G.length + 2) (fη_S' (by omega) _) (hS.res _ (List.mem_append_right _ (List.mem_singleton.2 rfl))) rfl (fun u hu => by cases List.mem_singleton.1 (show u ∈ [ptr (bb G[i]![j]!)] from hu); rfl) (by omega) (by omega)) ?_
          clear hS; rintro v70 w ⟨hS, hnil⟩
          obtain ⟨b70, c70, rfl, hc70⟩ := row_form (hS.get (i + G.length + 2) (by rw [List.getElem?_set_self (fη_lt _ (by omega))])) (.inr (by omega))
          refine VA_take (i := 27) rfl rfl rfl rfl (by kernel_rfl) (by kernel_rfl) (by kernel_rfl) #[true, true, true, true, true, true, true, true, true, true, true, true, true, true, true, true, true, true, true, true, true, true, true, true, true, true, true, true, false, false] (by kernel_rfl) (fun _ _ _ _ h => h) (fun w hC => yd_nilc rfl) ?_
          refine VA_take (i := 28) rfl rfl rfl rfl (by kernel_rfl) (by kernel_rfl) (by kernel_rfl) #[true, true, true, true, true, true, true, true, true, true, true, true, true, true, true, true, true, true, true, true, true, true, true, true, true, true, true, true, true, false] (by kernel_rfl) (fun _ _ _ _ h => h) (fun w hC => yd_field rfl T.fld93_1) ?_
          refine VA_only (i := 29) (by kernel_rfl) (bc_of (b1 := 0) (hS.get 0 rfl) (hS.get 1 rfl)) ?_
          refine VS_store rfl (wanted_none rfl) #[true, true, true, true, true, true, true, true, true, true, true, true, true, true, true, true, true, true, true, true, true, true, true, true, true, true, true, true, true, true] (by kernel_rfl) rfl rfl rfl rfl T.one91 rfl hS (i + 2) (fη_BS (by omega) _ _ i) (by simp) ?_
          clear hS; intro w hS
          have hS := fη_finS (by omega) rfl hS
          refine VA_done (by kernel_rfl) (bc_of (b1 := 0) (hS.get 0 rfl) (hS.get 1 rfl)) ?_
          refine VE_then ?_
          refine VC_drawS (BC b9 bB G.length cB bb) T.mixed hS ?_
          clear hS; intro w hS
          refine VA_take (i := 0) rfl rfl rfl rfl (by kernel_rfl) (by kernel_rfl) (by kernel_rfl) #[true, false, false, false, false, false, false, false, false, false, false, false, false, false, false, false, false, false, false, false, false, false, false, false, false, false, false, false, false, false] (by kernel_rfl) (fun _ _ _ _ h => h) (fun w hC => yd_move rfl) ?_
          refine VA_take (i := 1) rfl rfl rfl rfl (by kernel_rfl) (by kernel_rfl) (by kernel_rfl) #[true, true, false, false, false, false, false, false, false, false, false, false, false, false, false, false, false, false, false, false, false, false, false, false, false, false, false, false, false, false] (by kernel_rfl) (fun _ _ _ _ h => h) (fun w hC => yd_nilc rfl) ?_
          refine VA_take (i := 2) rfl rfl rfl rfl (by kernel_rfl) (by kernel_rfl) (by kernel_rfl) #[true, true, true, false, false, false, false, false, false, false, false, false, false, false, false, false, false, false, false, false, false, false, false, false, false, false, false, false, false, false] (by kernel_rfl) (fun _ _ _ _ h => h) (fun w hC => yd_field rfl T.fld89_1) ?_
          refine VA_take (i := 3) rfl rfl rfl rfl (by kernel_rfl) (by kernel_rfl) (by kernel_rfl) #[true, true, true, true, false, false, false, false, false, false, false, false, false, false, false, false, false, false, false, false, false, false, false, false, false, false, false, false, false, false] (by kernel_rfl) (fun _ _ _ _ h => h) (fun w hC => yd_load rfl T.one72 hC.1) ?_
          refine VA_take (i := 4) rfl rfl rfl rfl (by kernel_rfl) (by kernel_rfl) (by kernel_rfl) #[true, true, true, true, true, false, false, false, false, false, false, false, false, false, false, false, false, false, false, false, false, false, false, false, false, false, false, false, false, false] (by kernel_rfl) (fun _ _ _ _ h => h) (fun w hC => yd_move rfl) ?_
          refine VA_take (i := 5) rfl rfl rfl rfl (by kernel_rfl) (by kernel_rfl) (by kernel_rfl) #[true, true, true, true, true, true, false, false, false, false, false, false, false, false, false, false, false, false, false, false, false, false, false, false, false, false, false, false, false, false] (by kernel_rfl) (fun _ _ _ _ h => h) (fun w hC => yd_index0 rfl rfl Try.underlying72 T.sz82 (by omega)) ?_
          refine VA_take (i := 6) rfl rfl rfl rfl (by kernel_rfl) (by kernel_rfl) (by kernel_rfl) #[true, true, true, true, true, true, true, false, false, false, false, false, false, false, false, false, false, false, false, false, false, false, false, false, false, false, false, false, false, false] (by kernel_rfl) (fun _ _ _ _ h => h) (fun w hC => yd_load rfl T.one82 (hC.2 _ hslt)) ?_
          refine VA_take (i := 7) rfl rfl rfl rfl (by kernel_rfl) (by kernel_rfl) (by kernel_rfl) #[true, true, true, true, true, true, true, true, false, false, false, false, false, false, false, false, false, false, false, false, false, false, false, false, false, false, false, false, false, false] (by kernel_rfl) (fun _ _ _ _ h => h) (fun w hC => yd_move rfl) ?_
          refine VA_take (i := 8) rfl rfl rfl rfl (by kernel_rfl) (by kernel_rfl) (by kernel_rfl) #[true, true, true, true, true, true, true, true, true, false, false, false, false, false, false, false, false, false, false, false, false, false, false, false, false, false, false, false, false, false] (by kernel_rfl) (fun _ _ _ _ h => h) (fun w hC => yd_nilc rfl) ?_
          refine VA_take (i := 9) rfl rfl rfl rfl (by kernel_rfl) (by kernel_rfl) (by kernel_rfl) #[true, true, true, true, true, true, true, true, true, true, false, false, false, false, false, false, false, false, false, false, false, false, false, false, false, false, false, false, false, false] (by kernel_rfl) (fun _ _ _ _ h => h) (fun w hC => yd_field rfl T.fld89_1) ?_
          refine VA_take (i := 10) rfl rfl rfl rfl (by kernel_rfl) (by kernel_rfl) (by kernel_rfl) #[true, true, true, true, true, true, true, true, true, true, true, false, false, false, false, false, false, false, false, false, false, false, false, false, false, false, false, false, false, false] (by kernel_rfl) (fun _ _ _ _ h => h) (fun w hC => yd_load rfl T.one72 hC.1) ?_
          refine VA_take (i := 11) rfl rfl rfl rfl (by kernel_rfl) (by kernel_rfl) (by kernel_rfl) #[true, true, true, true, true, true, true, true, true, true, true, true, false, false, false, false, false, false, false, false, false, false, false, false, false, false, false, false, false, false] (by kernel_rfl) (fun _ _ _ _ h => h) (fun w hC => yd_move rfl) ?_
          refine VA_take (i := 12) rfl rfl rfl rfl (by kernel_rfl) (by kernel_rfl) (by kernel_rfl) #[true, true, true, true, true, true, true, true, true, true, true, true, true, false, false, false, false, false, false, false, false, false, false, false, false, false, false, false, false, false] (by kernel_rfl) (fun _ _ _ _ h => h) (fun w hC => yd_index0 rfl rfl Try.underlying72 T.sz82 (by omega)) ?_
          refine VA_take (i := 13) rfl rfl rfl rfl (by kernel_rfl) (by kernel_rfl) (by kernel_rfl) #[true, true, true, true, true, true, true, true, true, true, true, true, true, true, false, false, false, false, false, false, false, false, false, false, false, false, false, false, false, false] (by kernel_rfl) (fun _ _ _ _ h => h) (fun w hC => yd_load rfl T.one82 (hC.2 _ hslt)) ?_
          refine VA_take (i := 14) rfl rfl rfl rfl (by kernel_rfl) (by kernel_rfl) (by kernel_rfl) #[true, true, true, true, true, true, true, true, true, true, true, true, true, true, true, false, false, false, false, false, false, false, false, false, false, false, false, false, false, false] (by kernel_rfl) (fun _ _ _ _ h => h) (fun w hC => yd_nilc rfl) ?_
          refine VA_take (i := 15) rfl rfl rfl rfl (by kernel_rfl) (by kernel_rfl) (by kernel_rfl) #[true, true, true, true, true, true, true, true, true, true, true, true, true, true, true, true, false, false, false, false, false, false, false, false, false, false, false, false, false, false] (by kernel_rfl) (fun _ _ _ _ h => h) (fun w hC => yd_field rfl T.fld93_2) ?_
          refine VA_take (i := 17) rfl rfl rfl rfl (by kernel_rfl) (by kernel_rfl) (by kernel_rfl) #[true, true, true, true, true, true, true, true, true, true, true, true, true, true, true, true, false, true, false, false, false, false, false, false, false, false, false, false, false, false] (by kernel_rfl) (fun _ _ _ _ h => h) (fun w hC => yd_move rfl) ?_
          refine VA_take (i := 18) rfl rfl rfl rfl (by kernel_rfl) (by kernel_rfl) (by kernel_rfl) #[true, true, true, true, true, true, true, true, true, true, true, true, true, true, true, true, false, true, true, false, false, false, false, false, false, false, false, false, false, false] (by kernel_rfl) (fun _ _ _ _ h => h) (fun w hC => yd_nilc rfl) ?_
          refine VA_take (i := 19) rfl rfl rfl rfl (by kernel_rfl) (by kernel_rfl) (by kernel_rfl) #[true, true, true, true, true, true, true, true, true, true, true, true, true, true, true, true, false, true, true, true, false, false, false, false, false, false, false, false, false, false] (by kernel_rfl) (fun _ _ _ _ h => h) (fun w hC => yd_field rfl T.fld89_1) ?_
          refine VA_take (i := 20) rfl rfl rfl rfl (by kernel_rfl) (by kernel_rfl) (by kernel_rfl) #[true, true, true, true, true, true, true, true, true, true, true, true, true, true, true, true, false, true, true, true, true, false, false, false, false, false, false, false, false, false] (by kernel_rfl) (fun _ _ _ _ h => h) (fun w hC => yd_load rfl T.one72 hC.1) ?_
          refine VA_take (i := 21) rfl rfl rfl rfl (by kernel_rfl) (by kernel_rfl) (by kernel_rfl) #[true, true, true, true, true, true, true, true, true, true, true, true, true, true, true, true, false, true, true, true, true, true, false, false, false, false, false, false, false, false] (by kernel_rfl) (fun _ _ _ _ h => h) (fun w hC => yd_move rfl) ?_
          refine VA_take (i := 22) rfl rfl rfl rfl (by kernel_rfl) (by kernel_rfl) (by kernel_rfl) #[true, true, true, true, true, true, true, true, true, true, true, true, true, true, true, true, false, true, true, true, true, true, true, false, false, false, false, false, false, false] (by kernel_rfl) (fun _ _ _ _ h => h) (fun w hC => yd_index0 rfl rfl Try.underlying72 T.sz82 (by omega)) ?_
          refine VA_take (i := 23) rfl rfl rfl rfl (by kernel_rfl) (by kernel_rfl) (by kernel_rfl) #[true, true, true, true, true, true, true, true, true, true, true, true, true, true, true, true, false, true, true, true, true, true, true, true, false, false, false, false, false, false] (by kernel_rfl) (fun _ _ _ _ h => h) (fun w hC => yd_load rfl T.one82 (hC.2 i (by omega))) ?_
          refine VA_take (i := 24) rfl rfl rfl rfl (by kernel_rfl) (by kernel_rfl) (by kernel_rfl) #[true, true, true, true, true, true, true, true, true, true, true, true, true, true, true, true, false, true, true, true, true, true, true, true, true, false, false, false, false, false] (by kernel_rfl) (fun _ _ _ _ h => h) (fun w hC => yd_build T.st96 (vs := [(0, _)]) rfl rfl) ?_
          refine VA_two (i := 16) (j := 25) (by kernel_rfl) (bc_of (b1 := 0) (hS.get 0 rfl) (hS.get 1 rfl)) ?_ ?_
          · skip
            refine VS_val rfl (wanted_none rfl) #[true, true, true, true, true, true, true, true, true, true, true, true, true, true, true, true, true, true, true, true, true, true, true, true, true, false, false, false, false, false] (by kernel_rfl) rfl rfl (yd_load rfl T.one91 (blk_cell (hS.res (fB b9 bb _ pv G[i]![j]!) (by first | exact List.mem_of_getElem? (fη_B hslt) | exact fη_memB hslt _)) rfl)) ?_
            refine VA_only (i := 25) (by kernel_rfl) (bc_of (b1 := 0) (hS.get 0 rfl) (hS.get 1 rfl)) ?_
            refine VS_rel rfl (wanted_none rfl) #[true, true, true, true, true, true, true, true, true, true, true, true, true, true, true, true, true, true, true, true, true, true, true, true, true, true, false, false, false, false] (by kernel_rfl) rfl rfl (yr_bslice rfl Try.underlying91 T.e96 rfl (by decide) (by decide) hS) ?_
            clear hS; rintro _ w ⟨b98, rfl, hS⟩
            refine VA_only (i := 26) (by kernel_rfl) (bc_of (b1 := 0) (hS.get 0 rfl) (hS.get 1 rfl)) ?_
            refine VS_rel rfl (wanted_none rfl) #[true, true, true, true, true, true, true, true, true, true, true, true, true, true, true, true, true, true, true, true, true, true, true, true, true, true, true, false, false, false] (by kernel_rfl) rfl rfl (yr_append rfl rfl Try.underlying91 T.e96 rfl (by decide) hS (G[i]![j]! + G.length + G.length + 2) (fη_P' hslt _) (hS.res _ (List.mem_append_right _ (List.mem_singleton.2 rfl))) rfl (fun u hu => by cases List.mem_singleton.1 (show u ∈ [ptr (bb i)] from hu); rfl) (by omega) (by omega)) ?_
            clear hS; rintro v99 w ⟨hS, hnil⟩
            obtain ⟨b99, c99, rfl, hc99⟩ := row_form (hS.get (G[i]![j]! + G.length + G.length + 2) (by rw [List.getElem?_set_self (fη_lt _ (by omega))])) (.inr (by omega))
            refine VA_take (i := 27) rfl rfl rfl rfl (by kernel_rfl) (by kernel_rfl) (by kernel_rfl) #[true, true, true, true, true, true, true, true, true, true, true, true, true, true, true, true, true, true, true, true, true, true, true, true, true, true, true, true, false, false] (by kernel_rfl) (fun _ _ _ _ h => h) (fun w hC => yd_nilc rfl) ?_
            refine VA_take (i := 28) rfl rfl rfl rfl (by kernel_rfl) (by kernel_rfl) (by kernel_rfl) #[true, true, true, true, true, true, true, true, true, true, true, true, true, true, true, true, true, true, true, true, true, true, true, true, true, true, true, true, true, false] (by kernel_rfl) (fun _ _ _ _ h => h) (fun w hC => yd_field rfl T.fld93_2) ?_
            refine VA_only (i := 29) (by kernel_rfl) (bc_of (b1 := 0) (hS.get 0 rfl) (hS.get 1 rfl)) ?_
            refine VS_store rfl (wanted_none rfl) #[true, true, true, true, true, true, true, true, true, true, true, true, true, true, true, true, true, true, true, true, true, true, true, true, true, true, true, true, true, true] (by kernel_rfl) rfl rfl rfl rfl T.one91 rfl hS (G[i]![j]! + 2) (fη_BS hslt _ _ (G[i]![j]! + G.length)) (by simp) ?_
            clear hS; intro w hS
            have hS := fη_finP hslt rfl hS
            refine VA_done (by kernel_rfl) (bc_of (b1 := 0) (hS.get 0 rfl) (hS.get 1 rfl)) ?_
            refine VE_block_normal ?_
            refine VE_then ?_
            refine VC_region ?_
            refine VL_val rfl rfl rfl (yd_add rfl rfl ((j + 1 : Nat) : Int) (by rw [wi64 (by omega) (by omega)]; omega)) ?_
            refine VL_val rfl rfl rfl (yd_move rfl) ?_
            refine VL_nil ?_
            exact VE_round5 (j + 1) _ _ _ _ ⟨rfl, rfl, rfl, rfl, rfl, rfl, rfl, rfl, rfl, rfl, rfl, rfl, rfl, rfl, trivial⟩ ⟨by omega, hN.step (by omega) (by omega), hS⟩ (by omega)
          · skip
            refine VS_rel rfl (wanted_none rfl) #[true, true, true, true, true, true, true, true, true, true, true, true, true, true, true, true, false, true, true, true, true, true, true, true, true, true, false, false, false, false] (by kernel_rfl) rfl rfl (yr_bslice rfl Try.underlying91 T.e96 rfl (by decide) (by decide) hS) ?_
            clear hS; rintro _ w ⟨b98, rfl, hS⟩
            refine VA_only (i := 16) (by kernel_rfl) (bc_of (b1 := 0) (hS.get 0 rfl) (hS.get 1 rfl)) ?_
            refine VS_val rfl (wanted_none rfl) #[true, true, true, true, true, true, true, true, true, true, true, true, true, true, true, true, true, true, true, true, true, true, true, true, true, true, false, false, false, false] (by kernel_rfl) rfl rfl (yd_load rfl T.one91 (blk_cell (hS.res (fB b9 bb _ pv G[i]![j]!) (by first | exact List.mem_of_getElem? (fη_B hslt) | exact fη_memB hslt _)) rfl)) ?_
            refine VA_only (i := 26) (by kernel_rfl) (bc_of (b1 := 0) (hS.get 0 rfl) (hS.get 1 rfl)) ?_
            refine VS_rel rfl (wanted_none rfl) #[true, true, true, true, true, true, true, true, true, true, true, true, true, true, true, true, true, true, true, true, true, true, true, true, true, true, true, false, false, false] (by kernel_rfl) rfl rfl (yr_append rfl rfl Try.underlying91 T.e96 rfl (by decide) hS (G[i]![j]! + G.length + G.length + 2) (fη_P' hslt _) (hS.res _ (List.mem_append_right _ (List.mem_singleton.2 rfl))) rfl (fun u hu => by cases List.mem_singleton.1 (show u ∈ [ptr (bb i)] from hu); rfl) (by omega) (by omega)) ?_
            clear hS; rintro v99 w ⟨hS, hnil⟩
            obtain ⟨b99, c99, rfl, hc99⟩ := row_form (hS.get (G[i]![j]! + G.length + G.length + 2) (by rw [List.getElem?_set_self (fη_lt _ (by omega))])) (.inr (by omega))
            refine VA_take (i := 27) rfl rfl rfl rfl (by kernel_rfl) (by kernel_rfl) (by kernel_rfl) #[true, true, true, true, true, true, true, true, true, true, true, true, true, true, true, true, true, true, true, true, true, true, true, true, true, true, true, true, false, false] (by kernel_rfl) (fun _ _ _ _ h => h) (fun w hC => yd_nilc rfl) ?_
            refine VA_take (i := 28) rfl rfl rfl rfl (by kernel_rfl) (by kernel_rfl) (by kernel_rfl) #[true, true, true, true, true, true, true, true, true, true, true, true, true, true, true, true, true, true, true, true, true, true, true, true, true, true, true, true, true, false] (by kernel_rfl) (fun _ _ _ _ h => h) (fun w hC => yd_field rfl T.fld93_2) ?_
            refine VA_only (i := 29) (by kernel_rfl) (bc_of (b1 := 0) (hS.get 0 rfl) (hS.get 1 rfl)) ?_
            refine VS_store rfl (wanted_none rfl) #[true, true, true, true, true, true, true, true, true, true, true, true, true, true, true, true, true, true, true, true, true, true, true, true, true, true, true, true, true, true] (by kernel_rfl) rfl rfl rfl rfl T.one91 rfl hS (G[i]![j]! + 2) (fη_BS hslt _ _ (G[i]![j]! + G.length)) (by simp) ?_
            clear hS; intro w hS
            have hS := fη_finP hslt rfl hS
            refine VA_done (by kernel_rfl) (bc_of (b1 := 0) (hS.get 0 rfl) (hS.get 1 rfl)) ?_
            refine VE_block_normal ?_
            refine VE_then ?_
            refine VC_region ?_
            refine VL_val rfl rfl rfl (yd_add rfl rfl ((j + 1 : Nat) : Int) (by rw [wi64 (by omega) (by omega)]; omega)) ?_
            refine VL_val rfl rfl rfl (yd_move rfl) ?_
            refine VL_nil ?_
            exact VE_round5 (j + 1) _ _ _ _ ⟨rfl, rfl, rfl, rfl, rfl, rfl, rfl, rfl, rfl, rfl, rfl, rfl, rfl, rfl, trivial⟩ ⟨by omega, hN.step (by omega) (by omega), hS⟩ (by omega)
        · skip
          refine VS_rel rfl (wanted_none rfl) #[true, true, true, true, true, true, true, true, true, true, true, true, true, true, true, true, false, true, true, true, true, true, true, true, true, true, false, false, false, false] (by kernel_rfl) rfl rfl (yr_bslice rfl Try.underlying91 T.e96 rfl (by decide) (by decide) hS) ?_
          clear hS; rintro _ w ⟨b69, rfl, hS⟩
          refine VA_only (i := 16) (by kernel_rfl) (bc_of (b1 := 0) (hS.get 0 rfl) (hS.get 1 rfl)) ?_
          refine VS_val rfl (wanted_none rfl) #[true, true, true, true, true, true, true, true, true, true, true, true, true, true, true, true, true, true, true, true, true, true, true, true, true, true, false, false, false, false] (by kernel_rfl) rfl rfl (yd_load rfl T.one91 (blk_cell (hS.res (fB b9 bb sv pv i) (by first | exact List.mem_of_getElem? (fη_B (by omega)) | exact fη_memB (by omega) _)) rfl)) ?_
          refine VA_only (i := 26) (by kernel_rfl) (bc_of (b1 := 0) (hS.get 0 rfl) (hS.get 1 rfl)) ?_
          refine VS_rel rfl (wanted_none rfl) #[true, true, true, true, true, true, true, true, true, true, true, true, true, true, true, true, true, true, true, true, true, true, true, true, true, true, true, false, false, false] (by kernel_rfl) rfl rfl (yr_append rfl rfl Try.underlying91 T.e96 rfl (by decide) hS (i + G.length + 2) (fη_S' (by omega) _) (hS.res _ (List.mem_append_right _ (List.mem_singleton.2 rfl))) rfl (fun u hu => by cases List.mem_singleton.1 (show u ∈ [ptr (bb G[i]![j]!)] from hu); rfl) (by omega) (by omega)) ?_
          clear hS; rintro v70 w ⟨hS, hnil⟩
          obtain ⟨b70, c70, rfl, hc70⟩ := row_form (hS.get (i + G.length + 2) (by rw [List.getElem?_set_self (fη_lt _ (by omega))])) (.inr (by omega))
          refine VA_take (i := 27) rfl rfl rfl rfl (by kernel_rfl) (by kernel_rfl) (by kernel_rfl) #[true, true, true, true, true, true, true, true, true, true, true, true, true, true, true, true, true, true, true, true, true, true, true, true, true, true, true, true, false, false] (by kernel_rfl) (fun _ _ _ _ h => h) (fun w hC => yd_nilc rfl) ?_
          refine VA_take (i := 28) rfl rfl rfl rfl (by kernel_rfl) (by kernel_rfl) (by kernel_rfl) #[true, true, true, true, true, true, true, true, true, true, true, true, true, true, true, true, true, true, true, true, true, true, true, true, true, true, true, true, true, false] (by kernel_rfl) (fun _ _ _ _ h => h) (fun w hC => yd_field rfl T.fld93_1) ?_
          refine VA_only (i := 29) (by kernel_rfl) (bc_of (b1 := 0) (hS.get 0 rfl) (hS.get 1 rfl)) ?_
          refine VS_store rfl (wanted_none rfl) #[true, true, true, true, true, true, true, true, true, true, true, true, true, true, true, true, true, true, true, true, true, true, true, true, true, true, true, true, true, true] (by kernel_rfl) rfl rfl rfl rfl T.one91 rfl hS (i + 2) (fη_BS (by omega) _ _ i) (by simp) ?_
          clear hS; intro w hS
          have hS := fη_finS (by omega) rfl hS
          refine VA_done (by kernel_rfl) (bc_of (b1 := 0) (hS.get 0 rfl) (hS.get 1 rfl)) ?_
          refine VE_then ?_
          refine VC_drawS (BC b9 bB G.length cB bb) T.mixed hS ?_
          clear hS; intro w hS
          refine VA_take (i := 0) rfl rfl rfl rfl (by kernel_rfl) (by kernel_rfl) (by kernel_rfl) #[true, false, false, false, false, false, false, false, false, false, false, false, false, false, false, false, false, false, false, false, false, false, false, false, false, false, false, false, false, false] (by kernel_rfl) (fun _ _ _ _ h => h) (fun w hC => yd_move rfl) ?_
          refine VA_take (i := 1) rfl rfl rfl rfl (by kernel_rfl) (by kernel_rfl) (by kernel_rfl) #[true, true, false, false, false, false, false, false, false, false, false, false, false, false, false, false, false, false, false, false, false, false, false, false, false, false, false, false, false, false] (by kernel_rfl) (fun _ _ _ _ h => h) (fun w hC => yd_nilc rfl) ?_
          refine VA_take (i := 2) rfl rfl rfl rfl (by kernel_rfl) (by kernel_rfl) (by kernel_rfl) #[true, true, true, false, false, false, false, false, false, false, false, false, false, false, false, false, false, false, false, false, false, false, false, false, false, false, false, false, false, false] (by kernel_rfl) (fun _ _ _ _ h => h) (fun w hC => yd_field rfl T.fld89_1) ?_
          refine VA_take (i := 3) rfl rfl rfl rfl (by kernel_rfl) (by kernel_rfl) (by kernel_rfl) #[true, true, true, true, false, false, false, false, false, false, false, false, false, false, false, false, false, false, false, false, false, false, false, false, false, false, false, false, false, false] (by kernel_rfl) (fun _ _ _ _ h => h) (fun w hC => yd_load rfl T.one72 hC.1) ?_
          refine VA_take (i := 4) rfl rfl rfl rfl (by kernel_rfl) (by kernel_rfl) (by kernel_rfl) #[true, true, true, true, true, false, false, false, false, false, false, false, false, false, false, false, false, false, false, false, false, false, false, false, false, false, false, false, false, false] (by kernel_rfl) (fun _ _ _ _ h => h) (fun w hC => yd_move rfl) ?_
          refine VA_take (i := 5) rfl rfl rfl rfl (by kernel_rfl) (by kernel_rfl) (by kernel_rfl) #[true, true, true, true, true, true, false, false, false, false, false, false, false, false, false, false, false, false, false, false, false, false, false, false, false, false, false, false, false, false] (by kernel_rfl) (fun _ _ _ _ h => h) (fun w hC => yd_index0 rfl rfl Try.underlying72 T.sz82 (by omega)) ?_
          refine VA_take (i := 6) rfl rfl rfl rfl (by kernel_rfl) (by kernel_rfl) (by kernel_rfl) #[true, true, true, true, true, true, true, false, false, false, false, false, false, false, false, false, false, false, false, false, false, false, false, false, false, false, false, false, false, false] (by kernel_rfl) (fun _ _ _ _ h => h) (fun w hC => yd_load rfl T.one82 (hC.2 _ hslt)) ?_
          refine VA_take (i := 7) rfl rfl rfl rfl (by kernel_rfl) (by kernel_rfl) (by kernel_rfl) #[true, true, true, true, true, true, true, true, false, false, false, false, false, false, false, false, false, false, false, false, false, false, false, false, false, false, false, false, false, false] (by kernel_rfl) (fun _ _ _ _ h => h) (fun w hC => yd_move rfl) ?_
          refine VA_take (i := 8) rfl rfl rfl rfl (by kernel_rfl) (by kernel_rfl) (by kernel_rfl) #[true, true, true, true, true, true, true, true, true, false, false, false, false, false, false, false, false, false, false, false, false, false, false, false, false, false, false, false, false, false] (by kernel_rfl) (fun _ _ _ _ h => h) (fun w hC => yd_nilc rfl) ?_
          refine VA_take (i := 9) rfl rfl rfl rfl (by kernel_rfl) (by kernel_rfl) (by kernel_rfl) #[true, true, true, true, true, true, true, true, true, true, false, false, false, false, false, false, false, false, false, false, false, false, false, false, false, false, false, false, false, false] (by kernel_rfl) (fun _ _ _ _ h => h) (fun w hC => yd_field rfl T.fld89_1) ?_
          refine VA_take (i := 10) rfl rfl rfl rfl (by kernel_rfl) (by kernel_rfl) (by kernel_rfl) #[true, true, true, true, true, true, true, true, true, true, true, false, false, false, false, false, false, false, false, false, false, false, false, false, false, false, false, false, false, false] (by kernel_rfl) (fun _ _ _ _ h => h) (fun w hC => yd_load rfl T.one72 hC.1) ?_
          refine VA_take (i := 11) rfl rfl rfl rfl (by kernel_rfl) (by kernel_rfl) (by kernel_rfl) #[true, true, true, true, true, true, true, true, true, true, true, true, false, false, false, false, false, false, false, false, false, false, false, false, false, false, false, false, false, false] (by kernel_rfl) (fun _ _ _ _ h => h) (fun w hC => yd_move rfl) ?_
          refine VA_take (i := 12) rfl rfl rfl rfl (by kernel_rfl) (by kernel_rfl) (by kernel_rfl) #[true, true, true, true, true, true, true, true, true, true, true, true, true, false, false, false, false, false, false, false, false, false, false, false, false, false, false, false, false, false] (by kernel_rfl) (fun _ _ _ _ h => h) (fun w hC => yd_index0 rfl rfl Try.underlying72 T.sz82 (by omega)) ?_
          refine VA_take (i := 13) rfl rfl rfl rfl (by kernel_rfl) (by kernel_rfl) (by kernel_rfl) #[true, true, true, true, true, true, true, true, true, true, true, true, true, true, false, false, false, false, false, false, false, false, false, false, false, false, false, false, false, false] (by kernel_rfl) (fun _ _ _ _ h => h) (fun w hC => yd_load rfl T.one82 (hC.2 _ hslt)) ?_
          refine VA_take (i := 14) rfl rfl rfl rfl (by kernel_rfl) (by kernel_rfl) (by kernel_rfl) #[true, true, true, true, true, true, true, true, true, true, true, true, true, true, true, false, false, false, false, false, false, false, false, false, false, false, false, false, false, false] (by kernel_rfl) (fun _ _ _ _ h => h) (fun w hC => yd_nilc rfl) ?_
          refine VA_take (i := 15) rfl rfl rfl rfl (by kernel_rfl) (by kernel_rfl) (by kernel_rfl) #[true, true, true, true, true, true, true, true, true, true, true, true, true, true, true, true, false, false, false, false, false, false, false, false, false, false, false, false, false, false] (by kernel_rfl) (fun _ _ _ _ h => h) (fun w hC => yd_field rfl T.fld93_2) ?_
          refine VA_take (i := 17) rfl rfl rfl rfl (by kernel_rfl) (by kernel_rfl) (by kernel_rfl) #[true, true, true, true, true, true, true, true, true, true, true, true, true, true, true, true, false, true, false, false, false, false, false, false, false, false, false, false, false, false] (by kernel_rfl) (fun _ _ _ _ h => h) (fun w hC => yd_move rfl) ?_
          refine VA_take (i := 18) rfl rfl rfl rfl (by kernel_rfl) (by kernel_rfl) (by kernel_rfl) #[true, true, true, true, true, true, true, true, true, true, true, true, true, true, true, true, false, true, true, false, false, false, false, false, false, false, false, false, false, false] (by kernel_rfl) (fun _ _ _ _ h => h) (fun w hC => yd_nilc rfl) ?_
          refine VA_take (i := 19) rfl rfl rfl rfl (by kernel_rfl) (by kernel_rfl) (by kernel_rfl) #[true, true, true, true, true, true, true, true, true, true, true, true, true, true, true, true, false, true, true, true, false, false, false, false, false, false, false, false, false, false] (by kernel_rfl) (fun _ _ _ _ h => h) (fun w hC => yd_field rfl T.fld89_1) ?_
          refine VA_take (i := 20) rfl rfl rfl rfl (by kernel_rfl) (by kernel_rfl) (by kernel_rfl) #[true, true, true, true, true, true, true, true, true, true, true, true, true, true, true, true, false, true, true, true, true, false, false, false, false, false, false, false, false, false] (by kernel_rfl) (fun _ _ _ _ h => h) (fun w hC => yd_load rfl T.one72 hC.1) ?_
          refine VA_take (i := 21) rfl rfl rfl rfl (by kernel_rfl) (by kernel_rfl) (by kernel_rfl) #[true, true, true, true, true, true, true, true, true, true, true, true, true, true, true, true, false, true, true, true, true, true, false, false, false, false, false, false, false, false] (by kernel_rfl) (fun _ _ _ _ h => h) (fun w hC => yd_move rfl) ?_
          refine VA_take (i := 22) rfl rfl rfl rfl (by kernel_rfl) (by kernel_rfl) (by kernel_rfl) #[true, true, true, true, true, true, true, true, true, true, true, true, true, true, true, true, false, true, true, true, true, true, true, false, false, false, false, false, false, false] (by kernel_rfl) (fun _ _ _ _ h => h) (fun w hC => yd_index0 rfl rfl Try.underlying72 T.sz82 (by omega)) ?_
          refine VA_take (i := 23) rfl rfl rfl rfl (by kernel_rfl) (by kernel_rfl) (by kernel_rfl) #[true, true, true, true, true, true, true, true, true, true, true, true, true, true, true, true, false, true, true, true, true, true, true, true, false, false, false, false, false, false] (by kernel_rfl) (fun _ _ _ _ h => h) (fun w hC => yd_load rfl T.one82 (hC.2 i (by omega))) ?_
          refine VA_take (i := 24) rfl rfl rfl rfl (by kernel_rfl) (by kernel_rfl) (by kernel_rfl) #[true, true, true, true, true, true, true, true, true, true, true, true, true, true, true, true, false, true, true, true, true, true, true, true, true, false, false, false, false, false] (by kernel_rfl) (fun _ _ _ _ h => h) (fun w hC => yd_build T.st96 (vs := [(0, _)]) rfl rfl) ?_
          refine VA_two (i := 16) (j := 25) (by kernel_rfl) (bc_of (b1 := 0) (hS.get 0 rfl) (hS.get 1 rfl)) ?_ ?_
          · skip
            refine VS_val rfl (wanted_none rfl) #[true, true, true, true, true, true, true, true, true, true, true, true, true, true, true, true, true, true, true, true, true, true, true, true, true, false, false, false, false, false] (by kernel_rfl) rfl rfl (yd_load rfl T.one91 (blk_cell (hS.res (fB b9 bb _ pv G[i]![j]!) (by first | exact List.mem_of_getElem? (fη_B hslt) | exact fη_memB hslt _)) rfl)) ?_
            refine VA_only (i := 25) (by kernel_rfl) (bc_of (b1 := 0) (hS.get 0 rfl) (hS.get 1 rfl)) ?_
            refine VS_rel rfl (wanted_none rfl) #[true, true, true, true, true, true, true, true, true, true, true, true, true, true, true, true, true, true, true, true, true, true, true, true, true, true, false, false, false, false] (by kernel_rfl) rfl rfl (yr_bslice rfl Try.underlying91 T.e96 rfl (by decide) (by decide) hS) ?_
            clear hS; rintro _ w ⟨b98, rfl, hS⟩
            refine VA_only (i := 26) (by kernel_rfl) (bc_of (b1 := 0) (hS.get 0 rfl) (hS.get 1 rfl)) ?_
            refine VS_rel rfl (wanted_none rfl) #[true, true, true, true, true, true, true, true, true, true, true, true, true, true, true, true, true, true, true, true, true, true, true, true, true, true, true, false, false, false] (by kernel_rfl) rfl rfl (yr_append rfl rfl Try.underlying91 T.e96 rfl (by decide) hS (G[i]![j]! + G.length + G.length + 2) (fη_P' hslt _) (hS.res _ (List.mem_append_right _ (List.mem_singleton.2 rfl))) rfl (fun u hu => by cases List.mem_singleton.1 (show u ∈ [ptr (bb i)] from hu); rfl) (by omega) (by omega)) ?_
            clear hS; rintro v99 w ⟨hS, hnil⟩
            obtain ⟨b99, c99, rfl, hc99⟩ := row_form (hS.get (G[i]![j]! + G.length + G.length + 2) (by rw [List.getElem?_set_self (fη_lt _ (by omega))])) (.inr (by omega))
            refine VA_take (i := 27) rfl rfl rfl rfl (by kernel_rfl) (by kernel_rfl) (by kernel_rfl) #[true, true, true, true, true, true, true, true, true, true, true, true, true, true, true, true, true, true, true, true, true, true, true, true, true, true, true, true, false, false] (by kernel_rfl) (fun _ _ _ _ h => h) (fun w hC => yd_nilc rfl) ?_
            refine VA_take (i := 28) rfl rfl rfl rfl (by kernel_rfl) (by kernel_rfl) (by kernel_rfl) #[true, true, true, true, true, true, true, true, true, true, true, true, true, true, true, true, true, true, true, true, true, true, true, true, true, true, true, true, true, false] (by kernel_rfl) (fun _ _ _ _ h => h) (fun w hC => yd_field rfl T.fld93_2) ?_
            refine VA_only (i := 29) (by kernel_rfl) (bc_of (b1 := 0) (hS.get 0 rfl) (hS.get 1 rfl)) ?_
            refine VS_store rfl (wanted_none rfl) #[true, true, true, true, true, true, true, true, true, true, true, true, true, true, true, true, true, true, true, true, true, true, true, true, true, true, true, true, true, true] (by kernel_rfl) rfl rfl rfl rfl T.one91 rfl hS (G[i]![j]! + 2) (fη_BS hslt _ _ (G[i]![j]! + G.length)) (by simp) ?_
            clear hS; intro w hS
            have hS := fη_finP hslt rfl hS
            refine VA_done (by kernel_rfl) (bc_of (b1 := 0) (hS.get 0 rfl) (hS.get 1 rfl)) ?_
            refine VE_block_normal ?_
            refine VE_then ?_
            refine VC_region ?_
            refine VL_val rfl rfl rfl (yd_add rfl rfl ((j + 1 : Nat) : Int) (by rw [wi64 (by omega) (by omega)]; omega)) ?_
            refine VL_val rfl rfl rfl (yd_move rfl) ?_
            refine VL_nil ?_
            exact VE_round5 (j + 1) _ _ _ _ ⟨rfl, rfl, rfl, rfl, rfl, rfl, rfl, rfl, rfl, rfl, rfl, rfl, rfl, rfl, trivial⟩ ⟨by omega, hN.step (by omega) (by omega), hS⟩ (by omega)
          · skip
            refine VS_rel rfl (wanted_none rfl) #[true, true, true, true, true, true, true, true, true, true, true, true, true, true, true, true, false, true, true, true, true, true, true, true, true, true, false, false, false, false] (by kernel_rfl) rfl rfl (yr_bslice rfl Try.underlying91 T.e96 rfl (by decide) (by decide) hS) ?_
            clear hS; rintro _ w ⟨b98, rfl, hS⟩
            refine VA_only (i := 16) (by kernel_rfl) (bc_of (b1 := 0) (hS.get 0 rfl) (hS.get 1 rfl)) ?_
            refine VS_val rfl (wanted_none rfl) #[true, true, true, true, true, true, true, true, true, true, true, true, true, true, true, true, true, true, true, true, true, true, true, true, true, true, false, false, false, false] (by kernel_rfl) rfl rfl (yd_load rfl T.one91 (blk_cell (hS.res (fB b9 bb _ pv G[i]![j]!) (by first | exact List.mem_of_getElem? (fη_B hslt) | exact fη_memB hslt _)) rfl)) ?_
            refine VA_only (i := 26) (by kernel_rfl) (bc_of (b1 := 0) (hS.get 0 rfl) (hS.get 1 rfl)) ?_
            refine VS_rel rfl (wanted_none rfl) #[true, true, true, true, true, true, true, true, true, true, true, true, true, true, true, true, true, true, true, true, true, true, true, true, true, true, true, false, false, false] (by kernel_rfl) rfl rfl (yr_append rfl rfl Try.underlying91 T.e96 rfl (by decide) hS (G[i]![j]! + G.length + G.length + 2) (fη_P' hslt _) (hS.res _ (List.mem_append_right _ (List.mem_singleton.2 rfl))) rfl (fun u hu => by cases List.mem_singleton.1 (show u ∈ [ptr (bb i)] from hu); rfl) (by omega) (by omega)) ?_
            clear hS; rintro v99 w ⟨hS, hnil⟩
            obtain ⟨b99, c99, rfl, hc99⟩ := row_form (hS.get (G[i]![j]! + G.length + G.length + 2) (by rw [List.getElem?_set_self (fη_lt _ (by omega))])) (.inr (by omega))
            refine VA_take (i := 27) rfl rfl rfl rfl (by kernel_rfl) (by kernel_rfl) (by kernel_rfl) #[true, true, true, true, true, true, true, true, true, true, true, true, true, true, true, true, true, true, true, true, true, true, true, true, true, true, true, true, false, false] (by kernel_rfl) (fun _ _ _ _ h => h) (fun w hC => yd_nilc rfl) ?_
            refine VA_take (i := 28) rfl rfl rfl rfl (by kernel_rfl) (by kernel_rfl) (by kernel_rfl) #[true, true, true, true, true, true, true, true, true, true, true, true, true, true, true, true, true, true, true, true, true, true, true, true, true, true, true, true, true, false] (by kernel_rfl) (fun _ _ _ _ h => h) (fun w hC => yd_field rfl T.fld93_2) ?_
            refine VA_only (i := 29) (by kernel_rfl) (bc_of (b1 := 0) (hS.get 0 rfl) (hS.get 1 rfl)) ?_
            refine VS_store rfl (wanted_none rfl) #[true, true, true, true, true, true, true, true, true, true, true, true, true, true, true, true, true, true, true, true, true, true, true, true, true, true, true, true, true, true] (by kernel_rfl) rfl rfl rfl rfl T.one91 rfl hS (G[i]![j]! + 2) (fη_BS hslt _ _ (G[i]![j]! + G.length)) (by simp) ?_
            clear hS; intro w hS
            have hS := fη_finP hslt rfl hS
            refine VA_done (by kernel_rfl) (bc_of (b1 := 0) (hS.get 0 rfl) (hS.get 1 rfl)) ?_
            refine VE_block_normal ?_
            refine VE_then ?_
            refine VC_region ?_
            refine VL_val rfl rfl rfl (yd_add rfl rfl ((j + 1 : Nat) : Int) (by rw [wi64 (by omega) (by omega)]; omega)) ?_
            refine VL_val rfl rfl rfl (yd_move rfl) ?_
            refine VL_nil ?_
            exact VE_round5 (j + 1) _ _ _ _ ⟨rfl, rfl, rfl, rfl, rfl, rfl, rfl, rfl, rfl, rfl, rfl, rfl, rfl, rfl, trivial⟩ ⟨by omega, hN.step (by omega) (by omega), hS⟩ (by omega)
      · replace h41 := Int.not_lt.1 (of_decide_eq_false h41)
        refine VC_exit ?_
        refine VE_then_exit (VE_then_exit (VE_block_exit ?_))
        refine VE_block_normal ?_
        refine VE_then ?_
        refine VC_region ?_
        refine VL_val rfl rfl rfl (yd_add rfl rfl ((i + 1 : Nat) : Int) (by rw [wi64 (by omega) (by omega)]; omega)) ?_
        refine VL_val rfl rfl rfl (yd_move rfl) ?_
        refine VL_nil ?_
        exact VE_round5 (i + 1) _ _ _ _ ⟨rfl, rfl, rfl, rfl, rfl, trivial⟩ ⟨by omega, hN.row (by omega) (by omega), hS⟩ (by omega)
    · replace h34 := Int.not_lt.1 (of_decide_eq_false h34)
      refine VC_exit ?_
      refine VE_then_exit (VE_then_exit (VE_block_exit ?_))
      refine VE_then ?_
      refine VC_seq ?_
      refine VC_region ?_
      have hin : i = G.length := by omega
      subst hin
      have hpos := hg.pos
      have h0r : ((List.range G.length).map fun i => ptr (bb i))[0]? = some (ptr (bb 0)) := by rw [List.getElem?_map, List.getElem?_range (by omega)]; rfl
      refine VL_val rfl rfl rfl (yd_move rfl) ?_
      refine VL_val rfl rfl rfl (yd_move rfl) ?_
      refine VL_val rfl rfl rfl (yd_nilc rfl) ?_
      refine VL_val rfl rfl rfl (yd_field rfl T.fld89_1) ?_
      refine VL_val rfl rfl rfl (yd_load rfl T.one72 (blk_cell (hS.get 0 rfl) rfl)) ?_
      refine VL_val rfl rfl rfl (yd_index0 (i := 0) rfl rfl Try.underlying72 T.sz82 (by omega)) ?_
      refine VL_val rfl rfl rfl (yd_load rfl T.one82 (row_cell (hS.get 1 rfl) h0r)) ?_
      refine VL_val rfl rfl rfl (yd_nilc rfl) ?_
      refine VL_val rfl rfl rfl (yd_field rfl T.fld89_0) ?_
      refine VL_store rfl rfl rfl rfl rfl T.one82 rfl hS 0 rfl (by simp) ?_
      clear hS; intro w hS
      refine VL_nil ?_
      refine VE_then ?_
      refine VC_seq ?_
      refine VC_region ?_
      refine VL_val rfl rfl rfl (yd_move rfl) ?_
      refine VL_val rfl rfl rfl (yd_assign rfl) ?_
      refine VL_nil ?_
      refine VE_then ?_
      refine VC_ret ?_
      refine VE_ret1 (rfl) rfl ?_
      refine ⟨⟨b9, bB, cB, bb, sv, pv, Q⟩, rfl, ⟨(hN.preds hg).1, (hN.preds hg).2⟩, St_bundle ?_⟩
      have e := fη_congr (bf := b9) (e := ptr (bb 0)) (vB := .slice (some ⟨bB, 0, none⟩) G.length cB) (bb := bb) (sv := sv) (pv := pv) (Q := Q) (S := S) (S' := fun i => G[i]!) (n := G.length) (fun i hi => hN.sl i hi)
      exact e ▸ hS

end Go.Proofs.Ytmoooaaiohplhac
