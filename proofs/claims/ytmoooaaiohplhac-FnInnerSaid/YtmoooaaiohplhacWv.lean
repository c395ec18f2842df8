/- Trees in memory: numberBlock, newSparseTree, Sdom, nodes. -/
import Derived.Test.YtmoooaaiohplhacWq
import Derived.Test.YtmoooaaiohplhacPi
import Derived.Test.YtmoooaaiohplhacVk
namespace Go.Proofs.Ytmoooaaiohplhac
open Go Go.V
set_option linter.unusedVariables false
set_option maxRecDepth 100000

theorem T.e98 : ElemT Try.prog 98 5 32 (.agg #[(.pointer none), (.pointer none), (.pointer none), (.int .i32 0), (.int .i32 0)]) := ElemT.of (by kernel_rfl)
theorem T.fld98_0 : FieldT Try.prog 98 0 0 := FieldT.of (by kernel_rfl)
theorem T.fld98_1 : FieldT Try.prog 98 1 1 := FieldT.of (by kernel_rfl)
theorem T.fld98_2 : FieldT Try.prog 98 2 2 := FieldT.of (by kernel_rfl)
theorem T.fld98_3 : FieldT Try.prog 98 3 3 := FieldT.of (by kernel_rfl)
theorem T.fld98_4 : FieldT Try.prog 98 4 4 := FieldT.of (by kernel_rfl)
theorem T.sz98 : (Try.prog.info? 98).map (·.size) = some 5 := by kernel_rfl
theorem T.call54 : CallT Try.prog 54 := CallT.of Try.func54 (by kernel_rfl) (by kernel_rfl)
theorem T.call68 : CallT Try.prog 68 := CallT.of Try.func68 (by kernel_rfl) (by kernel_rfl)

open Go.PL
structure TRep where
  ch : Nat → Option Nat
  sb : Nat → Option Nat
  pa : Nat → Option Nat
  en : Nat → Nat
  ex : Nat → Nat
def T0 : TRep := ⟨fun _ => none, fun _ => none, fun _ => none, fun _ => 0, fun _ => 0⟩
def tv (f : FRep) (g : Nat → Option Nat) : Nat → Value
  | 0 => .pointer none
  | x + 1 => pP f (g x)
def tn (g : Nat → Nat) : Nat → Value
  | 0 => .int .i32 0
  | x + 1 => .int .i32 ((g x : Nat) : Int)
def tcj (f : FRep) (t : TRep) (i : Nat) : Nat → Value
  | 0 => tv f t.ch i
  | 1 => tv f t.sb i
  | 2 => tv f t.pa i
  | 3 => tn t.en i
  | _ => tn t.ex i
def tcell (f : FRep) (t : TRep) (q : Nat) : Value := tcj f t (q / 5) (q % 5)
/-- The cells of a tree of n blocks. -/
def tcells (f : FRep) (n : Nat) (t : TRep) : List Value := (List.range ((n + 1) * 5)).map (tcell f t)
section
variable {f : FRep} {t : TRep} {n x b : Nat} {w : World} {T : TypeId}
theorem tcells_len : (tcells f n t).length = (n + 1) * 5 := by simp [tcells]
theorem tcell_eq {q i j : Nat} (hj : j < 5) (h : q = i * 5 + j) : tcell f t q = tcj f t i j := by
  unfold tcell
  rw [show q % 5 = j by omega, show q / 5 = i by omega]
theorem tc_at {j : Nat} (h : (blk b T (tcells f n t)).holds w) (hx : x < n) (hj : j < 5) : w.cell? ⟨b, (x + 1) * 5 + j, none⟩ = some (tcell f t ((x + 1) * 5 + j)) :=
  blk_cell h (by
    have hq : (x + 1) * 5 + j < (n + 1) * 5 := by omega
    simp [tcells, hq])
theorem tc_ch (h : (blk b T (tcells f n t)).holds w) (hx : x < n) : w.cell? ⟨b, (x + 1) * 5 + 0, none⟩ = some (pP f (t.ch x)) := (tc_at h hx (by omega)).trans (by rw [tcell_eq (i := x + 1) (j := 0) (by omega) rfl]; rfl)
theorem tc_sb (h : (blk b T (tcells f n t)).holds w) (hx : x < n) : w.cell? ⟨b, (x + 1) * 5 + 1, none⟩ = some (pP f (t.sb x)) := (tc_at h hx (by omega)).trans (by rw [tcell_eq (i := x + 1) (j := 1) (by omega) rfl]; rfl)
theorem tc_pa (h : (blk b T (tcells f n t)).holds w) (hx : x < n) : w.cell? ⟨b, (x + 1) * 5 + 2, none⟩ = some (pP f (t.pa x)) := (tc_at h hx (by omega)).trans (by rw [tcell_eq (i := x + 1) (j := 2) (by omega) rfl]; rfl)
theorem tc_en (h : (blk b T (tcells f n t)).holds w) (hx : x < n) : w.cell? ⟨b, (x + 1) * 5 + 3, none⟩ = some (.int .i32 ((t.en x : Nat) : Int)) := (tc_at h hx (by omega)).trans (by rw [tcell_eq (i := x + 1) (j := 3) (by omega) rfl]; rfl)
theorem tc_ex (h : (blk b T (tcells f n t)).holds w) (hx : x < n) : w.cell? ⟨b, (x + 1) * 5 + 4, none⟩ = some (.int .i32 ((t.ex x : Nat) : Int)) := (tc_at h hx (by omega)).trans (by rw [tcell_eq (i := x + 1) (j := 4) (by omega) rfl]; rfl)
theorem tc_all (h : (blk b T (tcells f n t)).holds w) (hx : x < n) : ∀ j v, [pP f (t.ch x), pP f (t.sb x), pP f (t.pa x), .int .i32 ((t.en x : Nat) : Int), .int .i32 ((t.ex x : Nat) : Int)][j]? = some v → w.cell? ⟨b, (x + 1) * 5 + j, none⟩ = some v
  | 0, v, e => by cases e; exact tc_ch h hx
  | 1, v, e => by cases e; exact tc_sb h hx
  | 2, v, e => by cases e; exact tc_pa h hx
  | 3, v, e => by cases e; exact tc_en h hx
  | 4, v, e => by cases e; exact tc_ex h hx
  | j + 5, v, e => by simp at e
theorem tv_ne {g : Nat → Option Nat} {o : Option Nat} {i : Nat} (h : i ≠ x + 1) : tv f (upd g x o) i = tv f g i := by
  cases i with
  | zero => rfl
  | succ i => show pP f (upd g x o i) = pP f (g i); rw [upd_ne _ _ (by omega)]
theorem tn_ne {g : Nat → Nat} {o : Nat} {i : Nat} (h : i ≠ x + 1) : tn (upd g x o) i = tn g i := by
  cases i with
  | zero => rfl
  | succ i => show Value.int .i32 ((upd g x o i : Nat) : Int) = _; rw [upd_ne _ _ (by omega)]; rfl
theorem tset {j : Nat} {v : Value} {t' : TRep} (hj : j < 5) (hv : tcell f t' ((x + 1) * 5 + j) = v) (ho : ∀ q, q ≠ (x + 1) * 5 + j → tcell f t' q = tcell f t q) : (tcells f n t).set ((x + 1) * 5 + j) v = tcells f n t' := by
  unfold tcells
  rw [map_range_set]
  congr 1
  funext q
  by_cases h : q = (x + 1) * 5 + j
  · subst h; rw [upd_same, hv]
  · rw [upd_ne _ _ h, ho q h]
theorem mod5 (q : Nat) : q % 5 = 0 ∨ q % 5 = 1 ∨ q % 5 = 2 ∨ q % 5 = 3 ∨ q % 5 = 4 := by omega
theorem tset_ch {o : Option Nat} : (tcells f n t).set ((x + 1) * 5 + 0) (pP f o) = tcells f n ⟨upd t.ch x o, t.sb, t.pa, t.en, t.ex⟩ := by
  refine tset (by omega) ?_ fun q hq => ?_
  · rw [tcell_eq (i := x + 1) (j := 0) (by omega) rfl]; show pP f (upd t.ch x o x) = _; rw [upd_same]
  · unfold tcell; rcases mod5 q with h | h | h | h | h <;> rw [h] <;> first | rfl | exact tv_ne (by omega)
theorem tset_sb {o : Option Nat} : (tcells f n t).set ((x + 1) * 5 + 1) (pP f o) = tcells f n ⟨t.ch, upd t.sb x o, t.pa, t.en, t.ex⟩ := by
  refine tset (by omega) ?_ fun q hq => ?_
  · rw [tcell_eq (i := x + 1) (j := 1) (by omega) rfl]; show pP f (upd t.sb x o x) = _; rw [upd_same]
  · unfold tcell; rcases mod5 q with h | h | h | h | h <;> rw [h] <;> first | rfl | exact tv_ne (by omega)
theorem tset_pa {o : Option Nat} : (tcells f n t).set ((x + 1) * 5 + 2) (pP f o) = tcells f n ⟨t.ch, t.sb, upd t.pa x o, t.en, t.ex⟩ := by
  refine tset (by omega) ?_ fun q hq => ?_
  · rw [tcell_eq (i := x + 1) (j := 2) (by omega) rfl]; show pP f (upd t.pa x o x) = _; rw [upd_same]
  · unfold tcell; rcases mod5 q with h | h | h | h | h <;> rw [h] <;> first | rfl | exact tv_ne (by omega)
theorem tset_en {o : Nat} : (tcells f n t).set ((x + 1) * 5 + 3) (.int .i32 ((o : Nat) : Int)) = tcells f n ⟨t.ch, t.sb, t.pa, upd t.en x o, t.ex⟩ := by
  refine tset (by omega) ?_ fun q hq => ?_
  · rw [tcell_eq (i := x + 1) (j := 3) (by omega) rfl]; show Value.int .i32 ((upd t.en x o x : Nat) : Int) = _; rw [upd_same]
  · unfold tcell; rcases mod5 q with h | h | h | h | h <;> rw [h] <;> first | rfl | exact tn_ne (by omega)
theorem tset_ex {o : Nat} : (tcells f n t).set ((x + 1) * 5 + 4) (.int .i32 ((o : Nat) : Int)) = tcells f n ⟨t.ch, t.sb, t.pa, t.en, upd t.ex x o⟩ := by
  refine tset (by omega) ?_ fun q hq => ?_
  · rw [tcell_eq (i := x + 1) (j := 4) (by omega) rfl]; show Value.int .i32 ((upd t.ex x o x : Nat) : Int) = _; rw [upd_same]
  · unfold tcell; rcases mod5 q with h | h | h | h | h <;> rw [h] <;> first | rfl | exact tn_ne (by omega)
theorem tv0 {i : Nat} : tv f (fun _ => none) i = .pointer none := by cases i <;> rfl
theorem tn0 {i : Nat} : tn (fun _ => 0) i = .int .i32 0 := by cases i <;> rfl
theorem tcells_init : (madeCells (Value.agg #[.pointer none, .pointer none, .pointer none, .int .i32 0, .int .i32 0]).cells ((n + 1) * 5)).toList = tcells f n T0 := by
  refine List.ext_getElem (by simp [size_madeCells, tcells]) fun q h1 h2 => ?_
  have e : (madeCells (Value.agg #[.pointer none, .pointer none, .pointer none, .int .i32 0, .int .i32 0]).cells ((n + 1) * 5)).toList[q] = (#[Value.pointer none, .pointer none, .pointer none, .int .i32 0, .int .i32 0] : Array Value)[q % 5]! := by
    simp [madeCells, Value.cells]
  rw [e]
  simp only [tcells, List.getElem_map, List.getElem_range]
  unfold tcell T0
  rcases mod5 q with h | h | h | h | h <;> rw [h] <;> simp [tcj, tv0, tn0]
end
/-- Children and siblings as the tree has them. -/
structure TB (G : Graph) (P : Nat → Option Nat) (t : TRep) : Prop where
  ch : ∀ p, t.ch p = (chs G P p).head?
  sb : ∀ c, t.sb c = sibF G P c
/-- The tree in memory is that of the parents P. -/
structure TOK (G : Graph) (P : Nat → Option Nat) (t : TRep) : Prop extends TB G P t where
  pa : ∀ c, t.pa c = P c
  num : NumOK G P t.en t.ex
  le : ∀ c, t.en c ≤ 1000 ∧ t.ex c ≤ 1000
/-- The tree behind the first k blocks of the postorder. -/
structure TK (G : Graph) (P : Nat → Option Nat) (k : Nat) (t : TRep) : Prop where
  ch : ∀ p, t.ch p = (chl G P k p).head?
  on : ∀ c, c ∈ postL G → ps G c < k → t.sb c = sibF G P c ∧ t.pa c = P c
  off : ∀ c, ¬ (c ∈ postL G ∧ ps G c < k) → t.sb c = none ∧ t.pa c = none
  z : (∀ c, t.en c = 0) ∧ ∀ c, t.ex c = 0
section
variable {G : Graph} {P : Nat → Option Nat} {r : Nat → Nat} {t : TRep} {k b p : Nat}
theorem tk_init : TK G P 0 T0 := ⟨fun p => by rw [chl_zero]; rfl, fun c _ h => absurd h (Nat.not_lt_zero _), fun c _ => ⟨rfl, rfl⟩, fun _ => rfl, fun _ => rfl⟩
theorem TK.none (hg : Gd G) (h : TK G P k t) (hk : k < (postL G).length) (hb : b = (postL G)[k]!) (hp : P b = none) : TK G P (k + 1) t := by
  have hbk : ps G b = k := by rw [hb]; exact ps_of hg hk
  have hbm : b ∈ postL G := by rw [hb, getElem!_pos (postL G) k hk]; exact List.getElem_mem _
  refine ⟨fun p => ?_, fun c hc hlt => ?_, fun c hc => h.off c (fun hh => hc ⟨hh.1, by omega⟩), h.z⟩
  · rw [chl_succ hk, ← hb, if_neg (by rw [hp]; simp)]; exact h.ch p
  · by_cases e : ps G c = k
    · have : c = b := ps_inj hc hbm (by omega)
      subst this
      have := h.off c (fun hh => by omega)
      rw [this.1, this.2, hp]; exact ⟨by unfold sibF; rw [hp], rfl⟩
    · exact h.on c hc (by omega)
theorem TK.some (hg : Gd G) (h : TK G P k t) (hk : k < (postL G).length) (hb : b = (postL G)[k]!) (hp : P b = some p) : TK G P (k + 1) ⟨upd t.ch p (some b), upd t.sb b (t.ch p), upd t.pa b (some p), t.en, t.ex⟩ := by
  have hbk : ps G b = k := by rw [hb]; exact ps_of hg hk
  have hbm : b ∈ postL G := by rw [hb, getElem!_pos (postL G) k hk]; exact List.getElem_mem _
  refine ⟨fun q => ?_, fun c hc hlt => ?_, fun c hc => ?_, h.z⟩
  · show upd t.ch p (Option.some b) q = _
    rw [chl_succ hk, ← hb]
    by_cases e : q = p
    · subst e; rw [upd_same, if_pos hp]; rfl
    · rw [upd_ne _ _ e, if_neg (by rw [hp]; intro h; cases h; exact e rfl)]; exact h.ch q
  · show upd t.sb b (t.ch p) c = _ ∧ upd t.pa b (Option.some p) c = _
    by_cases e : c = b
    · subst e
      rw [upd_same, upd_same, hp]
      exact ⟨by unfold sibF; rw [hp, h.ch]; show _ = (chl G P (ps G c) p).head?; rw [hbk], rfl⟩
    · rw [upd_ne _ _ e, upd_ne _ _ e]
      have : ps G c ≠ k := fun h => e (ps_inj hc hbm (by omega))
      exact h.on c hc (by omega)
  · show upd t.sb b (t.ch p) c = _ ∧ upd t.pa b (Option.some p) c = _
    have e : c ≠ b := fun e => by subst e; exact hc ⟨hbm, by omega⟩
    rw [upd_ne _ _ e, upd_ne _ _ e]
    exact h.off c (fun hh => hc ⟨hh.1, by omega⟩)
theorem TK.done (hT : TreeP G P r) (h : TK G P (postL G).length t) : TB G P t ∧ ∀ c, t.pa c = P c := by
  have key : ∀ c, t.sb c = sibF G P c ∧ t.pa c = P c := by
    intro c
    by_cases hc : c ∈ postL G
    · exact h.on c hc (ps_lt hc)
    · have hp : P c = Option.none := by
        cases e : P c with
        | none => rfl
        | some p => exact absurd (hT.mem c p e).1 hc
      have := h.off c (fun hh => hc hh.1)
      rw [this.1, this.2, hp]
      exact ⟨by unfold sibF; rw [hp], rfl⟩
  exact ⟨⟨h.ch, fun c => (key c).1⟩, fun c => (key c).2⟩
theorem preo_nil (ch : Nat → List Nat) (k : Nat) : preo ch k [] = [] := by cases k <;> rfl
end
/-- What numberBlock does, for trees of no more than k levels. -/
def NbOK (f : FRep) (G : Graph) (P : Nat → Option Nat) (r : Nat → Nat) (tb k : Nat) : Prop := ∀ (w0 : World) (t : TRep) (b lo : Nat), (funcR f G).holds w0 → (blk tb 98 (tcells f G.length t)).holds w0 → TB G P t → b ∈ postL G → 13 ≤ r b + k → lo + 6 * (preo (chs G P) k [b]).length ≤ 100000 →
  Calls Try.prog 68 #[.slice (some ⟨tb, 0, none⟩) (G.length + 1) (G.length + 1), ptr (f.bb b), .int .i32 ((lo : Nat) : Int)] w0 (Ret fun u w' => ∃ (en ex : Nat → Nat) (hi : Nat), hi = lo + 6 * (preo (chs G P) k [b]).length ∧ u = .int .i32 ((hi : Nat) : Int) ∧ Nums (chs G P) en ex [b] lo hi ∧ (∀ v, ¬ Abv P b v → en v = t.en v ∧ ex v = t.ex v) ∧
    St w0 (blk tb 98 (tcells f G.length t)).fp [blk tb 98 (tcells f G.length ⟨t.ch, t.sb, t.pa, en, ex⟩)] w')
/-- The cells of the nodes that are handed out. -/
def ncj (t : TRep) (i : Nat) : Nat → Value
  | 0 => .int .i64 (nO (t.pa i))
  | 1 => .int .i64 (nO (t.ch i))
  | 2 => .int .i64 (nO (t.sb i))
  | 3 => .int .i64 ((t.en i : Nat) : Int)
  | _ => .int .i64 ((t.ex i : Nat) : Int)
def ncell (t : TRep) (q : Nat) : Value := ncj t (q / 5) (q % 5)
def nodeC (n : Nat) (t : TRep) : List Value := (List.range (n * 5)).map (ncell t)
theorem ncell_eq {t : TRep} {q i j : Nat} (hj : j < 5) (h : q = i * 5 + j) : ncell t q = ncj t i j := by
  unfold ncell
  rw [show q % 5 = j by omega, show q / 5 = i by omega]
def node5 (t : TRep) (x : Nat) : List Value := [.int .i64 (nO (t.pa x)), .int .i64 (nO (t.ch x)), .int .i64 (nO (t.sb x)), .int .i64 ((t.en x : Nat) : Int), .int .i64 ((t.ex x : Nat) : Int)]
theorem nodeC_snoc {t : TRep} {n : Nat} : nodeC (n + 1) t = nodeC n t ++ node5 t n := by
  unfold nodeC
  rw [show (n + 1) * 5 = n * 5 + 5 by omega, List.range_add, List.map_append]
  congr 1
  have e : (List.range 5).map (n * 5 + ·) = [n * 5 + 0, n * 5 + 1, n * 5 + 2, n * 5 + 3, n * 5 + 4] := rfl
  rw [e]
  simp only [List.map_cons, List.map_nil]
  rw [ncell_eq (i := n) (j := 0) (by omega) rfl, ncell_eq (i := n) (j := 1) (by omega) rfl, ncell_eq (i := n) (j := 2) (by omega) rfl, ncell_eq (i := n) (j := 3) (by omega) rfl, ncell_eq (i := n) (j := 4) (by omega) rfl]
  rfl
section
variable {t : TRep} {n x b c : Nat} {w : World} {T : TypeId}
theorem nc_at {j : Nat} (h : (row (.slice (some ⟨b, 0, none⟩) n c) T 5 n (nodeC n t)).holds w) (hx : x < n) (hj : j < 5) : w.cell? ⟨b, x * 5 + j, none⟩ = some (ncell t (x * 5 + j)) :=
  row_cell h (by
    have hq : x * 5 + j < n * 5 := by omega
    simp [nodeC, hq])
theorem nc_pa (h : (row (.slice (some ⟨b, 0, none⟩) n c) T 5 n (nodeC n t)).holds w) (hx : x < n) : w.cell? ⟨b, x * 5 + 0, none⟩ = some (.int .i64 (nO (t.pa x))) := (nc_at h hx (by omega)).trans (by rw [ncell_eq (i := x) (j := 0) (by omega) rfl]; rfl)
theorem nc_ch (h : (row (.slice (some ⟨b, 0, none⟩) n c) T 5 n (nodeC n t)).holds w) (hx : x < n) : w.cell? ⟨b, x * 5 + 1, none⟩ = some (.int .i64 (nO (t.ch x))) := (nc_at h hx (by omega)).trans (by rw [ncell_eq (i := x) (j := 1) (by omega) rfl]; rfl)
theorem nc_sb (h : (row (.slice (some ⟨b, 0, none⟩) n c) T 5 n (nodeC n t)).holds w) (hx : x < n) : w.cell? ⟨b, x * 5 + 2, none⟩ = some (.int .i64 (nO (t.sb x))) := (nc_at h hx (by omega)).trans (by rw [ncell_eq (i := x) (j := 2) (by omega) rfl]; rfl)
theorem nc_en (h : (row (.slice (some ⟨b, 0, none⟩) n c) T 5 n (nodeC n t)).holds w) (hx : x < n) : w.cell? ⟨b, x * 5 + 3, none⟩ = some (.int .i64 ((t.en x : Nat) : Int)) := (nc_at h hx (by omega)).trans (by rw [ncell_eq (i := x) (j := 3) (by omega) rfl]; rfl)
theorem nc_ex (h : (row (.slice (some ⟨b, 0, none⟩) n c) T 5 n (nodeC n t)).holds w) (hx : x < n) : w.cell? ⟨b, x * 5 + 4, none⟩ = some (.int .i64 ((t.ex x : Nat) : Int)) := (nc_at h hx (by omega)).trans (by rw [ncell_eq (i := x) (j := 4) (by omega) rfl]; rfl)
theorem nc_all (h : (row (.slice (some ⟨b, 0, none⟩) n c) T 5 n (nodeC n t)).holds w) (hx : x < n) : ∀ j v, (node5 t x)[j]? = some v → w.cell? ⟨b, x * 5 + j, none⟩ = some v
  | 0, v, e => by cases e; exact nc_pa h hx
  | 1, v, e => by cases e; exact nc_ch h hx
  | 2, v, e => by cases e; exact nc_sb h hx
  | 3, v, e => by cases e; exact nc_en h hx
  | 4, v, e => by cases e; exact nc_ex h hx
  | j + 5, v, e => by simp [node5] at e
end
theorem node5_one {t : TRep} {x : Nat} : ∀ u ∈ node5 t x, u.oneCell' = true := by
  intro u hu; simp only [node5, List.mem_cons, List.not_mem_nil, or_false] at hu; rcases hu with rfl | rfl | rfl | rfl | rfl <;> rfl
/-- Where the children and siblings lead. -/
theorem TB.lt {G : Graph} {P : Nat → Option Nat} {r : Nat → Nat} {t : TRep} (hg : Gd G) (hT : TreeP G P r) (h : TB G P t) : (∀ x i, t.ch x = some i → i < G.length) ∧ ∀ x i, t.sb x = some i → i < G.length := by
  refine ⟨fun x i e => ?_, fun x i e => ?_⟩
  · rw [h.ch] at e
    exact (postL_ok hg).lt i (hT.mem i x ((mem_chs hT).1 (List.mem_of_mem_head? e))).1
  · rw [h.sb] at e
    obtain ⟨p, A, B, h1, h2⟩ := sibF_some hT e
    exact (postL_ok hg).lt i (hT.mem i p ((mem_chs hT).1 (by rw [h2]; simp))).1

set_option maxHeartbeats 1000000 in
theorem numberBlock_step {f : FRep} {G : Graph} {P : Nat → Option Nat} {r : Nat → Nat} {tb k : Nat} (hg : Gd G) (hT : TreeP G P r) (hd : ∀ c, (funcR f G).fp c → c ≠ tb) (ih : NbOK f G P r tb k) : NbOK f G P r tb (k + 1) := by
  intro w0 t b lo hF hb hB hbm hr hlo
  have hA := funcAt hF
  have hS := St.start hb
  have hle := hg.le
  have hbl := (postL_ok hg).lt b hbm
  rw [preo_one, List.length_cons] at hlo
  have hFk : ∀ {η : List Res} {w : World}, St w0 (blk tb 98 (tcells f G.length t)).fp η w → (funcR f G).holds w := fun h => h.keep hF (fun c hc => hd c hc)
  refine V_enter (N := 54) Try.func68 rfl Try.ntmps68 rfl ?_
  refine VC.sub (τ := [(0, _), (1, _), (2, _)]) ⟨rfl, rfl, rfl, trivial⟩ ?_
  refine VC_seq ?_
  refine VC_region ?_
  refine VL_val rfl rfl rfl (yd_assign rfl) ?_
  refine VL_nil ?_
  refine VE_then ?_
  refine VC_seq ?_
  refine VC_region ?_
  refine VL_val rfl rfl rfl (yd_move rfl) ?_
  refine VL_val rfl rfl rfl (yd_add rfl rfl ((lo + 1 : Nat) : Int) (by rw [wi32 (by omega) (by omega)]; omega)) ?_
  refine VL_val rfl rfl rfl (yd_assign rfl) ?_
  refine VL_nil ?_
  refine VE_then ?_
  refine VC_seq ?_
  refine VC_region ?_
  refine VL_val rfl rfl rfl (yd_move rfl) ?_
  refine VL_val rfl rfl rfl (yd_move rfl) ?_
  refine VL_val rfl rfl rfl (yd_nilc rfl) ?_
  refine VL_val rfl rfl rfl (yd_field rfl T.fld93_0) ?_
  refine VL_val rfl rfl rfl (yd_load rfl T.one90 (hS.cell (hA.id b hbl) (hd _ (fp_bb hbl)))) ?_
  refine VL_val rfl rfl rfl (yd_move rfl) ?_
  refine VL_val rfl rfl rfl (yd_index rfl rfl Try.underlying69 T.sz98 (by omega) ((b + 1) * 5) (Nat.zero_add _)) ?_
  refine VL_val rfl rfl rfl (yd_field rfl T.fld98_3) ?_
  refine VL_store rfl rfl rfl rfl rfl T.one21 rfl hS 0 rfl (by rw [tcells_len]; omega) ?_
  clear hS; intro w hS
  rw [tset_en] at hS
  refine VL_nil ?_
  refine VE_then ?_
  refine VC_seq ?_
  refine VC_region ?_
  refine VL_val rfl rfl rfl (yd_move rfl) ?_
  refine VL_val rfl rfl rfl (yd_add rfl rfl ((lo + 3 + 6 * (preo (chs G P) k []).length : Nat) : Int) (by rw [preo_nil, List.length_nil, wi32 (by omega) (by omega)]; omega)) ?_
  refine VL_val rfl rfl rfl (yd_assign rfl) ?_
  refine VL_nil ?_
  refine VE_then ?_
  refine VC_seq ?_
  refine VC_seq ?_
  refine VC_region ?_
  refine VL_val rfl rfl rfl (yd_move rfl) ?_
  refine VL_val rfl rfl rfl (yd_move rfl) ?_
  refine VL_val rfl rfl rfl (yd_nilc rfl) ?_
  refine VL_val rfl rfl rfl (yd_field rfl T.fld93_0) ?_
  refine VL_val rfl rfl rfl (yd_load rfl T.one90 (hS.cell (hA.id b hbl) (hd _ (fp_bb hbl)))) ?_
  refine VL_val rfl rfl rfl (yd_index rfl rfl Try.underlying69 T.sz98 (by omega) ((b + 1) * 5) (Nat.zero_add _)) ?_
  refine VL_val rfl rfl rfl (yd_field rfl T.fld98_0) ?_
  refine VL_val rfl rfl rfl (yd_load rfl T.one82 ((tc_ch (hS.get 0 rfl) hbl).trans (congrArg (fun o => some (pP f o)) (hB.ch b)))) ?_
  refine VL_val rfl rfl rfl (yd_assign rfl) ?_
  refine VL_nil ?_
  refine VE_then ?_
  refine VC_block ?_
  refine VC_loop4 [0, 1, 6] [_, _, _] rfl (fun (dn : List Nat) (rest : List Nat) (en : Nat → Nat) (ex : Nat → Nat) => [(7, pP f rest.head?), (2, .int .i32 ((lo + 3 + 6 * (preo (chs G P) k dn).length : Nat) : Int))]) (fun (dn : List Nat) (rest : List Nat) (en : Nat → Nat) (ex : Nat → Nat) w => chs G P b = dn ++ rest ∧ en b = lo + 1 ∧ Nums (chs G P) en ex dn (lo + 3) (lo + 3 + 6 * (preo (chs G P) k dn).length) ∧ (∀ v, ¬ Abv P b v → en v = t.en v ∧ ex v = t.ex v) ∧ St w0 (blk tb 98 (tcells f G.length t)).fp [blk tb 98 (tcells f G.length ⟨t.ch, t.sb, t.pa, en, ex⟩)] w) (fun (dn : List Nat) (rest : List Nat) (en : Nat → Nat) (ex : Nat → Nat) => rest.length) [] (chs G P b) (upd t.en b (lo + 1)) t.ex ⟨rfl, rfl, trivial⟩ (⟨rfl, upd_same _ _ _, by rw [preo_nil]; exact .nil _, fun v hv => ⟨upd_ne _ _ (fun e => hv (by rw [e]; exact .refl _)), rfl⟩, hS⟩) ?_
  clear hS; rintro dn rest en ex w ⟨hcut, heb, hN, hfr, hS⟩
  have hA1 := funcAt (hFk hS)
  have hch : ∀ c, c ∈ chs G P b → P c = some b := fun c hc => (mem_chs hT).1 hc
  have hpl : (preo (chs G P) k (chs G P b)).length = (preo (chs G P) k dn).length + (preo (chs G P) k rest).length := by rw [hcut, preo_app, List.length_append]
  refine VC_seq ?_
  refine VC_seq ?_
  refine VC_region ?_
  refine VL_val rfl rfl rfl (yd_move rfl) ?_
  refine VL_val rfl rfl rfl (yd_neqp rfl rfl Try.underlying82 T.sz93 (by decide) (isC_pA hA1 (fun i h => (postL_ok hg).lt i (hT.mem i b (hch i (by rw [hcut]; exact List.mem_append_right _ (List.mem_of_mem_head? h)))).1)) isC_none) ?_
  refine VL_nil ?_
  refine VE_then ?_
  refine VC_cond rfl (fun h29 => ?_) (fun h29 => ?_)
  · replace h29 := of_decide_eq_true h29
    obtain ⟨c, rest1, rfl⟩ : ∃ c rest1, rest = c :: rest1 := by
      cases rest with
      | nil => exact absurd rfl h29
      | cons c l => exact ⟨c, l, rfl⟩
    have hpc := hch c (by rw [hcut]; simp)
    have hcm := (hT.mem c b hpc).1
    have hcl := (postL_ok hg).lt c hcm
    have hrk := hT.rank c b hpc
    have hp1 : (preo (chs G P) k (c :: rest1)).length = (preo (chs G P) k [c]).length + (preo (chs G P) k rest1).length := by rw [← List.length_append, ← preo_app]; rfl
    have hp2 : (preo (chs G P) k (dn ++ [c])).length = (preo (chs G P) k dn).length + (preo (chs G P) k [c]).length := by rw [preo_app, List.length_append]
    refine VC_skip ?_
    refine VE_then ?_
    refine VC_seq ?_
    refine VC_block ?_
    refine VC_region ?_
    refine VL_val rfl rfl rfl (yd_move rfl) ?_
    refine VL_val rfl rfl rfl (yd_move rfl) ?_
    refine VL_val rfl rfl rfl (yd_move rfl) ?_
    refine VL_call rfl rfl rfl rfl T.call68 rfl (ih _ ⟨t.ch, t.sb, t.pa, en, ex⟩ c _ (hFk hS) (hS.get 0 rfl) ⟨hB.ch, hB.sb⟩ hcm (by omega) (by omega)) ?_
    rintro _ w ⟨en1, ex1, hi, hhi, rfl, hN1, hfr1, hR⟩
    have hS := hS.call1 0 rfl hR
    obtain rfl : hi = lo + 3 + 6 * (preo (chs G P) k (dn ++ [c])).length := by omega
    refine VL_val rfl rfl rfl (yd_assign rfl) ?_
    refine VL_nil ?_
    refine VE_block_normal ?_
    refine VE_then ?_
    refine VC_region ?_
    refine VL_val rfl rfl rfl (yd_move rfl) ?_
    refine VL_val rfl rfl rfl (yd_move rfl) ?_
    refine VL_val rfl rfl rfl (yd_nilc rfl) ?_
    refine VL_val rfl rfl rfl (yd_field rfl T.fld93_0) ?_
    refine VL_val rfl rfl rfl (yd_load rfl T.one90 (hS.cell (hA.id c hcl) (hd _ (fp_bb hcl)))) ?_
    refine VL_val rfl rfl rfl (yd_index rfl rfl Try.underlying69 T.sz98 (by omega) ((c + 1) * 5) (Nat.zero_add _)) ?_
    refine VL_val rfl rfl rfl (yd_field rfl T.fld98_1) ?_
    refine VL_val rfl rfl rfl (yd_load rfl T.one82 ((tc_sb (hS.get 0 rfl) hcl).trans (congrArg (fun o => some (pP f o)) ((hB.sb c).trans (sibF_at hg hT hcut))))) ?_
    refine VL_val rfl rfl rfl (yd_assign rfl) ?_
    refine VL_nil ?_
    refine VE_round4 (dn ++ [c]) rest1 en1 ex1 ⟨rfl, rfl, rfl, rfl, rfl, trivial⟩ ⟨by rw [hcut]; simp, ?_, ?_, fun v hv => ?_, hS⟩ (by simp)
    · refine (hfr1 b (fun ha => ?_)).1.trans heb
      have := ha.rk hT.rank; omega
    · refine Nums.snoc (hN.congr (P := P) (fun b c h => (mem_chs hT).1 h) (fun d hd2 v ha => hfr1 v (fun ha2 => ?_))) hN1
      have e := abv_sib hT.rank (hch d (by rw [hcut]; simp [hd2])) hpc ha ha2
      subst e
      have hnd := chs_nodup (P := P) hg b
      rw [hcut] at hnd
      exact (List.nodup_append.1 hnd).2.2 d hd2 d (by simp) rfl
    · have h1 := hfr1 v (fun ha => hv (Abv.trans (.step hpc (.refl _)) ha))
      have h2 := hfr v hv
      exact ⟨h1.1.trans h2.1, h1.2.trans h2.2⟩
  · replace h29 := Decidable.not_not.1 (of_decide_eq_false h29)
    obtain rfl : rest = [] := by
      cases rest with
      | nil => rfl
      | cons c l => exact absurd h29 (by simp [pA])
    rw [List.append_nil] at hcut
    rw [preo_nil, List.length_nil] at hpl
    refine VC_exit ?_
    refine VE_then_exit (VE_then_exit (VE_block_exit ?_))
    refine VE_then ?_
    refine VC_seq ?_
    refine VC_region ?_
    refine VL_val rfl rfl rfl (yd_move rfl) ?_
    refine VL_val rfl rfl rfl (yd_add rfl rfl ((lo + 3 + 6 * (preo (chs G P) k dn).length + 1 : Nat) : Int) (by rw [wi32 (by omega) (by omega)]; omega)) ?_
    refine VL_val rfl rfl rfl (yd_assign rfl) ?_
    refine VL_nil ?_
    refine VE_then ?_
    refine VC_seq ?_
    refine VC_region ?_
    refine VL_val rfl rfl rfl (yd_move rfl) ?_
    refine VL_val rfl rfl rfl (yd_move rfl) ?_
    refine VL_val rfl rfl rfl (yd_nilc rfl) ?_
    refine VL_val rfl rfl rfl (yd_field rfl T.fld93_0) ?_
    refine VL_val rfl rfl rfl (yd_load rfl T.one90 (hS.cell (hA.id b hbl) (hd _ (fp_bb hbl)))) ?_
    refine VL_val rfl rfl rfl (yd_move rfl) ?_
    refine VL_val rfl rfl rfl (yd_index rfl rfl Try.underlying69 T.sz98 (by omega) ((b + 1) * 5) (Nat.zero_add _)) ?_
    refine VL_val rfl rfl rfl (yd_field rfl T.fld98_4) ?_
    refine VL_store rfl rfl rfl rfl rfl T.one21 rfl hS 0 rfl (by rw [tcells_len]; omega) ?_
    clear hS; intro w hS
    rw [tset_ex] at hS
    refine VL_nil ?_
    refine VE_then ?_
    refine VC_seq ?_
    refine VC_region ?_
    refine VL_val rfl rfl rfl (yd_move rfl) ?_
    refine VL_val rfl rfl rfl (yd_add rfl rfl ((lo + 3 + 6 * (preo (chs G P) k dn).length + 1 + 2 : Nat) : Int) (by rw [wi32 (by omega) (by omega)]; omega)) ?_
    refine VL_val rfl rfl rfl (yd_assign rfl) ?_
    refine VL_nil ?_
    refine VE_then ?_
    refine VC_ret ?_
    refine VE_ret1 (rfl) rfl ?_
    refine ⟨en, upd ex b (lo + 3 + 6 * (preo (chs G P) k dn).length + 1), _, ?_, rfl, ?_, fun v hv => ?_, hS⟩
    · rw [preo_one, List.length_cons]; omega
    · refine .cons heb ?_ (upd_same _ _ _) ?_
      · rw [hcut]
        refine hN.congr (P := P) (fun b c h => (mem_chs hT).1 h) (fun d hd2 v ha => ⟨rfl, upd_ne _ _ (fun e => ?_)⟩)
        subst e
        have := hT.rank d _ (hch d (by rw [hcut]; exact hd2))
        have := ha.rk hT.rank
        omega
      · have e : lo + 3 + 6 * (preo (chs G P) k dn).length + 1 + 2 = lo + 3 + 6 * (preo (chs G P) k dn).length + 3 := by omega
        rw [e]; exact .nil _
    · exact ⟨(hfr v hv).1, (upd_ne _ _ (fun e => hv (by rw [e]; exact .refl _))).trans (hfr v hv).2⟩


theorem numberBlock_ok {f : FRep} {G : Graph} {P : Nat → Option Nat} {r : Nat → Nat} {tb : Nat} (hg : Gd G) (hT : TreeP G P r) (hd : ∀ c, (funcR f G).fp c → c ≠ tb) : ∀ k, NbOK f G P r tb k
  | 0 => fun w0 t b lo _ _ _ hbm hr _ => by have := hT.rlt b hbm; omega
  | k + 1 => numberBlock_step hg hT hd (numberBlock_ok hg hT hd k)

set_option maxHeartbeats 1000000 in
theorem newSparseTree_ok {w0 : World} {f : FRep} {G : Graph} (hF : (funcR f G).holds w0) (hg : Gd G) {bp : Nat} {L : List (Option Nat)} (hp : (blk bp 82 (L.map (pP f))).holds w0) (hLl : L.length = G.length + 1) {P : Nat → Option Nat} {r : Nat → Nat} (hT : TreeP G P r) (hLP : ∀ x, x < G.length → L[x + 1]! = P x) : Calls Try.prog 54 #[ptr f.bf, .slice (some ⟨bp, 0, none⟩) (G.length + 1) (G.length + 1)] w0 (Ret fun u w' => ∃ b t, u = .slice (some ⟨b, 0, none⟩) (G.length + 1) (G.length + 1) ∧ TOK G P t ∧ St w0 M0 [blk b 98 (tcells f G.length t)] w') := by
  have hA := funcAt hF
  have hle := hg.le
  have hpos := hg.pos
  have hpl := postL_le hg
  have hS := St.refl w0
  refine V_enter (N := 68) Try.func54 rfl Try.ntmps54 rfl ?_
  refine VC.sub (τ := [(0, _), (1, _)]) ⟨rfl, rfl, trivial⟩ ?_
  refine VC_seq ?_
  refine VC_region ?_
  refine VL_val rfl rfl rfl (yd_assign rfl) ?_
  refine VL_nil ?_
  refine VE_then ?_
  refine VC_seq ?_
  refine VC_region ?_
  refine VL_val rfl rfl rfl (yd_move rfl) ?_
  refine VL_call rfl rfl rfl rfl T.call58 rfl (funcPostorder_ok (hS.func hF) hg) ?_
  rintro _ w ⟨bo, co, rfl, hR⟩
  have hS := hS.call0 hR
  refine VL_val rfl rfl rfl (yd_assign rfl) ?_
  refine VL_nil ?_
  refine VE_then ?_
  refine VC_seq ?_
  refine VC_region ?_
  refine VL_val rfl rfl rfl (yd_move rfl) ?_
  refine VL_call rfl rfl rfl rfl T.call57 rfl (numBlocks_ok (hS.func hF) hg) ?_
  rintro _ _ ⟨rfl, rfl⟩
  refine VL_make rfl rfl rfl rfl rfl rfl Try.underlying69 T.e98 (by omega) (by omega) (by omega) hS ?_
  clear hS; intro b15 w hS
  have hS : St w0 M0 [row (.slice (some ⟨bo, 0, none⟩) (postL G).length co) 82 1 (postL G).length (ordV f (postL G)), blk b15 98 (tcells f G.length T0)] w := by rw [← tcells_init (f := f)]; exact hS
  refine VL_val rfl rfl rfl (yd_assign rfl) ?_
  refine VL_nil ?_
  refine VE_then ?_
  refine VC_seq ?_
  refine VC_seq ?_
  refine VC_region ?_
  refine VL_val rfl rfl rfl (yd_move rfl) ?_
  refine VL_val rfl rfl rfl (yd_len rfl Try.underlying72) ?_
  refine VL_val rfl rfl rfl (yd_move rfl) ?_
  refine VL_nil ?_
  refine VE_then ?_
  refine VC_block ?_
  refine VC_loop2 [0, 1, 4, 6, 16, 17] [_, _, _, _, _, _] rfl (fun (k : Nat) (t : TRep) => [(18, .int .i64 ((k : Nat) : Int))]) (fun (k : Nat) (t : TRep) w => k ≤ (postL G).length ∧ TK G P k t ∧ St w0 M0 [row (.slice (some ⟨bo, 0, none⟩) (postL G).length co) 82 1 (postL G).length (ordV f (postL G)), blk b15 98 (tcells f G.length t)] w) (fun (k : Nat) (t : TRep) => (postL G).length - k) 0 T0 ⟨rfl, trivial⟩ (⟨Nat.zero_le _, tk_init, hS⟩) ?_
  clear hS; rintro k t w ⟨hk, hK, hS⟩
  refine VC_seq ?_
  refine VC_region ?_
  refine VL_val rfl rfl rfl (yd_lss rfl rfl) ?_
  refine VL_nil ?_
  refine VE_then ?_
  refine VC_seq ?_
  refine VC_cond rfl (fun h19 => ?_) (fun h19 => ?_)
  · replace h19 := of_decide_eq_true h19
    refine VC_skip ?_
    refine VE_then ?_
    refine VC_seq ?_
    refine VC_block ?_
    refine VC_seq ?_
    refine VC_region ?_
    obtain ⟨b, hb⟩ : ∃ b, b = (postL G)[k]! := ⟨_, rfl⟩
    have hkl : k < (postL G).length := by omega
    have hbm : b ∈ postL G := by rw [hb, getElem!_pos (postL G) k hkl]; exact List.getElem_mem _
    have hbl := (postL_ok hg).lt b hbm
    obtain ⟨po, hpo⟩ : ∃ o, o = P b := ⟨_, rfl⟩
    refine VL_val rfl rfl rfl (yd_index0 rfl rfl Try.underlying72 T.sz82 (by omega)) ?_
    refine VL_val rfl rfl rfl (yd_load rfl T.one82 (show _ = some (ptr (f.bb b)) by rw [hb]; exact ord_cell (hS.get 0 rfl) (by omega))) ?_
    refine VL_val rfl rfl rfl (yd_assign rfl) ?_
    refine VL_nil ?_
    refine VE_then ?_
    refine VC_seq ?_
    refine VC_region ?_
    refine VL_val rfl rfl rfl (yd_move rfl) ?_
    refine VL_val rfl rfl rfl (yd_move rfl) ?_
    refine VL_val rfl rfl rfl (yd_nilc rfl) ?_
    refine VL_val rfl rfl rfl (yd_field rfl T.fld93_0) ?_
    refine VL_val rfl rfl rfl (yd_load rfl T.one90 (hS.cell0 (hA.id b hbl))) ?_
    refine VL_val rfl rfl rfl (yd_index rfl rfl Try.underlying69 T.sz98 (by omega) ((b + 1) * 5) (Nat.zero_add _)) ?_
    refine VL_val rfl rfl rfl (yd_assign rfl) ?_
    refine VL_nil ?_
    refine VE_then ?_
    refine VC_seq ?_
    refine VC_region ?_
    refine VL_val rfl rfl rfl (yd_move rfl) ?_
    refine VL_val rfl rfl rfl (yd_move rfl) ?_
    refine VL_val rfl rfl rfl (yd_nilc rfl) ?_
    refine VL_val rfl rfl rfl (yd_field rfl T.fld93_0) ?_
    refine VL_val rfl rfl rfl (yd_load rfl T.one90 (hS.cell0 (hA.id b hbl))) ?_
    refine VL_val rfl rfl rfl (yd_index0 rfl rfl Try.underlying72 T.sz82 (by omega)) ?_
    refine VL_val rfl rfl rfl (yd_load rfl T.one82 (show _ = some (pP f po) by rw [hpo, ← hLP b hbl]; exact hS.cell0 (blk_cellM hp (by omega)))) ?_
    refine VL_val rfl rfl rfl (yd_assign rfl) ?_
    refine VL_nil ?_
    refine VE_then ?_
    refine VC_seq ?_
    refine VC_region ?_
    have hA1 := funcAt (hS.func hF)
    refine VL_val rfl rfl rfl (yd_move rfl) ?_
    refine VL_val rfl rfl rfl (yd_neqp rfl rfl Try.underlying82 T.sz93 (by decide) (isC_pA hA1 (fun i h => (postL_ok hg).lt i (hT.mem b i (by rw [← hpo]; exact h)).2)) isC_none) ?_
    refine VL_nil ?_
    refine VE_then ?_
    refine VC_cond rfl (fun h36 => ?_) (fun h36 => ?_)
    · replace h36 := of_decide_eq_true h36
      obtain ⟨p, rfl⟩ : ∃ p, po = some p := Option.ne_none_iff_exists'.1 (fun e => h36 (by rw [e]; rfl))
      have hpl1 := (postL_ok hg).lt p (hT.mem b p hpo.symm).2
      refine VC_seq ?_
      refine VC_region ?_
      refine VL_val rfl rfl rfl (yd_move rfl) ?_
      refine VL_val rfl rfl rfl (yd_move rfl) ?_
      refine VL_val rfl rfl rfl (yd_nilc rfl) ?_
      refine VL_val rfl rfl rfl (yd_field rfl T.fld98_2) ?_
      refine VL_store (v := pP f (some p)) rfl rfl rfl rfl rfl T.one82 rfl hS 1 rfl (by rw [tcells_len]; omega) ?_
      clear hS; intro w hS
      rw [tset_pa] at hS
      refine VL_nil ?_
      refine VE_then ?_
      refine VC_seq ?_
      refine VC_region ?_
      refine VL_val rfl rfl rfl (yd_move rfl) ?_
      refine VL_val rfl rfl rfl (yd_move rfl) ?_
      refine VL_val rfl rfl rfl (yd_move rfl) ?_
      refine VL_val rfl rfl rfl (yd_nilc rfl) ?_
      refine VL_val rfl rfl rfl (yd_field rfl T.fld93_0) ?_
      refine VL_val rfl rfl rfl (yd_load rfl T.one90 (hS.cell0 (hA.id p hpl1))) ?_
      refine VL_val rfl rfl rfl (yd_index rfl rfl Try.underlying69 T.sz98 (by omega) ((p + 1) * 5) (Nat.zero_add _)) ?_
      refine VL_val rfl rfl rfl (yd_field rfl T.fld98_0) ?_
      refine VL_val rfl rfl rfl (yd_load rfl T.one82 (tc_ch (hS.get 1 rfl) hpl1)) ?_
      refine VL_val rfl rfl rfl (yd_nilc rfl) ?_
      refine VL_val rfl rfl rfl (yd_field rfl T.fld98_1) ?_
      refine VL_store (v := pP f (t.ch p)) rfl rfl rfl rfl rfl T.one82 rfl hS 1 rfl (by rw [tcells_len]; omega) ?_
      clear hS; intro w hS
      rw [tset_sb] at hS
      refine VL_nil ?_
      refine VE_then ?_
      refine VC_region ?_
      refine VL_val rfl rfl rfl (yd_move rfl) ?_
      refine VL_val rfl rfl rfl (yd_move rfl) ?_
      refine VL_val rfl rfl rfl (yd_nilc rfl) ?_
      refine VL_val rfl rfl rfl (yd_field rfl T.fld93_0) ?_
      refine VL_val rfl rfl rfl (yd_load rfl T.one90 (hS.cell0 (hA.id p hpl1))) ?_
      refine VL_val rfl rfl rfl (yd_move rfl) ?_
      refine VL_val rfl rfl rfl (yd_index rfl rfl Try.underlying69 T.sz98 (by omega) ((p + 1) * 5) (Nat.zero_add _)) ?_
      refine VL_val rfl rfl rfl (yd_field rfl T.fld98_0) ?_
      refine VL_store (v := pP f (some b)) rfl rfl rfl rfl rfl T.one82 rfl hS 1 rfl (by rw [tcells_len]; omega) ?_
      clear hS; intro w hS
      rw [tset_ch] at hS
      refine VL_nil ?_
      have hK2 := hK.some hg hkl hb hpo.symm
      refine VE_block_normal ?_
      refine VE_then ?_
      refine VC_region ?_
      refine VL_val rfl rfl rfl (yd_add rfl rfl ((k + 1 : Nat) : Int) (by rw [wi64 (by omega) (by omega)]; omega)) ?_
      refine VL_val rfl rfl rfl (yd_move rfl) ?_
      refine VL_nil ?_
      first
      | exact VE_round2 (k + 1) _ ⟨rfl, rfl, rfl, rfl, rfl, rfl, rfl, trivial⟩ ⟨by omega, hK2, hS⟩ (by omega)
      | exact VE_round2 (k + 1) t ⟨rfl, rfl, rfl, rfl, rfl, rfl, rfl, trivial⟩ ⟨by omega, hK1, hS⟩ (by omega)
    · replace h36 := Decidable.not_not.1 (of_decide_eq_false h36)
      have hpn : po = none := pA_none h36
      have hK1 := hK.none hg hkl hb (by rw [← hpo, hpn])
      refine VC_skip ?_
      refine VE_block_normal ?_
      refine VE_then ?_
      refine VC_region ?_
      refine VL_val rfl rfl rfl (yd_add rfl rfl ((k + 1 : Nat) : Int) (by rw [wi64 (by omega) (by omega)]; omega)) ?_
      refine VL_val rfl rfl rfl (yd_move rfl) ?_
      refine VL_nil ?_
      first
      | exact VE_round2 (k + 1) _ ⟨rfl, rfl, rfl, rfl, rfl, rfl, rfl, trivial⟩ ⟨by omega, hK2, hS⟩ (by omega)
      | exact VE_round2 (k + 1) t ⟨rfl, rfl, rfl, rfl, rfl, rfl, rfl, trivial⟩ ⟨by omega, hK1, hS⟩ (by omega)
  · replace h19 := Int.not_lt.1 (of_decide_eq_false h19)
    refine VC_exit ?_
    refine VE_then_exit (VE_then_exit (VE_block_exit ?_))
    refine VE_then ?_
    refine VC_seq ?_
    refine VC_region ?_
    obtain rfl : k = (postL G).length := by omega
    obtain ⟨hTB, hpa⟩ := hK.done hT
    have hd : ∀ c, (funcR f G).fp c → c ≠ b15 := fun c hc e => by
      have h1 := (funcR f G).dom w0 hF c hc
      rcases hS.own (blk b15 98 (tcells f G.length t)) (by simp) b15 rfl with h2 | h2
      · exact h2
      · omega
    have hpr := preo_le hg hT 13
    refine VL_val rfl rfl rfl (yd_move rfl) ?_
    refine VL_val rfl rfl rfl (yd_move rfl) ?_
    refine VL_val rfl rfl rfl (yd_nilc rfl) ?_
    refine VL_val rfl rfl rfl (yd_field rfl T.fld89_0) ?_
    refine VL_val rfl rfl rfl (yd_load rfl T.one82 (hS.cell0 hA.entry)) ?_
    refine VL_call rfl rfl rfl rfl T.call68 rfl (numberBlock_ok hg hT hd 13 _ t 0 1 (hS.func hF) (hS.get 1 rfl) hTB (zero_mem hg) (by omega) (by omega)) ?_
    rintro _ w ⟨en, ex, hi, hhi, rfl, hN, hfr, hR⟩
    have hS := hS.call1 1 rfl hR
    refine VL_nil ?_
    refine VE_then ?_
    refine VC_seq ?_
    refine VC_region ?_
    refine VL_val rfl rfl rfl (yd_move rfl) ?_
    refine VL_val rfl rfl rfl (yd_assign rfl) ?_
    refine VL_nil ?_
    refine VE_then ?_
    refine VC_ret ?_
    refine VE_ret1 (rfl) rfl ?_
    have hnum := numOK hg hT hN (by omega)
    refine ⟨b15, ⟨t.ch, t.sb, t.pa, en, ex⟩, rfl, ⟨⟨hTB.ch, hTB.sb⟩, hpa, hnum, fun c => ?_⟩, hS.sub (List.Sublist.cons _ (List.Sublist.refl _))⟩
    show en c ≤ 1000 ∧ ex c ≤ 1000
    by_cases hc : c ∈ postL G
    · have h1 := hnum.lt c hc
      have h2 := hnum.le c hc
      omega
    · have h1 := hfr c (fun ha => hc (abv_mem hT (zero_mem hg) ha))
      rw [h1.1, h1.2, hK.z.1, hK.z.2]; omega

theorem sdom_ok {w0 : World} {f : FRep} {G : Graph} (hF : (funcR f G).holds w0) (hP : PredsOk f G) (hg : Gd G) : Calls Try.prog 45 #[ptr f.bf] w0 (Ret fun u w' => ∃ b t L, u = .slice (some ⟨b, 0, none⟩) (G.length + 1) (G.length + 1) ∧ IdomsOK G L ∧ TOK G (fun y => L[y]!) t ∧ St w0 M0 [blk b 98 (tcells f G.length t)] w') := by
  have hS := St.refl w0
  refine V_enter (N := 7) Try.func45 rfl Try.ntmps45 rfl ?_
  refine VC.sub (τ := [(0, _)]) ⟨rfl, trivial⟩ ?_
  refine VC_seq ?_
  refine VC_region ?_
  refine VL_val rfl rfl rfl (yd_assign rfl) ?_
  refine VL_nil ?_
  refine VE_then ?_
  refine VC_seq ?_
  refine VC_region ?_
  refine VL_val rfl rfl rfl (yd_move rfl) ?_
  refine VL_val rfl rfl rfl (yd_move rfl) ?_
  refine VL_call rfl rfl rfl rfl T.call48 rfl (dominators_ok (hS.func hF) hP hg) ?_
  rintro _ w ⟨bi, L, rfl, hLl, hid, hR⟩
  have hS := hS.call0 hR
  refine VL_call rfl rfl rfl rfl T.call54 rfl (newSparseTree_ok (hS.func hF) hg (hS.get 0 rfl) hLl (tree_idoms hg hid) (fun x hx => by rw [getElem!_pos L (x + 1) (by omega), getElem!_pos (L.drop 1) x (by rw [List.length_drop]; omega), List.getElem_drop]; congr 1; omega)) ?_
  rintro _ w ⟨b, t, rfl, hok, hR2⟩
  have hS := hS.call0 hR2
  refine VL_val rfl rfl rfl (yd_assign rfl) ?_
  refine VL_nil ?_
  refine VE_then ?_
  refine VC_ret ?_
  refine VE_ret1 (rfl) rfl ?_
  exact ⟨b, t, _, rfl, hid, hok, hS.sub (List.Sublist.cons _ (List.Sublist.refl _))⟩

end Go.Proofs.Ytmoooaaiohplhac
