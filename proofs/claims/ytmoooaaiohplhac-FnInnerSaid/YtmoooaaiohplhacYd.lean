/- Header, Loop, Loops, Innermost, Depth. -/
import Derived.Test.YtmoooaaiohplhacYc
namespace Go.Proofs.Ytmoooaaiohplhac
open Go Go.V
set_option linter.unusedVariables false
set_option maxRecDepth 100000

theorem T.fld45_0 : FieldT Try.prog 45 0 0 := FieldT.of (by kernel_rfl)
theorem T.sz45 : (Try.prog.info? 45).map (·.size) = some 5 := by kernel_rfl
theorem T.call30 : CallT Try.prog 30 := CallT.of Try.func30 (by kernel_rfl) (by kernel_rfl)
theorem T.call40 : CallT Try.prog 40 := CallT.of Try.func40 (by kernel_rfl) (by kernel_rfl)

open Go.PL
/-- Ways back are marked. -/
def BKupto (G : Graph) (h x j : Nat) (R : List Bool) : Prop := ∀ a i, a < G.length → i < G[a]!.length → (a < x ∨ (a = x ∧ i < j)) → G[a]![i]! = h → Dm G h a → R[a]! = true
structure LSnd (G : Graph) (h : Nat) (R : List Bool) : Prop where
  len : R.length = G.length
  src : R[h]! = true
  snd : ∀ y, y < G.length → R[y]! = true → Lp G h y
/-- Closed under the ways into blocks that are marked. -/
def LUpto (G : Graph) (h : Nat) (R : List Bool) (x j : Nat) : Prop :=
  ∀ a i, a < G.length → i < G[a]!.length → (a < x ∨ (a = x ∧ i < j)) → G[a]![i]! ≠ h → R[G[a]![i]!]! = true → R[a]! = true
def LClosed (G : Graph) (h : Nat) (R : List Bool) : Prop := LUpto G h R G.length 0
def LJ (G : Graph) (h : Nat) (R : List Bool) (r x j : Nat) : Prop := LClosed G h R ∨ r + 2 ≤ cnt R ∨ (r + 1 ≤ cnt R ∧ LUpto G h R x j)
section
variable {G : Graph} {h x j r : Nat} {R : List Bool}
theorem LJ.start (hh : LClosed G h R ∨ r + 1 ≤ cnt R) : LJ G h R r 0 0 := by
  rcases hh with hh | hh
  · exact .inl hh
  · exact .inr (.inr ⟨hh, fun a i _ _ h => by omega⟩)
theorem LJ.row (hh : LJ G h R r x j) (hj : G[x]!.length ≤ j) : LJ G h R r (x + 1) 0 := by
  rcases hh with hh | hh | ⟨h1, h2⟩
  · exact .inl hh
  · exact .inr (.inl hh)
  · refine .inr (.inr ⟨h1, fun a i ha hi hh => h2 a i ha hi ?_⟩)
    rcases Nat.lt_or_ge a x with h3 | h3
    · exact .inl h3
    · obtain rfl : a = x := by omega
      exact .inr ⟨rfl, by omega⟩
theorem LJ.skip (hh : LJ G h R r x j) (hn : G[x]![j]! ≠ h → R[G[x]![j]!]! = true → False) : LJ G h R r x (j + 1) := by
  rcases hh with hh | hh | ⟨h1, h2⟩
  · exact .inl hh
  · exact .inr (.inl hh)
  · refine .inr (.inr ⟨h1, fun a i ha hi hh hR hw => ?_⟩)
    by_cases e : a = x ∧ i = j
    · obtain ⟨rfl, rfl⟩ := e; exact (hn hR hw).elim
    · exact h2 a i ha hi (by omega) hR hw
theorem LJ.take (hl : R.length = G.length) (hh : LJ G h R r x j) (hx : x < G.length) (hj : j < G[x]!.length) (hne : G[x]![j]! ≠ h) (hR : R[G[x]![j]!]! = true) : LJ G h (R.set x true) r x (j + 1) := by
  cases hb : R[x]! with
  | true =>
    rw [set_same R _ hb]
    rcases hh with hh | hh | ⟨h1, h2⟩
    · exact .inl hh
    · exact .inr (.inl hh)
    · refine .inr (.inr ⟨h1, fun a i ha hi hh hR hw => ?_⟩)
      by_cases e : a = x ∧ i = j
      · obtain ⟨rfl, rfl⟩ := e; exact hb
      · exact h2 a i ha hi (by omega) hR hw
  | false =>
    have hc := cnt_set R x (by rw [hl]; exact hx) hb
    rcases hh with hh | hh | ⟨h1, h2⟩
    · have := hh x j hx hj (.inl hx) hne hR
      rw [this] at hb; cases hb
    · exact .inr (.inl (by omega))
    · exact .inr (.inl (by omega))
theorem LJ.done (hh : LJ G h R r G.length 0) : LClosed G h R ∨ r + 1 + 1 ≤ cnt R := by
  rcases hh with hh | hh | ⟨_, h2⟩
  · exact .inl hh
  · exact .inr hh
  · exact .inl h2
theorem LSnd.mark (hs : LSnd G h R) (hx : x < G.length) (hl : Lp G h x) : LSnd G h (R.set x true) := by
  have hxl : x < R.length := by rw [hs.len]; exact hx
  refine ⟨by simp [hs.len], ?_, fun y hy e => ?_⟩
  · rw [get!_set _ _ _ _ hxl]; split
    · rfl
    · exact hs.src
  · rw [get!_set _ _ _ _ hxl] at e
    split at e
    · rename_i e2; subst e2; exact hl
    · exact hs.snd y hy e
theorem set_keep {a : Nat} (hx : x < R.length) (ha : R[a]! = true) : (R.set x true)[a]! = true := by
  rw [get!_set _ _ _ _ hx]; split
  · rfl
  · exact ha
theorem BKupto.set {q i : Nat} (hb : BKupto G h q i R) (hx : x < R.length) : BKupto G h q i (R.set x true) := fun a p ha hp hh e hd => set_keep hx (hb a p ha hp hh e hd)
theorem BKupto.row (hb : BKupto G h x j R) (hj : G[x]!.length ≤ j) : BKupto G h (x + 1) 0 R := fun a i ha hi hh => hb a i ha hi (by
  rcases Nat.lt_or_ge a x with h3 | h3
  · exact .inl h3
  · obtain rfl : a = x := by omega
    exact .inr ⟨rfl, by omega⟩)
theorem BKupto.next (hb : BKupto G h x j R) (hn : G[x]![j]! = h → Dm G h x → R[x]! = true) : BKupto G h x (j + 1) R := fun a i ha hi hh e hd => by
  by_cases e2 : a = x ∧ i = j
  · obtain ⟨rfl, rfl⟩ := e2; exact hn e hd
  · exact hb a i ha hi (by omega) e hd
theorem LSnd.init (hh : h < G.length) (hd : Hdr G h) : LSnd G h ((List.replicate G.length false).set h true) := by
  refine ⟨by simp, get!_set_self _ _ _ (by simpa using hh), fun y hy e => ?_⟩
  rw [get!_set _ _ _ _ (by simpa using hh)] at e
  split at e
  · rename_i e2; subst e2; exact .head hd
  · rw [get!_replicate _ _ _ hy] at e; cases e
/-- What Loop returns. -/
def IsLoop (G : Graph) (h : Nat) (R : List Bool) : Prop := R.length = G.length ∧ ∀ y, y < G.length → (R[y]! = true ↔ Lp G h y)
theorem LSnd.done (hg : Gd G) (hs : LSnd G h R) (hb : BKupto G h G.length 0 R) (hc : LClosed G h R ∨ G.length + 1 ≤ cnt R) : IsLoop G h R := by
  have hc : LClosed G h R := by
    rcases hc with hc | hc
    · exact hc
    · have := cnt_le R; rw [hs.len] at this; omega
  refine ⟨hs.len, fun y hy => ⟨hs.snd y hy, fun l => ?_⟩⟩
  clear hy
  induction l with
  | head _ => exact hs.src
  | back e d =>
    have he := e
    obtain ⟨i, hi, e2⟩ := e.idx
    exact hb _ i he.1 hi (.inl he.1) e2 d
  | step e hne _ _ ih =>
    have he := e
    obtain ⟨i, hi, rfl⟩ := e.idx
    exact hc _ i he.1 hi (.inl he.1) hne ih
theorem isLoop_none (hn : ¬ Hdr G h) : IsLoop G h (List.replicate G.length false) := ⟨by simp, fun y hy => by rw [get!_replicate _ _ _ hy]; exact ⟨fun e => (by cases e), fun l => absurd l.hdr hn⟩⟩
end
/-- All loops in memory. -/
structure QRep where
  qb : Nat
  qc : Nat
  rb : Nat → Nat
  lp : Nat → Nat → Bool
def QRep.val (q : QRep) (n : Nat) : Value := .slice (some ⟨q.qb, 0, none⟩) n q.qc
def loopsL (q : QRep) (n : Nat) : List Res := [bundle ((List.range n).map (bR q.rb q.lp n)), row (q.val n) 25 1 n ((List.range n).map fun i => .slice (some ⟨q.rb i, 0, none⟩) n n)]
def allR (q : QRep) (n : Nat) : Res := bundle (loopsL q n)
def QOK (q : QRep) (G : Graph) : Prop := ∀ h x, h < G.length → x < G.length → (q.lp h x = true ↔ Lp G h x)
theorem q_row {w : World} {q : QRep} {n h : Nat} (hq : (allR q n).holds w) (hh : h < n) : w.cell? ⟨q.qb, h, none⟩ = some (.slice (some ⟨q.rb h, 0, none⟩) n n) := by
  have h2 := hq.1 (V.row (q.val n) 25 1 n ((List.range n).map fun i => .slice (some ⟨q.rb i, 0, none⟩) n n)) (by simp [loopsL])
  exact row_cell h2 (by simp [hh])
theorem q_cell {w : World} {q : QRep} {n h x : Nat} (hq : (allR q n).holds w) (hh : h < n) (hx : x < n) : w.cell? ⟨q.rb h, x, none⟩ = some (.bool (q.lp h x)) := by
  have h0 := hq.1 (bundle ((List.range n).map (bR q.rb q.lp n))) (by simp [loopsL])
  exact blk_cell (h0.1 (bR q.rb q.lp n h) (List.mem_map.2 ⟨h, by simpa using hh, rfl⟩)) (by simp [bl, hx])
/-- The innermost loop, other than that of one header. -/
def IsInner (G : Graph) (x : Nat) (other : Int) (o : Option Nat) : Prop := (∀ h, o = some h → Lp G h x ∧ (h : Int) ≠ other ∧ ∀ q, Lp G q x → (q : Int) ≠ other → Dm G q h) ∧ (o = none → ∀ q, Lp G q x → (q : Int) = other)
theorem row_slice {w : World} {v : Value} {e : TypeId} {sz len : Nat} {xs : List Value} (h : (row v e sz len xs).holds w) : ∃ va vc, v = .slice va len vc ∧ (0 < len → ∃ b, va = some ⟨b, 0, none⟩) := by
  rcases h.2 with ⟨h1, h2⟩ | ⟨g, cap, cur, h1, _⟩
  · exact ⟨none, 0, by rw [h1, h2], fun h => by omega⟩
  · exact ⟨_, cap, h1, fun _ => ⟨g, rfl⟩⟩
theorem idx_get {hs : List Nat} {h : Nat} (hh : h ∈ hs) : hs.idxOf h < hs.length ∧ hs[hs.idxOf h]! = h := by
  have hl := List.idxOf_lt_length_of_mem hh
  exact ⟨hl, by rw [getElem!_pos hs _ hl]; exact List.getElem_idxOf hl⟩
theorem IsInner.unique {G : Graph} {x : Nat} {other : Int} {o o' : Option Nat} (h : IsInner G x other o) (h' : IsInner G x other o') : o = o' := by
  cases o with
  | none => cases o' with
    | none => rfl
    | some b => obtain ⟨h1, h2, _⟩ := h'.1 b rfl; exact absurd (h.2 rfl b h1) h2
  | some a => cases o' with
    | none => obtain ⟨h1, h2, _⟩ := h.1 a rfl; exact absurd (h'.2 rfl a h1) h2
    | some b =>
      obtain ⟨h1, h2, h3⟩ := h.1 a rfl
      obtain ⟨h4, h5, h6⟩ := h'.1 b rfl
      rw [Dm.antisymm (h6 a h1 h2) (h3 b h4 h5)]

theorem header_ok {w0 : World} {u v : Value} {s : SRep} {G : Graph} (hA : ShapeAt w0 u v s G) (hg : Gd G) {h : Nat} (hh : h < G.length) : Calls Try.prog 30 #[u, .int .i64 (h : Int)] w0 (Ret fun r w' => ∃ b, r = .bool b ∧ (b = true ↔ Hdr G h) ∧ St w0 M0 [] w') := by
  obtain ⟨rfl, hG, hok, hlive, hdr, hdc⟩ := hA
  obtain ⟨ga, gc, gb, go, rfl, hga, hrow⟩ := hG
  have hpos := hg.pos
  obtain rfl := hga (by omega)
  have hle := hg.le
  have hS := St.refl w0
  refine V_enter (N := 38) Try.func30 rfl Try.ntmps30 rfl ?_
  refine VC.sub (τ := [(0, _), (1, _)]) ⟨rfl, rfl, trivial⟩ ?_
  refine VC_seq ?_
  refine VC_region ?_
  refine VL_box rfl rfl rfl rfl rfl hS ?_
  clear hS; intro b2 w hS
  refine VL_val rfl rfl rfl (yd_assign rfl) ?_
  refine VL_nil ?_
  refine VE_then ?_
  refine VC_seq ?_
  refine VC_seq ?_
  refine VC_region ?_
  refine VL_val rfl rfl rfl (yd_field rfl T.fld37_0) ?_
  refine VL_val rfl rfl rfl (yd_load rfl T.one22 (blk_cell (hS.get 0 rfl) rfl)) ?_
  refine VL_val rfl rfl rfl (yd_len rfl Try.underlying22) ?_
  refine VL_val rfl rfl rfl (yd_move rfl) ?_
  refine VL_nil ?_
  refine VE_then ?_
  refine VC_block ?_
  refine VC_loop1 [1, 2, 10, 11] [_, _, _, _] rfl (fun (x : Nat) => [(12, .int .i64 ((x : Nat) : Int))]) (fun (x : Nat) w => x ≤ G.length ∧ (∀ a, a < x → ¬ (Ed G a h ∧ Dm G h a)) ∧ St w0 M0 [blk b2 37 [.slice (some ⟨gb, go, none⟩) G.length gc, s.live G, s.dom G]] w) (fun (x : Nat) => G.length - x) 0 ⟨rfl, trivial⟩ (⟨Nat.zero_le _, fun a h => absurd h (Nat.not_lt_zero _), hS⟩) ?_
  clear hS; rintro x w ⟨hx, hno, hS⟩
  refine VC_seq ?_
  refine VC_region ?_
  refine VL_val rfl rfl rfl (yd_lss rfl rfl) ?_
  refine VL_nil ?_
  refine VE_then ?_
  refine VC_seq ?_
  refine VC_cond rfl (fun h13 => ?_) (fun h13 => ?_)
  · replace h13 := of_decide_eq_true h13
    refine VC_skip ?_
    refine VE_then ?_
    refine VC_seq ?_
    refine VC_block ?_
    refine VC_seq ?_
    refine VC_region ?_
    have hxl : x < G.length := by omega
    obtain ⟨ra, rc, rb, ro, hc, hra, hcs⟩ := hrow x hxl
    have hr4 := hg.row x hxl
    refine VL_val rfl rfl rfl (yd_move rfl) ?_
    refine VL_val rfl rfl rfl (yd_index1 rfl rfl Try.underlying22 T.sz29 (by omega)) ?_
    refine VL_val rfl rfl rfl (yd_load rfl T.one29 (hS.cell0 hc)) ?_
    refine VL_val rfl rfl rfl (yd_assign rfl) ?_
    refine VL_val rfl rfl rfl (yd_assign rfl) ?_
    refine VL_nil ?_
    refine VE_then ?_
    refine VC_seq ?_
    refine VC_region ?_
    refine VL_val rfl rfl rfl (yd_move rfl) ?_
    refine VL_val rfl rfl rfl (yd_len rfl Try.underlying29) ?_
    refine VL_val rfl rfl rfl (yd_move rfl) ?_
    refine VL_nil ?_
    refine VE_then ?_
    refine VC_block ?_
    refine VC_loop1 [1, 2, 5, 6, 10, 11, 12, 13, 14, 15, 16, 17, 18] [_, _, _, _, _, _, _, _, _, _, _, _, _] rfl (fun (j : Nat) => [(19, .int .i64 ((j : Nat) : Int))]) (fun (j : Nat) w => j ≤ G[x]!.length ∧ (∀ i, i < j → ¬ (G[x]![i]! = h ∧ Dm G h x)) ∧ St w0 M0 [blk b2 37 [.slice (some ⟨gb, go, none⟩) G.length gc, s.live G, s.dom G]] w) (fun (j : Nat) => G[x]!.length - j) 0 ⟨rfl, trivial⟩ (⟨Nat.zero_le _, fun a h => absurd h (Nat.not_lt_zero _), hS⟩) ?_
    clear hS; rintro j w ⟨hj, hnj, hS⟩
    refine VC_seq ?_
    refine VC_region ?_
    refine VL_val rfl rfl rfl (yd_lss rfl rfl) ?_
    refine VL_nil ?_
    refine VE_then ?_
    refine VC_seq ?_
    refine VC_cond rfl (fun h20 => ?_) (fun h20 => ?_)
    · replace h20 := of_decide_eq_true h20
      refine VC_skip ?_
      refine VE_then ?_
      refine VC_seq ?_
      refine VC_block ?_
      refine VC_seq ?_
      refine VC_region ?_
      obtain rfl := hra (by omega)
      refine VL_val rfl rfl rfl (yd_index1 rfl rfl Try.underlying29 T.sz3 (by omega)) ?_
      refine VL_val rfl rfl rfl (yd_load rfl T.one3 (hS.cell0 (hcs j (by omega)))) ?_
      refine VL_val rfl rfl rfl (yd_assign rfl) ?_
      refine VL_nil ?_
      refine VE_then ?_
      refine VC_seq ?_
      refine VC_region ?_
      refine VL_val rfl rfl rfl (yd_move rfl) ?_
      refine VL_val rfl rfl rfl (yd_move rfl) ?_
      refine VL_val rfl rfl rfl (yd_eql rfl rfl) ?_
      refine VL_val rfl rfl rfl (yd_move rfl) ?_
      refine VL_split 26 rfl (fun h26 => ?_) (fun h26 => ?_)
      · replace h26 := of_decide_eq_true h26
        have hjh : G[x]![j]! = h := by omega
        refine VL_yes rfl rfl rfl rfl ?_
        refine VL_val rfl rfl rfl (yd_field rfl T.fld37_2) ?_
        refine VL_yes rfl rfl rfl rfl ?_
        refine VL_val rfl rfl rfl (yd_load rfl T.one35 (blk_cell (hS.get 0 rfl) rfl)) ?_
        refine VL_yes rfl rfl rfl rfl ?_
        refine VL_val rfl rfl rfl (yd_move rfl) ?_
        refine VL_yes rfl rfl rfl rfl ?_
        refine VL_val rfl rfl rfl (yd_index0 rfl rfl Try.underlying35 T.sz25 (by omega)) ?_
        refine VL_yes rfl rfl rfl rfl ?_
        refine VL_val rfl rfl rfl (yd_load rfl T.one25 (hS.cell0 (hdr h hh))) ?_
        refine VL_yes rfl rfl rfl rfl ?_
        refine VL_val rfl rfl rfl (yd_move rfl) ?_
        refine VL_yes rfl rfl rfl rfl ?_
        refine VL_val rfl rfl rfl (yd_index0 rfl rfl Try.underlying25 T.sz4 (by omega)) ?_
        refine VL_yes rfl rfl rfl rfl ?_
        refine VL_val rfl rfl rfl (yd_load rfl T.one4 (hS.cell0 (hdc h x hh hxl))) ?_
        refine VL_val rfl rfl rfl (yd_pick_t rfl rfl) ?_
        refine VL_nil ?_
        refine VE_then ?_
        refine VC_cond rfl (fun h35 => ?_) (fun h35 => ?_)
        · skip
          have hdx := (hok.dm h x).1 h35
          refine VC_seq ?_
          refine VC_region ?_
          refine VL_val rfl rfl rfl (yd_assign rfl) ?_
          refine VL_nil ?_
          refine VE_then ?_
          refine VC_ret ?_
          refine VE_block_ret (VE_then_ret (VE_then_ret (VE_block_ret (VE_block_ret (VE_then_ret (VE_then_ret (VE_block_ret (VE_then_ret (?_)))))))))
          refine VE_ret1 (rfl) rfl ?_
          exact ⟨_, rfl, ⟨fun _ => ⟨x, by rw [← hjh]; exact Ed.get hxl (by omega), hdx⟩, fun _ => rfl⟩, hS.sub (List.nil_sublist _)⟩
        · skip
          have hnn : ¬ (G[x]![j]! = h ∧ Dm G h x) := fun e => by have := (hok.dm h x).2 e.2; rw [h35] at this; cases this
          refine VC_skip ?_
          refine VE_block_normal ?_
          refine VE_then ?_
          refine VC_region ?_
          refine VL_val rfl rfl rfl (yd_add rfl rfl ((j + 1 : Nat) : Int) (by rw [wi64 (by omega) (by omega)]; omega)) ?_
          refine VL_val rfl rfl rfl (yd_move rfl) ?_
          refine VL_nil ?_
          exact VE_round1 (j + 1) ⟨rfl, rfl, rfl, rfl, rfl, rfl, rfl, rfl, rfl, rfl, rfl, rfl, rfl, rfl, trivial⟩ ⟨by omega, all_succ hnj hnn, hS⟩ (by omega)
      · replace h26 := of_decide_eq_false h26
        have hnn : ¬ (G[x]![j]! = h ∧ Dm G h x) := fun e => h26 (by omega)
        refine VL_no rfl rfl rfl rfl rfl rfl rfl ?_
        refine VL_no rfl rfl rfl rfl rfl rfl rfl ?_
        refine VL_no rfl rfl rfl rfl rfl rfl rfl ?_
        refine VL_no rfl rfl rfl rfl rfl rfl rfl ?_
        refine VL_no rfl rfl rfl rfl rfl rfl rfl ?_
        refine VL_no rfl rfl rfl rfl rfl rfl rfl ?_
        refine VL_no rfl rfl rfl rfl rfl rfl rfl ?_
        refine VL_no rfl rfl rfl rfl rfl rfl rfl ?_
        refine VL_val rfl rfl rfl (yd_pick_f rfl rfl) ?_
        refine VL_nil ?_
        refine VE_then ?_
        refine VC_cond_f rfl ?_
        refine VC_skip ?_
        refine VE_block_normal ?_
        refine VE_then ?_
        refine VC_region ?_
        refine VL_val rfl rfl rfl (yd_add rfl rfl ((j + 1 : Nat) : Int) (by rw [wi64 (by omega) (by omega)]; omega)) ?_
        refine VL_val rfl rfl rfl (yd_move rfl) ?_
        refine VL_nil ?_
        exact VE_round1 (j + 1) ⟨rfl, rfl, rfl, rfl, rfl, rfl, rfl, rfl, rfl, rfl, rfl, rfl, rfl, rfl, trivial⟩ ⟨by omega, all_succ hnj hnn, hS⟩ (by omega)
    · replace h20 := Int.not_lt.1 (of_decide_eq_false h20)
      refine VC_exit ?_
      refine VE_then_exit (VE_then_exit (VE_block_exit ?_))
      refine VE_block_normal ?_
      refine VE_then ?_
      refine VC_region ?_
      refine VL_val rfl rfl rfl (yd_add rfl rfl ((x + 1 : Nat) : Int) (by rw [wi64 (by omega) (by omega)]; omega)) ?_
      refine VL_val rfl rfl rfl (yd_move rfl) ?_
      refine VL_nil ?_
      exact VE_round1 (x + 1) ⟨rfl, rfl, rfl, rfl, rfl, trivial⟩ ⟨by omega, all_succ hno (fun ⟨e, d⟩ => by obtain ⟨i, hi, e2⟩ := e.idx; exact hnj i (by omega) ⟨e2, d⟩), hS⟩ (by omega)
  · replace h13 := Int.not_lt.1 (of_decide_eq_false h13)
    refine VC_exit ?_
    refine VE_then_exit (VE_then_exit (VE_block_exit ?_))
    refine VE_then ?_
    refine VC_seq ?_
    refine VC_region ?_
    refine VL_val rfl rfl rfl (yd_assign rfl) ?_
    refine VL_nil ?_
    refine VE_then ?_
    refine VC_ret ?_
    refine VE_ret1 (rfl) rfl ?_
    exact ⟨_, rfl, ⟨fun e => (by cases e), fun ⟨a, e, d⟩ => absurd ⟨e, d⟩ (hno a (by have := e.1; omega))⟩, hS.sub (List.nil_sublist _)⟩

set_option maxHeartbeats 1000000 in
theorem loop_ok {w0 : World} {u v : Value} {s : SRep} {G : Graph} (hA : ShapeAt w0 u v s G) (hg : Gd G) (hw : ∀ x, x < G.length → Rc G 0 x) {h : Nat} (hh : h < G.length) : Calls Try.prog 40 #[u, .int .i64 (h : Int)] w0 (Ret fun r w' => ∃ b R, r = .slice (some ⟨b, 0, none⟩) G.length G.length ∧ IsLoop G h R ∧ St w0 M0 [blk b 4 (R.map Value.bool)] w') := by
  have hA0 := hA
  obtain ⟨rfl, hG, hok, hlive, hdr, hdc⟩ := hA
  obtain ⟨ga, gc, gb, go, rfl, hga, hrow⟩ := hG
  have hpos := hg.pos
  obtain rfl := hga (by omega)
  have hle := hg.le
  have hS := St.refl w0
  refine V_enter (N := 100) Try.func40 rfl Try.ntmps40 rfl ?_
  refine VC.sub (τ := [(0, _), (1, _)]) ⟨rfl, rfl, trivial⟩ ?_
  refine VC_seq ?_
  refine VC_region ?_
  refine VL_box rfl rfl rfl rfl rfl hS ?_
  clear hS; intro b2 w hS
  refine VL_val rfl rfl rfl (yd_assign rfl) ?_
  refine VL_nil ?_
  refine VE_then ?_
  refine VC_seq ?_
  refine VC_region ?_
  refine VL_val rfl rfl rfl (yd_field rfl T.fld37_0) ?_
  refine VL_val rfl rfl rfl (yd_load rfl T.one22 (blk_cell (hS.get 0 rfl) rfl)) ?_
  refine VL_val rfl rfl rfl (yd_len rfl Try.underlying22) ?_
  refine VL_makeM Value.bool false rfl rfl rfl rfl rfl rfl Try.underlying25 T.e4 rfl rfl (by omega) (by omega) (by omega) hS ?_
  clear hS; intro b17 w hS
  refine VL_val rfl rfl rfl (yd_assign rfl) ?_
  refine VL_nil ?_
  refine VE_then ?_
  refine VC_seq ?_
  refine VC_seq ?_
  refine VC_region ?_
  refine VL_val rfl rfl rfl (yd_loadn [.slice (some ⟨gb, go, none⟩) G.length gc, s.live G, s.dom G] rfl T.agg37 (fun j u hj => by rw [Nat.zero_add]; exact blk_cell (hS.get 0 rfl) hj)) ?_
  refine VL_val rfl rfl rfl (yd_move rfl) ?_
  refine VL_call rfl rfl rfl rfl T.call30 rfl (header_ok (hS.shape hA0) hg hh) ?_
  rintro _ w ⟨bh, rfl, hbh, hR⟩
  have hS := hS.call0 hR
  refine VL_val rfl rfl rfl (yd_not rfl) ?_
  refine VL_nil ?_
  refine VE_then ?_
  refine VC_cond rfl (fun h21 => ?_) (fun h21 => ?_)
  · replace h21 := V.nt h21
    have hnh : ¬ Hdr G h := fun e => by have := hbh.2 e; rw [h21] at this; cases this
    refine VC_seq ?_
    refine VC_region ?_
    refine VL_val rfl rfl rfl (yd_move rfl) ?_
    refine VL_val rfl rfl rfl (yd_assign rfl) ?_
    refine VL_nil ?_
    refine VE_then ?_
    refine VC_ret ?_
    refine VE_then_ret (?_)
    refine VE_ret1 (rfl) rfl ?_
    exact ⟨_, _, rfl, isLoop_none hnh, hS.sub (List.Sublist.cons _ (List.Sublist.refl _))⟩
  · replace h21 := V.nf h21
    have hdh := hbh.1 h21
    refine VC_skip ?_
    refine VE_then ?_
    refine VC_seq ?_
    refine VC_region ?_
    refine VL_val rfl rfl rfl (yd_move rfl) ?_
    refine VL_val rfl rfl rfl (yd_move rfl) ?_
    refine VL_val rfl rfl rfl (yd_index0 rfl rfl Try.underlying25 T.sz4 (by omega)) ?_
    refine VL_storeM rfl rfl rfl rfl rfl T.one4 rfl hS 1 rfl (by simp; omega) rfl ?_
    clear hS; intro w hS
    refine VL_nil ?_
    refine VE_then ?_
    refine VC_seq ?_
    refine VC_seq ?_
    refine VC_region ?_
    refine VL_val rfl rfl rfl (yd_field rfl T.fld37_0) ?_
    refine VL_val rfl rfl rfl (yd_load rfl T.one22 (blk_cell (hS.get 0 rfl) rfl)) ?_
    refine VL_val rfl rfl rfl (yd_len rfl Try.underlying22) ?_
    refine VL_val rfl rfl rfl (yd_move rfl) ?_
    refine VL_nil ?_
    refine VE_then ?_
    refine VC_block ?_
    refine VC_loop2 [1, 2, 4, 5, 27, 28] [_, _, _, _, _, _] rfl (fun (x : Nat) (R : List Bool) => [(29, .int .i64 ((x : Nat) : Int))]) (fun (x : Nat) (R : List Bool) w => x ≤ G.length ∧ LSnd G h R ∧ BKupto G h x 0 R ∧ St w0 M0 [blk b2 37 [.slice (some ⟨gb, go, none⟩) G.length gc, s.live G, s.dom G], blk b17 4 (R.map Value.bool)] w) (fun (x : Nat) (R : List Bool) => G.length - x) 0 _ ⟨rfl, trivial⟩ (⟨Nat.zero_le _, LSnd.init hh hdh, fun a i _ _ e => by omega, hS⟩) ?_
    clear hS; rintro x R w ⟨hx, hsd, hbk, hS⟩
    have hRl := hsd.len
    refine VC_seq ?_
    refine VC_region ?_
    refine VL_val rfl rfl rfl (yd_lss rfl rfl) ?_
    refine VL_nil ?_
    refine VE_then ?_
    refine VC_seq ?_
    refine VC_cond rfl (fun h30 => ?_) (fun h30 => ?_)
    · replace h30 := of_decide_eq_true h30
      refine VC_skip ?_
      refine VE_then ?_
      refine VC_seq ?_
      refine VC_block ?_
      refine VC_seq ?_
      refine VC_region ?_
      have hxl : x < G.length := by omega
      obtain ⟨ra, rc, rb, ro, hc, hra, hcs⟩ := hrow x hxl
      have hr4 := hg.row x hxl
      refine VL_val rfl rfl rfl (yd_move rfl) ?_
      refine VL_val rfl rfl rfl (yd_index1 rfl rfl Try.underlying22 T.sz29 (by omega)) ?_
      refine VL_val rfl rfl rfl (yd_load rfl T.one29 (hS.cell0 hc)) ?_
      refine VL_val rfl rfl rfl (yd_assign rfl) ?_
      refine VL_val rfl rfl rfl (yd_assign rfl) ?_
      refine VL_nil ?_
      refine VE_then ?_
      refine VC_seq ?_
      refine VC_region ?_
      refine VL_val rfl rfl rfl (yd_move rfl) ?_
      refine VL_val rfl rfl rfl (yd_len rfl Try.underlying29) ?_
      refine VL_val rfl rfl rfl (yd_move rfl) ?_
      refine VL_nil ?_
      refine VE_then ?_
      refine VC_block ?_
      refine VC_loop2 [1, 2, 4, 5, 6, 7, 27, 28, 29, 30, 31, 32, 33, 34, 35] [_, _, _, _, _, _, _, _, _, _, _, _, _, _, _] rfl (fun (j : Nat) (R : List Bool) => [(36, .int .i64 ((j : Nat) : Int))]) (fun (j : Nat) (R : List Bool) w => j ≤ G[x]!.length ∧ LSnd G h R ∧ BKupto G h x j R ∧ St w0 M0 [blk b2 37 [.slice (some ⟨gb, go, none⟩) G.length gc, s.live G, s.dom G], blk b17 4 (R.map Value.bool)] w) (fun (j : Nat) (R : List Bool) => G[x]!.length - j) 0 R ⟨rfl, trivial⟩ (⟨Nat.zero_le _, hsd, hbk, hS⟩) ?_
      clear hS hsd hbk hRl; rintro j R w ⟨hj, hsd, hbk, hS⟩
      have hRl := hsd.len
      refine VC_seq ?_
      refine VC_region ?_
      refine VL_val rfl rfl rfl (yd_lss rfl rfl) ?_
      refine VL_nil ?_
      refine VE_then ?_
      refine VC_seq ?_
      refine VC_cond rfl (fun h37 => ?_) (fun h37 => ?_)
      · replace h37 := of_decide_eq_true h37
        refine VC_skip ?_
        refine VE_then ?_
        refine VC_seq ?_
        refine VC_block ?_
        refine VC_seq ?_
        refine VC_region ?_
        obtain rfl := hra (by omega)
        have hjl : j < G[x]!.length := by omega
        refine VL_val rfl rfl rfl (yd_index1 rfl rfl Try.underlying29 T.sz3 (by omega)) ?_
        refine VL_val rfl rfl rfl (yd_load rfl T.one3 (hS.cell0 (hcs j hjl))) ?_
        refine VL_val rfl rfl rfl (yd_assign rfl) ?_
        refine VL_nil ?_
        refine VE_then ?_
        refine VC_seq ?_
        refine VC_region ?_
        refine VL_val rfl rfl rfl (yd_move rfl) ?_
        refine VL_val rfl rfl rfl (yd_move rfl) ?_
        refine VL_val rfl rfl rfl (yd_eql rfl rfl) ?_
        refine VL_val rfl rfl rfl (yd_move rfl) ?_
        refine VL_split 43 rfl (fun h43 => ?_) (fun h43 => ?_)
        · replace h43 := of_decide_eq_true h43
          have hjh : G[x]![j]! = h := by omega
          refine VL_yes rfl rfl rfl rfl ?_
          refine VL_val rfl rfl rfl (yd_field rfl T.fld37_2) ?_
          refine VL_yes rfl rfl rfl rfl ?_
          refine VL_val rfl rfl rfl (yd_load rfl T.one35 (blk_cell (hS.get 0 rfl) rfl)) ?_
          refine VL_yes rfl rfl rfl rfl ?_
          refine VL_val rfl rfl rfl (yd_move rfl) ?_
          refine VL_yes rfl rfl rfl rfl ?_
          refine VL_val rfl rfl rfl (yd_index0 rfl rfl Try.underlying35 T.sz25 (by omega)) ?_
          refine VL_yes rfl rfl rfl rfl ?_
          refine VL_val rfl rfl rfl (yd_load rfl T.one25 (hS.cell0 (hdr h hh))) ?_
          refine VL_yes rfl rfl rfl rfl ?_
          refine VL_val rfl rfl rfl (yd_move rfl) ?_
          refine VL_yes rfl rfl rfl rfl ?_
          refine VL_val rfl rfl rfl (yd_index0 rfl rfl Try.underlying25 T.sz4 (by omega)) ?_
          refine VL_yes rfl rfl rfl rfl ?_
          refine VL_val rfl rfl rfl (yd_load rfl T.one4 (hS.cell0 (hdc h x hh hxl))) ?_
          refine VL_val rfl rfl rfl (yd_pick_t rfl rfl) ?_
          refine VL_nil ?_
          refine VE_then ?_
          refine VC_cond rfl (fun h52 => ?_) (fun h52 => ?_)
          · skip
            have hdx := (hok.dm h x).1 h52
            have hlx : Lp G h x := .back (by rw [← hjh]; exact Ed.get hxl hjl) hdx
            refine VC_region ?_
            refine VL_val rfl rfl rfl (yd_move rfl) ?_
            refine VL_val rfl rfl rfl (yd_move rfl) ?_
            refine VL_val rfl rfl rfl (yd_index0 rfl rfl Try.underlying25 T.sz4 (by omega)) ?_
            refine VL_storeM rfl rfl rfl rfl rfl T.one4 rfl hS 1 rfl (by omega) rfl ?_
            clear hS; intro w hS
            refine VL_nil ?_
            have hsd2 := hsd.mark hxl hlx
            have hbk2 := (hbk.set (x := x) (by omega)).next (fun _ _ => get!_set_self _ _ _ (by omega))
            refine VE_block_normal ?_
            refine VE_then ?_
            refine VC_region ?_
            refine VL_val rfl rfl rfl (yd_add rfl rfl ((j + 1 : Nat) : Int) (by rw [wi64 (by omega) (by omega)]; omega)) ?_
            refine VL_val rfl rfl rfl (yd_move rfl) ?_
            refine VL_nil ?_
            first
            | exact VE_round2 (j + 1) (R.set x true) ⟨rfl, rfl, rfl, rfl, rfl, rfl, rfl, rfl, rfl, rfl, rfl, rfl, rfl, rfl, rfl, rfl, trivial⟩ ⟨by omega, hsd2, hbk2, hS⟩ (by omega)
            | exact VE_round2 (j + 1) R ⟨rfl, rfl, rfl, rfl, rfl, rfl, rfl, rfl, rfl, rfl, rfl, rfl, rfl, rfl, rfl, rfl, trivial⟩ ⟨by omega, hsd, hbk1, hS⟩ (by omega)
          · skip
            have hbk1 := hbk.next (fun _ d => by have := (hok.dm h x).2 d; rw [h52] at this; cases this)
            refine VC_skip ?_
            refine VE_block_normal ?_
            refine VE_then ?_
            refine VC_region ?_
            refine VL_val rfl rfl rfl (yd_add rfl rfl ((j + 1 : Nat) : Int) (by rw [wi64 (by omega) (by omega)]; omega)) ?_
            refine VL_val rfl rfl rfl (yd_move rfl) ?_
            refine VL_nil ?_
            first
            | exact VE_round2 (j + 1) (R.set x true) ⟨rfl, rfl, rfl, rfl, rfl, rfl, rfl, rfl, rfl, rfl, rfl, rfl, rfl, rfl, rfl, rfl, trivial⟩ ⟨by omega, hsd2, hbk2, hS⟩ (by omega)
            | exact VE_round2 (j + 1) R ⟨rfl, rfl, rfl, rfl, rfl, rfl, rfl, rfl, rfl, rfl, rfl, rfl, rfl, rfl, rfl, rfl, trivial⟩ ⟨by omega, hsd, hbk1, hS⟩ (by omega)
        · replace h43 := of_decide_eq_false h43
          have hbk1 := hbk.next (fun e => absurd (by omega) h43)
          refine VL_no rfl rfl rfl rfl rfl rfl rfl ?_
          refine VL_no rfl rfl rfl rfl rfl rfl rfl ?_
          refine VL_no rfl rfl rfl rfl rfl rfl rfl ?_
          refine VL_no rfl rfl rfl rfl rfl rfl rfl ?_
          refine VL_no rfl rfl rfl rfl rfl rfl rfl ?_
          refine VL_no rfl rfl rfl rfl rfl rfl rfl ?_
          refine VL_no rfl rfl rfl rfl rfl rfl rfl ?_
          refine VL_no rfl rfl rfl rfl rfl rfl rfl ?_
          refine VL_val rfl rfl rfl (yd_pick_f rfl rfl) ?_
          refine VL_nil ?_
          refine VE_then ?_
          refine VC_cond_f rfl ?_
          refine VC_skip ?_
          refine VE_block_normal ?_
          refine VE_then ?_
          refine VC_region ?_
          refine VL_val rfl rfl rfl (yd_add rfl rfl ((j + 1 : Nat) : Int) (by rw [wi64 (by omega) (by omega)]; omega)) ?_
          refine VL_val rfl rfl rfl (yd_move rfl) ?_
          refine VL_nil ?_
          first
          | exact VE_round2 (j + 1) (R.set x true) ⟨rfl, rfl, rfl, rfl, rfl, rfl, rfl, rfl, rfl, rfl, rfl, rfl, rfl, rfl, rfl, rfl, trivial⟩ ⟨by omega, hsd2, hbk2, hS⟩ (by omega)
          | exact VE_round2 (j + 1) R ⟨rfl, rfl, rfl, rfl, rfl, rfl, rfl, rfl, rfl, rfl, rfl, rfl, rfl, rfl, rfl, rfl, trivial⟩ ⟨by omega, hsd, hbk1, hS⟩ (by omega)
      · replace h37 := Int.not_lt.1 (of_decide_eq_false h37)
        refine VC_exit ?_
        refine VE_then_exit (VE_then_exit (VE_block_exit ?_))
        refine VE_block_normal ?_
        refine VE_then ?_
        refine VC_region ?_
        refine VL_val rfl rfl rfl (yd_add rfl rfl ((x + 1 : Nat) : Int) (by rw [wi64 (by omega) (by omega)]; omega)) ?_
        refine VL_val rfl rfl rfl (yd_move rfl) ?_
        refine VL_nil ?_
        exact VE_round2 (x + 1) R ⟨rfl, rfl, rfl, rfl, rfl, rfl, rfl, trivial⟩ ⟨by omega, hsd, hbk.row (by omega), hS⟩ (by omega)
    · replace h30 := Int.not_lt.1 (of_decide_eq_false h30)
      refine VC_exit ?_
      refine VE_then_exit (VE_then_exit (VE_block_exit ?_))
      refine VE_then ?_
      refine VC_seq ?_
      refine VC_seq ?_
      refine VC_region ?_
      obtain rfl : x = G.length := by omega
      have hcn : 0 + 1 ≤ cnt R := List.count_pos_iff.2 (by have := hsd.src; rw [getElem!_pos R h (by omega)] at this; rw [← this]; exact List.getElem_mem _)
      refine VL_val rfl rfl rfl (yd_field rfl T.fld37_0) ?_
      refine VL_val rfl rfl rfl (yd_load rfl T.one22 (blk_cell (hS.get 0 rfl) rfl)) ?_
      refine VL_val rfl rfl rfl (yd_len rfl Try.underlying22) ?_
      refine VL_val rfl rfl rfl (yd_move rfl) ?_
      refine VL_nil ?_
      refine VE_then ?_
      refine VC_block ?_
      refine VC_loop2 [1, 2, 4, 5, 60] [_, _, _, _, _] rfl (fun (r : Nat) (R : List Bool) => [(61, .int .i64 ((r : Nat) : Int))]) (fun (r : Nat) (R : List Bool) w => r ≤ G.length ∧ LSnd G h R ∧ BKupto G h G.length 0 R ∧ (LClosed G h R ∨ r + 1 ≤ cnt R) ∧ St w0 M0 [blk b2 37 [.slice (some ⟨gb, go, none⟩) G.length gc, s.live G, s.dom G], blk b17 4 (R.map Value.bool)] w) (fun (r : Nat) (R : List Bool) => G.length - r) 0 R ⟨rfl, trivial⟩ (⟨Nat.zero_le _, hsd, hbk, .inr hcn, hS⟩) ?_
      clear hS hsd hbk hRl hcn; rintro r R w ⟨hr, hsd, hbk, hcl, hS⟩
      refine VC_seq ?_
      refine VC_region ?_
      refine VL_val rfl rfl rfl (yd_lss rfl rfl) ?_
      refine VL_nil ?_
      refine VE_then ?_
      refine VC_seq ?_
      refine VC_cond rfl (fun h62 => ?_) (fun h62 => ?_)
      · replace h62 := of_decide_eq_true h62
        refine VC_skip ?_
        refine VE_then ?_
        refine VC_seq ?_
        refine VC_block ?_
        refine VC_seq ?_
        refine VC_region ?_
        refine VL_val rfl rfl rfl (yd_field rfl T.fld37_0) ?_
        refine VL_val rfl rfl rfl (yd_load rfl T.one22 (blk_cell (hS.get 0 rfl) rfl)) ?_
        refine VL_val rfl rfl rfl (yd_len rfl Try.underlying22) ?_
        refine VL_val rfl rfl rfl (yd_move rfl) ?_
        refine VL_nil ?_
        refine VE_then ?_
        refine VC_block ?_
        refine VC_loop2 [1, 2, 4, 5, 60, 61, 62, 63, 64, 65] [_, _, _, _, _, _, _, _, _, _] rfl (fun (x : Nat) (R : List Bool) => [(66, .int .i64 ((x : Nat) : Int))]) (fun (x : Nat) (R : List Bool) w => x ≤ G.length ∧ LSnd G h R ∧ BKupto G h G.length 0 R ∧ LJ G h R r x 0 ∧ St w0 M0 [blk b2 37 [.slice (some ⟨gb, go, none⟩) G.length gc, s.live G, s.dom G], blk b17 4 (R.map Value.bool)] w) (fun (x : Nat) (R : List Bool) => G.length - x) 0 R ⟨rfl, trivial⟩ (⟨Nat.zero_le _, hsd, hbk, LJ.start hcl, hS⟩) ?_
        clear hS hsd hbk hcl; rintro x R w ⟨hx, hsd, hbk, hJ, hS⟩
        refine VC_seq ?_
        refine VC_region ?_
        refine VL_val rfl rfl rfl (yd_lss rfl rfl) ?_
        refine VL_nil ?_
        refine VE_then ?_
        refine VC_seq ?_
        refine VC_cond rfl (fun h67 => ?_) (fun h67 => ?_)
        · replace h67 := of_decide_eq_true h67
          refine VC_skip ?_
          refine VE_then ?_
          refine VC_seq ?_
          refine VC_block ?_
          refine VC_seq ?_
          refine VC_region ?_
          have hxl : x < G.length := by omega
          obtain ⟨ra, rc, rb, ro, hc, hra, hcs⟩ := hrow x hxl
          have hr4 := hg.row x hxl
          refine VL_val rfl rfl rfl (yd_move rfl) ?_
          refine VL_val rfl rfl rfl (yd_index1 rfl rfl Try.underlying22 T.sz29 (by omega)) ?_
          refine VL_val rfl rfl rfl (yd_load rfl T.one29 (hS.cell0 hc)) ?_
          refine VL_val rfl rfl rfl (yd_assign rfl) ?_
          refine VL_val rfl rfl rfl (yd_assign rfl) ?_
          refine VL_nil ?_
          refine VE_then ?_
          refine VC_seq ?_
          refine VC_region ?_
          refine VL_val rfl rfl rfl (yd_move rfl) ?_
          refine VL_val rfl rfl rfl (yd_len rfl Try.underlying29) ?_
          refine VL_val rfl rfl rfl (yd_move rfl) ?_
          refine VL_nil ?_
          refine VE_then ?_
          refine VC_block ?_
          refine VC_loop2 [1, 2, 4, 5, 10, 11, 60, 61, 62, 63, 64, 65, 66, 67, 68, 69, 70, 71, 72] [_, _, _, _, _, _, _, _, _, _, _, _, _, _, _, _, _, _, _] rfl (fun (j : Nat) (R : List Bool) => [(73, .int .i64 ((j : Nat) : Int))]) (fun (j : Nat) (R : List Bool) w => j ≤ G[x]!.length ∧ LSnd G h R ∧ BKupto G h G.length 0 R ∧ LJ G h R r x j ∧ St w0 M0 [blk b2 37 [.slice (some ⟨gb, go, none⟩) G.length gc, s.live G, s.dom G], blk b17 4 (R.map Value.bool)] w) (fun (j : Nat) (R : List Bool) => G[x]!.length - j) 0 R ⟨rfl, trivial⟩ (⟨Nat.zero_le _, hsd, hbk, hJ, hS⟩) ?_
          clear hS hsd hbk hJ; rintro j R w ⟨hj, hsd, hbk, hJ, hS⟩
          have hRl := hsd.len
          refine VC_seq ?_
          refine VC_region ?_
          refine VL_val rfl rfl rfl (yd_lss rfl rfl) ?_
          refine VL_nil ?_
          refine VE_then ?_
          refine VC_seq ?_
          refine VC_cond rfl (fun h74 => ?_) (fun h74 => ?_)
          · replace h74 := of_decide_eq_true h74
            refine VC_skip ?_
            refine VE_then ?_
            refine VC_seq ?_
            refine VC_block ?_
            refine VC_seq ?_
            refine VC_region ?_
            obtain rfl := hra (by omega)
            have hjl : j < G[x]!.length := by omega
            have hto := hg.lt x hxl j hjl
            refine VL_val rfl rfl rfl (yd_index1 rfl rfl Try.underlying29 T.sz3 (by omega)) ?_
            refine VL_val rfl rfl rfl (yd_load rfl T.one3 (hS.cell0 (hcs j hjl))) ?_
            refine VL_val rfl rfl rfl (yd_assign rfl) ?_
            refine VL_nil ?_
            refine VE_then ?_
            refine VC_seq ?_
            refine VC_region ?_
            refine VL_val rfl rfl rfl (yd_move rfl) ?_
            refine VL_val rfl rfl rfl (yd_move rfl) ?_
            refine VL_val rfl rfl rfl (yd_neq rfl rfl) ?_
            refine VL_val rfl rfl rfl (yd_move rfl) ?_
            refine VL_split 80 rfl (fun h80 => ?_) (fun h80 => ?_)
            · replace h80 := of_decide_eq_true h80
              have hne : G[x]![j]! ≠ h := by omega
              refine VL_yes rfl rfl rfl rfl ?_
              refine VL_val rfl rfl rfl (yd_move rfl) ?_
              refine VL_yes rfl rfl rfl rfl ?_
              refine VL_val rfl rfl rfl (yd_move rfl) ?_
              refine VL_yes rfl rfl rfl rfl ?_
              refine VL_val rfl rfl rfl (yd_index0 rfl rfl Try.underlying25 T.sz4 (by omega)) ?_
              refine VL_yes rfl rfl rfl rfl ?_
              refine VL_val rfl rfl rfl (yd_load rfl T.one4 (blk_cellM (hS.get 1 rfl) (by omega))) ?_
              refine VL_val rfl rfl rfl (yd_pick_t rfl rfl) ?_
              refine VL_val rfl rfl rfl (yd_move rfl) ?_
              refine VL_split 86 rfl (fun h86 => ?_) (fun h86 => ?_)
              · skip
                refine VL_yes rfl rfl rfl rfl ?_
                refine VL_val rfl rfl rfl (yd_field rfl T.fld37_1) ?_
                refine VL_yes rfl rfl rfl rfl ?_
                refine VL_val rfl rfl rfl (yd_load rfl T.one25 (blk_cell (hS.get 0 rfl) rfl)) ?_
                refine VL_yes rfl rfl rfl rfl ?_
                refine VL_val rfl rfl rfl (yd_move rfl) ?_
                refine VL_yes rfl rfl rfl rfl ?_
                refine VL_val rfl rfl rfl (yd_index0 rfl rfl Try.underlying25 T.sz4 (by omega)) ?_
                refine VL_yes rfl rfl rfl rfl ?_
                refine VL_val rfl rfl rfl (yd_load rfl T.one4 (hS.cell0 (hlive x hxl))) ?_
                refine VL_val rfl rfl rfl (yd_pick_t rfl rfl) ?_
                refine VL_nil ?_
                refine VE_then ?_
                refine VC_cond rfl (fun h92 => ?_) (fun h92 => ?_)
                · skip
                  have hlx : Lp G h x := .step (Ed.get hxl hjl) hne (hsd.snd _ hto h86) ((hok.lv x).1 h92)
                  refine VC_region ?_
                  refine VL_val rfl rfl rfl (yd_move rfl) ?_
                  refine VL_val rfl rfl rfl (yd_move rfl) ?_
                  refine VL_val rfl rfl rfl (yd_index0 rfl rfl Try.underlying25 T.sz4 (by omega)) ?_
                  refine VL_storeM rfl rfl rfl rfl rfl T.one4 rfl hS 1 rfl (by omega) rfl ?_
                  clear hS; intro w hS
                  refine VL_nil ?_
                  have hsd2 := hsd.mark hxl hlx
                  have hbk2 := hbk.set (x := x) (by omega)
                  have hJ2 := hJ.take hRl hxl hjl hne h86
                  refine VE_block_normal ?_
                  refine VE_then ?_
                  refine VC_region ?_
                  refine VL_val rfl rfl rfl (yd_add rfl rfl ((j + 1 : Nat) : Int) (by rw [wi64 (by omega) (by omega)]; omega)) ?_
                  refine VL_val rfl rfl rfl (yd_move rfl) ?_
                  refine VL_nil ?_
                  first
                  | exact VE_round2 (j + 1) (R.set x true) ⟨rfl, rfl, rfl, rfl, rfl, rfl, rfl, rfl, rfl, rfl, rfl, rfl, rfl, rfl, rfl, rfl, rfl, rfl, rfl, rfl, trivial⟩ ⟨by omega, hsd2, hbk2, hJ2, hS⟩ (by omega)
                  | exact VE_round2 (j + 1) R ⟨rfl, rfl, rfl, rfl, rfl, rfl, rfl, rfl, rfl, rfl, rfl, rfl, rfl, rfl, rfl, rfl, rfl, rfl, rfl, rfl, trivial⟩ ⟨by omega, hsd, hbk, hJ1, hS⟩ (by omega)
                · skip
                  exact absurd ((hok.lv x).2 (hw x hxl)) (by rw [h92]; simp)
              · skip
                have hJ1 := hJ.skip (fun _ e => by rw [h86] at e; cases e)
                refine VL_no rfl rfl rfl rfl rfl rfl rfl ?_
                refine VL_no rfl rfl rfl rfl rfl rfl rfl ?_
                refine VL_no rfl rfl rfl rfl rfl rfl rfl ?_
                refine VL_no rfl rfl rfl rfl rfl rfl rfl ?_
                refine VL_no rfl rfl rfl rfl rfl rfl rfl ?_
                refine VL_val rfl rfl rfl (yd_pick_f rfl rfl) ?_
                refine VL_nil ?_
                refine VE_then ?_
                refine VC_cond_f rfl ?_
                refine VC_skip ?_
                refine VE_block_normal ?_
                refine VE_then ?_
                refine VC_region ?_
                refine VL_val rfl rfl rfl (yd_add rfl rfl ((j + 1 : Nat) : Int) (by rw [wi64 (by omega) (by omega)]; omega)) ?_
                refine VL_val rfl rfl rfl (yd_move rfl) ?_
                refine VL_nil ?_
                first
                | exact VE_round2 (j + 1) (R.set x true) ⟨rfl, rfl, rfl, rfl, rfl, rfl, rfl, rfl, rfl, rfl, rfl, rfl, rfl, rfl, rfl, rfl, rfl, rfl, rfl, rfl, trivial⟩ ⟨by omega, hsd2, hbk2, hJ2, hS⟩ (by omega)
                | exact VE_round2 (j + 1) R ⟨rfl, rfl, rfl, rfl, rfl, rfl, rfl, rfl, rfl, rfl, rfl, rfl, rfl, rfl, rfl, rfl, rfl, rfl, rfl, rfl, trivial⟩ ⟨by omega, hsd, hbk, hJ1, hS⟩ (by omega)
            · replace h80 := Decidable.not_not.1 (of_decide_eq_false h80)
              have hJ1 := hJ.skip (fun e => absurd (by omega) e)
              refine VL_no rfl rfl rfl rfl rfl rfl rfl ?_
              refine VL_no rfl rfl rfl rfl rfl rfl rfl ?_
              refine VL_no rfl rfl rfl rfl rfl rfl rfl ?_
              refine VL_no rfl rfl rfl rfl rfl rfl rfl ?_
              refine VL_val rfl rfl rfl (yd_pick_f rfl rfl) ?_
              refine VL_val rfl rfl rfl (yd_move rfl) ?_
              refine VL_no rfl rfl rfl rfl rfl rfl rfl ?_
              refine VL_no rfl rfl rfl rfl rfl rfl rfl ?_
              refine VL_no rfl rfl rfl rfl rfl rfl rfl ?_
              refine VL_no rfl rfl rfl rfl rfl rfl rfl ?_
              refine VL_no rfl rfl rfl rfl rfl rfl rfl ?_
              refine VL_val rfl rfl rfl (yd_pick_f rfl rfl) ?_
              refine VL_nil ?_
              refine VE_then ?_
              refine VC_cond_f rfl ?_
              refine VC_skip ?_
              refine VE_block_normal ?_
              refine VE_then ?_
              refine VC_region ?_
              refine VL_val rfl rfl rfl (yd_add rfl rfl ((j + 1 : Nat) : Int) (by rw [wi64 (by omega) (by omega)]; omega)) ?_
              refine VL_val rfl rfl rfl (yd_move rfl) ?_
              refine VL_nil ?_
              first
              | exact VE_round2 (j + 1) (R.set x true) ⟨rfl, rfl, rfl, rfl, rfl, rfl, rfl, rfl, rfl, rfl, rfl, rfl, rfl, rfl, rfl, rfl, rfl, rfl, rfl, rfl, trivial⟩ ⟨by omega, hsd2, hbk2, hJ2, hS⟩ (by omega)
              | exact VE_round2 (j + 1) R ⟨rfl, rfl, rfl, rfl, rfl, rfl, rfl, rfl, rfl, rfl, rfl, rfl, rfl, rfl, rfl, rfl, rfl, rfl, rfl, rfl, trivial⟩ ⟨by omega, hsd, hbk, hJ1, hS⟩ (by omega)
          · replace h74 := Int.not_lt.1 (of_decide_eq_false h74)
            refine VC_exit ?_
            refine VE_then_exit (VE_then_exit (VE_block_exit ?_))
            refine VE_block_normal ?_
            refine VE_then ?_
            refine VC_region ?_
            refine VL_val rfl rfl rfl (yd_add rfl rfl ((x + 1 : Nat) : Int) (by rw [wi64 (by omega) (by omega)]; omega)) ?_
            refine VL_val rfl rfl rfl (yd_move rfl) ?_
            refine VL_nil ?_
            exact VE_round2 (x + 1) R ⟨rfl, rfl, rfl, rfl, rfl, rfl, rfl, rfl, rfl, rfl, rfl, trivial⟩ ⟨by omega, hsd, hbk, hJ.row (by omega), hS⟩ (by omega)
        · replace h67 := Int.not_lt.1 (of_decide_eq_false h67)
          refine VC_exit ?_
          refine VE_then_exit (VE_then_exit (VE_block_exit ?_))
          refine VE_block_normal ?_
          refine VE_then ?_
          refine VC_region ?_
          refine VL_val rfl rfl rfl (yd_add rfl rfl ((r + 1 : Nat) : Int) (by rw [wi64 (by omega) (by omega)]; omega)) ?_
          refine VL_val rfl rfl rfl (yd_move rfl) ?_
          refine VL_nil ?_
          obtain rfl : x = G.length := by omega
          exact VE_round2 (r + 1) R ⟨rfl, rfl, rfl, rfl, rfl, rfl, trivial⟩ ⟨by omega, hsd, hbk, hJ.done, hS⟩ (by omega)
      · replace h62 := Int.not_lt.1 (of_decide_eq_false h62)
        refine VC_exit ?_
        refine VE_then_exit (VE_then_exit (VE_block_exit ?_))
        refine VE_then ?_
        refine VC_seq ?_
        refine VC_region ?_
        refine VL_val rfl rfl rfl (yd_move rfl) ?_
        refine VL_val rfl rfl rfl (yd_assign rfl) ?_
        refine VL_nil ?_
        refine VE_then ?_
        refine VC_ret ?_
        refine VE_ret1 (rfl) rfl ?_
        obtain rfl : r = G.length := by omega
        exact ⟨_, _, rfl, hsd.done hg hbk hcl, hS.sub (List.Sublist.cons _ (List.Sublist.refl _))⟩

theorem loops_ok {w0 : World} {u v : Value} {s : SRep} {G : Graph} (hA : ShapeAt w0 u v s G) (hg : Gd G) (hw : ∀ x, x < G.length → Rc G 0 x) : Calls Try.prog 25 #[u] w0 (Ret fun r w' => ∃ q, r = QRep.val q G.length ∧ QOK q G ∧ St w0 M0 [allR q G.length] w') := by
  have hA0 := hA
  obtain ⟨rfl, hG, hok, hlive, hdr, hdc⟩ := hA
  obtain ⟨ga, gc, gb, go, rfl, hga, hrow⟩ := hG
  have hpos := hg.pos
  obtain rfl := hga (by omega)
  have hle := hg.le
  have hS := St.refl w0
  obtain ⟨lp, hlp⟩ : ∃ lp : Nat → Nat → Bool, ∀ h x, lp h x = true ↔ Lp G h x := ⟨fun h x => @decide _ (Classical.propDecidable (Lp G h x)), fun h x => by simp⟩
  refine V_enter (N := 20) Try.func25 rfl Try.ntmps25 rfl ?_
  refine VC.sub (τ := [(0, _)]) ⟨rfl, trivial⟩ ?_
  refine VC_seq ?_
  refine VC_region ?_
  refine VL_box rfl rfl rfl rfl rfl hS ?_
  clear hS; intro b1 w hS
  refine VL_val rfl rfl rfl (yd_assign rfl) ?_
  refine VL_nil ?_
  refine VE_then ?_
  refine VC_seq ?_
  refine VC_region ?_
  refine VL_rel rfl rfl rfl (yr_bslice0 Try.underlying35 T.e25 hS) ?_
  clear hS; rintro _ w ⟨b5, rfl, hS⟩
  have hS := bundle0 hS
  refine VL_val rfl rfl rfl (yd_assign rfl) ?_
  refine VL_nil ?_
  refine VE_then ?_
  refine VC_seq ?_
  refine VC_seq ?_
  refine VC_region ?_
  refine VL_val rfl rfl rfl (yd_field rfl T.fld37_0) ?_
  refine VL_val rfl rfl rfl (yd_load rfl T.one22 (blk_cell (hS.get 1 rfl) rfl)) ?_
  refine VL_val rfl rfl rfl (yd_len rfl Try.underlying22) ?_
  refine VL_val rfl rfl rfl (yd_move rfl) ?_
  refine VL_nil ?_
  refine VE_then ?_
  refine VC_block ?_
  refine VC_loop3 [1, 2, 8] [_, _, _] rfl (fun (k : Nat) (r : Value) (rb : Nat → Nat) => [(9, .int .i64 ((k : Nat) : Int)), (3, r)]) (fun (k : Nat) (r : Value) (rb : Nat → Nat) w => k ≤ G.length ∧ St w0 M0 [bundle ((List.range k).map (bR rb lp G.length)), blk b1 37 [.slice (some ⟨gb, go, none⟩) G.length gc, s.live G, s.dom G], row r 25 1 k ((List.range k).map fun i => .slice (some ⟨rb i, 0, none⟩) G.length G.length)] w) (fun (k : Nat) (r : Value) (rb : Nat → Nat) => G.length - k) 0 _ (fun _ => 0) ⟨rfl, rfl, trivial⟩ (⟨Nat.zero_le _, hS⟩) ?_
  clear hS; rintro k r rb w ⟨hk, hS⟩
  refine VC_seq ?_
  refine VC_region ?_
  refine VL_val rfl rfl rfl (yd_lss rfl rfl) ?_
  refine VL_nil ?_
  refine VE_then ?_
  refine VC_seq ?_
  refine VC_cond rfl (fun h10 => ?_) (fun h10 => ?_)
  · replace h10 := of_decide_eq_true h10
    refine VC_skip ?_
    refine VE_then ?_
    refine VC_seq ?_
    refine VC_block ?_
    refine VC_seq ?_
    refine VC_region ?_
    have hkl : k < G.length := by omega
    refine VL_val rfl rfl rfl (yd_move rfl) ?_
    refine VL_val rfl rfl rfl (yd_assign rfl) ?_
    refine VL_nil ?_
    refine VE_then ?_
    refine VC_region ?_
    refine VL_val rfl rfl rfl (yd_move rfl) ?_
    refine VL_val rfl rfl rfl (yd_loadn [.slice (some ⟨gb, go, none⟩) G.length gc, s.live G, s.dom G] rfl T.agg37 (fun j u hj => by rw [Nat.zero_add]; exact blk_cell (hS.get 1 rfl) hj)) ?_
    refine VL_val rfl rfl rfl (yd_move rfl) ?_
    refine VL_call rfl rfl rfl rfl T.call40 rfl (loop_ok (hS.shape hA0) hg hw hkl) ?_
    rintro _ w ⟨lb, R, rfl, hIL, hR⟩
    have hS := hS.call0 hR
    have hrb : R.map Value.bool = bl G.length (lp k) := bl_eq hIL.1 (fun i hi => by rw [Bool.eq_iff_iff, hIL.2 i hi, hlp])
    refine VL_rel rfl rfl rfl (yr_bslice rfl Try.underlying35 T.e25 rfl (by decide) (by decide) hS) ?_
    clear hS; rintro _ w ⟨b16, rfl, hS⟩
    refine VL_rel rfl rfl rfl (yr_append rfl rfl Try.underlying35 T.e25 rfl (by decide) hS 2 rfl (hS.get 4 rfl) rfl (by intro u hu; simp [Value.cells] at hu; subst hu; rfl) (by omega) (by omega)) ?_
    clear hS; rintro v17 w ⟨hS, -⟩
    have hS := bundle_in (hS.front 3 rfl)
    have hS := hS.sub (η' := _) (List.take_sublist 3 _)
    refine VL_val rfl rfl rfl (yd_assign rfl) ?_
    refine VL_nil ?_
    refine VE_block_normal ?_
    refine VE_then ?_
    refine VC_region ?_
    refine VL_val rfl rfl rfl (yd_add rfl rfl ((k + 1 : Nat) : Int) (by rw [wi64 (by omega) (by omega)]; omega)) ?_
    refine VL_val rfl rfl rfl (yd_move rfl) ?_
    refine VL_nil ?_
    refine VE_round3 (k + 1) _ (upd rb k lb) ⟨rfl, rfl, rfl, rfl, rfl, trivial⟩ ⟨by omega, ?_⟩ (by omega)
    rw [sl_snoc, ← bR_snoc (r := blk lb 4 (R.map Value.bool)) (by rw [hrb])]; exact hS
  · replace h10 := Int.not_lt.1 (of_decide_eq_false h10)
    refine VC_exit ?_
    refine VE_then_exit (VE_then_exit (VE_block_exit ?_))
    refine VE_then ?_
    refine VC_seq ?_
    refine VC_region ?_
    refine VL_val rfl rfl rfl (yd_move rfl) ?_
    refine VL_val rfl rfl rfl (yd_assign rfl) ?_
    refine VL_nil ?_
    refine VE_then ?_
    refine VC_ret ?_
    refine VE_ret1 (rfl) rfl ?_
    obtain rfl : k = G.length := by omega
    obtain ⟨ob, oc, rfl, -⟩ := row_form (hS.get 2 rfl) (.inr (by omega))
    exact ⟨⟨ob, oc, rb, lp⟩, rfl, fun h x _ _ => hlp h x, St_bundle (hS.sub (List.Sublist.cons_cons _ (List.Sublist.cons _ (List.Sublist.refl _))))⟩

theorem innermost_ok {w0 : World} {u v : Value} {s : SRep} {G : Graph} {q : QRep} (hA : ShapeAt w0 u v s G) (hg : Gd G) (hq : (allR q G.length).holds w0) (hQ : QOK q G) {x : Nat} (hx : x < G.length) {other : Int} : Calls Try.prog 26 #[u, QRep.val q G.length, .int .i64 (x : Int), .int .i64 other] w0 (Ret fun r w' => ∃ o, r = .int .i64 (nO o) ∧ IsInner G x other o ∧ St w0 M0 [] w') := by
  obtain ⟨rfl, hG, hok, hlive, hdr, hdc⟩ := hA
  obtain ⟨ga, gc, gb, go, rfl, hga, hrow⟩ := hG
  have hpos := hg.pos
  obtain rfl := hga (by omega)
  have hle := hg.le
  have hS := St.refl w0
  refine V_enter (N := 46) Try.func26 rfl Try.ntmps26 rfl ?_
  refine VC.sub (τ := [(0, _), (1, _), (2, _), (3, _)]) ⟨rfl, rfl, rfl, rfl, trivial⟩ ?_
  refine VC_seq ?_
  refine VC_region ?_
  refine VL_box rfl rfl rfl rfl rfl hS ?_
  clear hS; intro b4 w hS
  refine VL_val rfl rfl rfl (yd_assign rfl) ?_
  refine VL_nil ?_
  refine VE_then ?_
  refine VC_seq ?_
  refine VC_region ?_
  refine VL_val rfl rfl rfl (yd_assign rfl) ?_
  refine VL_nil ?_
  refine VE_then ?_
  refine VC_seq ?_
  refine VC_seq ?_
  refine VC_region ?_
  refine VL_val rfl rfl rfl (yd_field rfl T.fld37_0) ?_
  refine VL_val rfl rfl rfl (yd_load rfl T.one22 (blk_cell (hS.get 0 rfl) rfl)) ?_
  refine VL_val rfl rfl rfl (yd_len rfl Try.underlying22) ?_
  refine VL_val rfl rfl rfl (yd_move rfl) ?_
  refine VL_nil ?_
  refine VE_then ?_
  refine VC_block ?_
  refine VC_loop2 [1, 2, 3, 4, 8, 13] [_, _, _, _, _, _] rfl (fun (h : Nat) (o : Option Nat) => [(14, .int .i64 ((h : Nat) : Int)), (9, .int .i64 (nO o))]) (fun (h : Nat) (o : Option Nat) w => h ≤ G.length ∧ (∀ b, o = some b → b < G.length ∧ Lp G b x ∧ (b : Int) ≠ other ∧ ∀ p, p < h → Lp G p x → (p : Int) ≠ other → Dm G p b) ∧ (o = none → ∀ p, p < h → Lp G p x → (p : Int) = other) ∧ St w0 M0 [blk b4 37 [.slice (some ⟨gb, go, none⟩) G.length gc, s.live G, s.dom G]] w) (fun (h : Nat) (o : Option Nat) => G.length - h) 0 none ⟨rfl, rfl, trivial⟩ (⟨Nat.zero_le _, fun b e => (by cases e), fun _ p hp => absurd hp (Nat.not_lt_zero _), hS⟩) ?_
  clear hS; rintro h o w ⟨hh, ho1, ho2, hS⟩
  refine VC_seq ?_
  refine VC_region ?_
  refine VL_val rfl rfl rfl (yd_lss rfl rfl) ?_
  refine VL_nil ?_
  refine VE_then ?_
  refine VC_seq ?_
  refine VC_cond rfl (fun h15 => ?_) (fun h15 => ?_)
  · replace h15 := of_decide_eq_true h15
    refine VC_skip ?_
    refine VE_then ?_
    refine VC_seq ?_
    refine VC_block ?_
    refine VC_seq ?_
    refine VC_region ?_
    have hhl : h < G.length := by omega
    refine VL_val rfl rfl rfl (yd_move rfl) ?_
    refine VL_val rfl rfl rfl (yd_assign rfl) ?_
    refine VL_nil ?_
    refine VE_then ?_
    refine VC_seq ?_
    refine VC_region ?_
    refine VL_val rfl rfl rfl (yd_move rfl) ?_
    refine VL_val rfl rfl rfl (yd_move rfl) ?_
    refine VL_val rfl rfl rfl (yd_neq rfl rfl) ?_
    refine VL_val rfl rfl rfl (yd_move rfl) ?_
    refine VL_split 20 rfl (fun h20 => ?_) (fun h20 => ?_)
    · replace h20 := of_decide_eq_true h20
      refine VL_yes rfl rfl rfl rfl ?_
      refine VL_val rfl rfl rfl (yd_move rfl) ?_
      refine VL_yes rfl rfl rfl rfl ?_
      refine VL_val rfl rfl rfl (yd_move rfl) ?_
      refine VL_yes rfl rfl rfl rfl ?_
      refine VL_val rfl rfl rfl (yd_index0 rfl rfl Try.underlying35 T.sz25 (by omega)) ?_
      refine VL_yes rfl rfl rfl rfl ?_
      refine VL_val rfl rfl rfl (yd_load rfl T.one25 (hS.cell0 (q_row hq hhl))) ?_
      refine VL_yes rfl rfl rfl rfl ?_
      refine VL_val rfl rfl rfl (yd_move rfl) ?_
      refine VL_yes rfl rfl rfl rfl ?_
      refine VL_val rfl rfl rfl (yd_index0 rfl rfl Try.underlying25 T.sz4 (by omega)) ?_
      refine VL_yes rfl rfl rfl rfl ?_
      refine VL_val rfl rfl rfl (yd_load rfl T.one4 (hS.cell0 (q_cell hq hhl hx))) ?_
      refine VL_val rfl rfl rfl (yd_pick_t rfl rfl) ?_
      refine VL_val rfl rfl rfl (yd_move rfl) ?_
      refine VL_split 29 rfl (fun h29 => ?_) (fun h29 => ?_)
      · skip
        have hlh := (hQ h x hhl hx).1 h29
        refine VL_yes rfl rfl rfl rfl ?_
        refine VL_val rfl rfl rfl (yd_move rfl) ?_
        refine VL_yes rfl rfl rfl rfl ?_
        refine VL_val rfl rfl rfl (yd_lss rfl rfl) ?_
        refine VL_yes rfl rfl rfl rfl ?_
        refine VL_val rfl rfl rfl (yd_move rfl) ?_
        refine VL_split 32 rfl (fun h32 => ?_) (fun h32 => ?_)
        · replace h32 := of_decide_eq_true h32
          have hon : o = none := by
            cases o with
            | none => rfl
            | some b => have h32 : ((b : Nat) : Int) < 0 := h32; omega
          subst hon
          have hup1 := ho2 rfl
          refine VL_no rfl rfl rfl rfl rfl rfl rfl ?_
          refine VL_no rfl rfl rfl rfl rfl rfl rfl ?_
          refine VL_no rfl rfl rfl rfl rfl rfl rfl ?_
          refine VL_no rfl rfl rfl rfl rfl rfl rfl ?_
          refine VL_no rfl rfl rfl rfl rfl rfl rfl ?_
          refine VL_no rfl rfl rfl rfl rfl rfl rfl ?_
          refine VL_no rfl rfl rfl rfl rfl rfl rfl ?_
          refine VL_no rfl rfl rfl rfl rfl rfl rfl ?_
          refine VL_yes rfl rfl rfl rfl ?_
          refine VL_val rfl rfl rfl (yd_pick_t rfl rfl) ?_
          refine VL_val rfl rfl rfl (yd_pick_t rfl rfl) ?_
          refine VL_nil ?_
          refine VE_then ?_
          refine VC_cond_t rfl ?_
          refine VC_region ?_
          refine VL_val rfl rfl rfl (yd_move rfl) ?_
          refine VL_val rfl rfl rfl (yd_assign rfl) ?_
          refine VL_nil ?_
          refine VE_block_normal ?_
          refine VE_then ?_
          refine VC_region ?_
          refine VL_val rfl rfl rfl (yd_add rfl rfl ((h + 1 : Nat) : Int) (by rw [wi64 (by omega) (by omega)]; omega)) ?_
          refine VL_val rfl rfl rfl (yd_move rfl) ?_
          refine VL_nil ?_
          first
          | exact VE_round2 (h + 1) (some h) ⟨rfl, rfl, rfl, rfl, rfl, rfl, rfl, rfl, trivial⟩ ⟨by omega, fun b2 e => by (cases e; exact ⟨hhl, hlh, h20, all_succ (fun p hp l hne => (hb3 p hp l hne).trans hbh) (fun _ _ => dm_refl hlh.hdr.rc)⟩), fun e => (by cases e), hS⟩ (by omega)
          | exact VE_round2 (h + 1) (some h) ⟨rfl, rfl, rfl, rfl, rfl, rfl, rfl, rfl, trivial⟩ ⟨by omega, fun b2 e => by (cases e; exact ⟨hhl, hlh, h20, all_succ (fun p hp l hne => absurd (hup1 p hp l) hne) (fun _ _ => dm_refl hlh.hdr.rc)⟩), fun e => (by cases e), hS⟩ (by omega)
          | exact VE_round2 (h + 1) (some b) ⟨rfl, rfl, rfl, rfl, rfl, rfl, rfl, rfl, trivial⟩ ⟨by omega, fun b2 e => by (cases e; exact ⟨hbl, hb1, hb2, all_succ hb3 (fun _ _ => hnb)⟩), fun e => (by cases e), hS⟩ (by omega)
          | exact VE_round2 (h + 1) o ⟨rfl, rfl, rfl, rfl, rfl, rfl, rfl, rfl, trivial⟩ ⟨by omega, fun b e => ⟨(ho1 b e).1, (ho1 b e).2.1, (ho1 b e).2.2.1, all_succ (ho1 b e).2.2.2 (fun l _ => absurd l hsk2)⟩, fun e => all_succ (ho2 e) (fun l => absurd l hsk2), hS⟩ (by omega)
          | exact VE_round2 (h + 1) o ⟨rfl, rfl, rfl, rfl, rfl, rfl, rfl, rfl, trivial⟩ ⟨by omega, fun b e => ⟨(ho1 b e).1, (ho1 b e).2.1, (ho1 b e).2.2.1, all_succ (ho1 b e).2.2.2 (fun _ hne => absurd hsk1 hne)⟩, fun e => all_succ (ho2 e) (fun _ => hsk1), hS⟩ (by omega)
        · replace h32 := Int.not_lt.1 (of_decide_eq_false h32)
          obtain ⟨b, hb⟩ : ∃ b, o = some b := by
            cases o with
            | none => exact absurd h32 (by decide)
            | some b => exact ⟨b, rfl⟩
          subst hb
          obtain ⟨hbl, hb1, hb2, hb3⟩ := ho1 b rfl
          refine VL_yes rfl rfl rfl rfl ?_
          refine VL_val rfl rfl rfl (yd_field rfl T.fld37_2) ?_
          refine VL_yes rfl rfl rfl rfl ?_
          refine VL_val rfl rfl rfl (yd_load rfl T.one35 (blk_cell (hS.get 0 rfl) rfl)) ?_
          refine VL_yes rfl rfl rfl rfl ?_
          refine VL_val rfl rfl rfl (yd_move rfl) ?_
          refine VL_yes rfl rfl rfl rfl ?_
          refine VL_val rfl rfl rfl (yd_index0 rfl rfl Try.underlying35 T.sz25 (i := b) (by omega)) ?_
          refine VL_yes rfl rfl rfl rfl ?_
          refine VL_val rfl rfl rfl (yd_load rfl T.one25 (hS.cell0 (hdr b hbl))) ?_
          refine VL_yes rfl rfl rfl rfl ?_
          refine VL_val rfl rfl rfl (yd_move rfl) ?_
          refine VL_yes rfl rfl rfl rfl ?_
          refine VL_val rfl rfl rfl (yd_index0 rfl rfl Try.underlying25 T.sz4 (by omega)) ?_
          refine VL_yes rfl rfl rfl rfl ?_
          refine VL_val rfl rfl rfl (yd_load rfl T.one4 (hS.cell0 (hdc b h hbl hhl))) ?_
          refine VL_yes rfl rfl rfl rfl ?_
          refine VL_val rfl rfl rfl (yd_pick_f rfl rfl) ?_
          refine VL_val rfl rfl rfl (yd_pick_t rfl rfl) ?_
          refine VL_nil ?_
          refine VE_then ?_
          refine VC_cond rfl (fun h42 => ?_) (fun h42 => ?_)
          · skip
            have hbh := (hok.dm b h).1 h42
            refine VC_region ?_
            refine VL_val rfl rfl rfl (yd_move rfl) ?_
            refine VL_val rfl rfl rfl (yd_assign rfl) ?_
            refine VL_nil ?_
            refine VE_block_normal ?_
            refine VE_then ?_
            refine VC_region ?_
            refine VL_val rfl rfl rfl (yd_add rfl rfl ((h + 1 : Nat) : Int) (by rw [wi64 (by omega) (by omega)]; omega)) ?_
            refine VL_val rfl rfl rfl (yd_move rfl) ?_
            refine VL_nil ?_
            first
            | exact VE_round2 (h + 1) (some h) ⟨rfl, rfl, rfl, rfl, rfl, rfl, rfl, rfl, trivial⟩ ⟨by omega, fun b2 e => by (cases e; exact ⟨hhl, hlh, h20, all_succ (fun p hp l hne => (hb3 p hp l hne).trans hbh) (fun _ _ => dm_refl hlh.hdr.rc)⟩), fun e => (by cases e), hS⟩ (by omega)
            | exact VE_round2 (h + 1) (some h) ⟨rfl, rfl, rfl, rfl, rfl, rfl, rfl, rfl, trivial⟩ ⟨by omega, fun b2 e => by (cases e; exact ⟨hhl, hlh, h20, all_succ (fun p hp l hne => absurd (hup1 p hp l) hne) (fun _ _ => dm_refl hlh.hdr.rc)⟩), fun e => (by cases e), hS⟩ (by omega)
            | exact VE_round2 (h + 1) (some b) ⟨rfl, rfl, rfl, rfl, rfl, rfl, rfl, rfl, trivial⟩ ⟨by omega, fun b2 e => by (cases e; exact ⟨hbl, hb1, hb2, all_succ hb3 (fun _ _ => hnb)⟩), fun e => (by cases e), hS⟩ (by omega)
            | exact VE_round2 (h + 1) o ⟨rfl, rfl, rfl, rfl, rfl, rfl, rfl, rfl, trivial⟩ ⟨by omega, fun b e => ⟨(ho1 b e).1, (ho1 b e).2.1, (ho1 b e).2.2.1, all_succ (ho1 b e).2.2.2 (fun l _ => absurd l hsk2)⟩, fun e => all_succ (ho2 e) (fun l => absurd l hsk2), hS⟩ (by omega)
            | exact VE_round2 (h + 1) o ⟨rfl, rfl, rfl, rfl, rfl, rfl, rfl, rfl, trivial⟩ ⟨by omega, fun b e => ⟨(ho1 b e).1, (ho1 b e).2.1, (ho1 b e).2.2.1, all_succ (ho1 b e).2.2.2 (fun _ hne => absurd hsk1 hne)⟩, fun e => all_succ (ho2 e) (fun _ => hsk1), hS⟩ (by omega)
          · skip
            have hnb : Dm G h b := by
              rcases Dm.total hb1.dm hlh.dm with h1 | h1
              · have := (hok.dm b h).2 h1; rw [h42] at this; cases this
              · exact h1
            refine VC_skip ?_
            refine VE_block_normal ?_
            refine VE_then ?_
            refine VC_region ?_
            refine VL_val rfl rfl rfl (yd_add rfl rfl ((h + 1 : Nat) : Int) (by rw [wi64 (by omega) (by omega)]; omega)) ?_
            refine VL_val rfl rfl rfl (yd_move rfl) ?_
            refine VL_nil ?_
            first
            | exact VE_round2 (h + 1) (some h) ⟨rfl, rfl, rfl, rfl, rfl, rfl, rfl, rfl, trivial⟩ ⟨by omega, fun b2 e => by (cases e; exact ⟨hhl, hlh, h20, all_succ (fun p hp l hne => (hb3 p hp l hne).trans hbh) (fun _ _ => dm_refl hlh.hdr.rc)⟩), fun e => (by cases e), hS⟩ (by omega)
            | exact VE_round2 (h + 1) (some h) ⟨rfl, rfl, rfl, rfl, rfl, rfl, rfl, rfl, trivial⟩ ⟨by omega, fun b2 e => by (cases e; exact ⟨hhl, hlh, h20, all_succ (fun p hp l hne => absurd (hup1 p hp l) hne) (fun _ _ => dm_refl hlh.hdr.rc)⟩), fun e => (by cases e), hS⟩ (by omega)
            | exact VE_round2 (h + 1) (some b) ⟨rfl, rfl, rfl, rfl, rfl, rfl, rfl, rfl, trivial⟩ ⟨by omega, fun b2 e => by (cases e; exact ⟨hbl, hb1, hb2, all_succ hb3 (fun _ _ => hnb)⟩), fun e => (by cases e), hS⟩ (by omega)
            | exact VE_round2 (h + 1) o ⟨rfl, rfl, rfl, rfl, rfl, rfl, rfl, rfl, trivial⟩ ⟨by omega, fun b e => ⟨(ho1 b e).1, (ho1 b e).2.1, (ho1 b e).2.2.1, all_succ (ho1 b e).2.2.2 (fun l _ => absurd l hsk2)⟩, fun e => all_succ (ho2 e) (fun l => absurd l hsk2), hS⟩ (by omega)
            | exact VE_round2 (h + 1) o ⟨rfl, rfl, rfl, rfl, rfl, rfl, rfl, rfl, trivial⟩ ⟨by omega, fun b e => ⟨(ho1 b e).1, (ho1 b e).2.1, (ho1 b e).2.2.1, all_succ (ho1 b e).2.2.2 (fun _ hne => absurd hsk1 hne)⟩, fun e => all_succ (ho2 e) (fun _ => hsk1), hS⟩ (by omega)
      · skip
        have hsk2 : ¬ Lp G h x := fun l => by have := (hQ h x hhl hx).2 l; rw [h29] at this; cases this
        refine VL_no rfl rfl rfl rfl rfl rfl rfl ?_
        refine VL_no rfl rfl rfl rfl rfl rfl rfl ?_
        refine VL_no rfl rfl rfl rfl rfl rfl rfl ?_
        refine VL_noU rfl rfl rfl rfl rfl rfl ?_
        refine VL_noU rfl rfl rfl rfl rfl rfl ?_
        refine VL_noU rfl rfl rfl rfl rfl rfl ?_
        refine VL_noU rfl rfl rfl rfl rfl rfl ?_
        refine VL_noU rfl rfl rfl rfl rfl rfl ?_
        refine VL_noU rfl rfl rfl rfl rfl rfl ?_
        refine VL_noU rfl rfl rfl rfl rfl rfl ?_
        refine VL_noU rfl rfl rfl rfl rfl rfl ?_
        refine VL_no rfl rfl rfl rfl rfl rfl rfl ?_
        refine VL_val rfl rfl rfl (yd_pick_f rfl rfl) ?_
        refine VL_nil ?_
        refine VE_then ?_
        refine VC_cond_f rfl ?_
        refine VC_skip ?_
        refine VE_block_normal ?_
        refine VE_then ?_
        refine VC_region ?_
        refine VL_val rfl rfl rfl (yd_add rfl rfl ((h + 1 : Nat) : Int) (by rw [wi64 (by omega) (by omega)]; omega)) ?_
        refine VL_val rfl rfl rfl (yd_move rfl) ?_
        refine VL_nil ?_
        first
        | exact VE_round2 (h + 1) (some h) ⟨rfl, rfl, rfl, rfl, rfl, rfl, rfl, rfl, trivial⟩ ⟨by omega, fun b2 e => by (cases e; exact ⟨hhl, hlh, h20, all_succ (fun p hp l hne => (hb3 p hp l hne).trans hbh) (fun _ _ => dm_refl hlh.hdr.rc)⟩), fun e => (by cases e), hS⟩ (by omega)
        | exact VE_round2 (h + 1) (some h) ⟨rfl, rfl, rfl, rfl, rfl, rfl, rfl, rfl, trivial⟩ ⟨by omega, fun b2 e => by (cases e; exact ⟨hhl, hlh, h20, all_succ (fun p hp l hne => absurd (hup1 p hp l) hne) (fun _ _ => dm_refl hlh.hdr.rc)⟩), fun e => (by cases e), hS⟩ (by omega)
        | exact VE_round2 (h + 1) (some b) ⟨rfl, rfl, rfl, rfl, rfl, rfl, rfl, rfl, trivial⟩ ⟨by omega, fun b2 e => by (cases e; exact ⟨hbl, hb1, hb2, all_succ hb3 (fun _ _ => hnb)⟩), fun e => (by cases e), hS⟩ (by omega)
        | exact VE_round2 (h + 1) o ⟨rfl, rfl, rfl, rfl, rfl, rfl, rfl, rfl, trivial⟩ ⟨by omega, fun b e => ⟨(ho1 b e).1, (ho1 b e).2.1, (ho1 b e).2.2.1, all_succ (ho1 b e).2.2.2 (fun l _ => absurd l hsk2)⟩, fun e => all_succ (ho2 e) (fun l => absurd l hsk2), hS⟩ (by omega)
        | exact VE_round2 (h + 1) o ⟨rfl, rfl, rfl, rfl, rfl, rfl, rfl, rfl, trivial⟩ ⟨by omega, fun b e => ⟨(ho1 b e).1, (ho1 b e).2.1, (ho1 b e).2.2.1, all_succ (ho1 b e).2.2.2 (fun _ hne => absurd hsk1 hne)⟩, fun e => all_succ (ho2 e) (fun _ => hsk1), hS⟩ (by omega)
    · replace h20 := Decidable.not_not.1 (of_decide_eq_false h20)
      have hsk1 : (h : Int) = other := h20
      refine VL_no rfl rfl rfl rfl rfl rfl rfl ?_
      refine VL_no rfl rfl rfl rfl rfl rfl rfl ?_
      refine VL_no rfl rfl rfl rfl rfl rfl rfl ?_
      refine VL_no rfl rfl rfl rfl rfl rfl rfl ?_
      refine VL_no rfl rfl rfl rfl rfl rfl rfl ?_
      refine VL_no rfl rfl rfl rfl rfl rfl rfl ?_
      refine VL_no rfl rfl rfl rfl rfl rfl rfl ?_
      refine VL_val rfl rfl rfl (yd_pick_f rfl rfl) ?_
      refine VL_val rfl rfl rfl (yd_move rfl) ?_
      refine VL_no rfl rfl rfl rfl rfl rfl rfl ?_
      refine VL_no rfl rfl rfl rfl rfl rfl rfl ?_
      refine VL_no rfl rfl rfl rfl rfl rfl rfl ?_
      refine VL_noU rfl rfl rfl rfl rfl rfl ?_
      refine VL_noU rfl rfl rfl rfl rfl rfl ?_
      refine VL_noU rfl rfl rfl rfl rfl rfl ?_
      refine VL_noU rfl rfl rfl rfl rfl rfl ?_
      refine VL_noU rfl rfl rfl rfl rfl rfl ?_
      refine VL_noU rfl rfl rfl rfl rfl rfl ?_
      refine VL_noU rfl rfl rfl rfl rfl rfl ?_
      refine VL_noU rfl rfl rfl rfl rfl rfl ?_
      refine VL_no rfl rfl rfl rfl rfl rfl rfl ?_
      refine VL_val rfl rfl rfl (yd_pick_f rfl rfl) ?_
      refine VL_nil ?_
      refine VE_then ?_
      refine VC_cond_f rfl ?_
      refine VC_skip ?_
      refine VE_block_normal ?_
      refine VE_then ?_
      refine VC_region ?_
      refine VL_val rfl rfl rfl (yd_add rfl rfl ((h + 1 : Nat) : Int) (by rw [wi64 (by omega) (by omega)]; omega)) ?_
      refine VL_val rfl rfl rfl (yd_move rfl) ?_
      refine VL_nil ?_
      first
      | exact VE_round2 (h + 1) (some h) ⟨rfl, rfl, rfl, rfl, rfl, rfl, rfl, rfl, trivial⟩ ⟨by omega, fun b2 e => by (cases e; exact ⟨hhl, hlh, h20, all_succ (fun p hp l hne => (hb3 p hp l hne).trans hbh) (fun _ _ => dm_refl hlh.hdr.rc)⟩), fun e => (by cases e), hS⟩ (by omega)
      | exact VE_round2 (h + 1) (some h) ⟨rfl, rfl, rfl, rfl, rfl, rfl, rfl, rfl, trivial⟩ ⟨by omega, fun b2 e => by (cases e; exact ⟨hhl, hlh, h20, all_succ (fun p hp l hne => absurd (hup1 p hp l) hne) (fun _ _ => dm_refl hlh.hdr.rc)⟩), fun e => (by cases e), hS⟩ (by omega)
      | exact VE_round2 (h + 1) (some b) ⟨rfl, rfl, rfl, rfl, rfl, rfl, rfl, rfl, trivial⟩ ⟨by omega, fun b2 e => by (cases e; exact ⟨hbl, hb1, hb2, all_succ hb3 (fun _ _ => hnb)⟩), fun e => (by cases e), hS⟩ (by omega)
      | exact VE_round2 (h + 1) o ⟨rfl, rfl, rfl, rfl, rfl, rfl, rfl, rfl, trivial⟩ ⟨by omega, fun b e => ⟨(ho1 b e).1, (ho1 b e).2.1, (ho1 b e).2.2.1, all_succ (ho1 b e).2.2.2 (fun l _ => absurd l hsk2)⟩, fun e => all_succ (ho2 e) (fun l => absurd l hsk2), hS⟩ (by omega)
      | exact VE_round2 (h + 1) o ⟨rfl, rfl, rfl, rfl, rfl, rfl, rfl, rfl, trivial⟩ ⟨by omega, fun b e => ⟨(ho1 b e).1, (ho1 b e).2.1, (ho1 b e).2.2.1, all_succ (ho1 b e).2.2.2 (fun _ hne => absurd hsk1 hne)⟩, fun e => all_succ (ho2 e) (fun _ => hsk1), hS⟩ (by omega)
  · replace h15 := Int.not_lt.1 (of_decide_eq_false h15)
    refine VC_exit ?_
    refine VE_then_exit (VE_then_exit (VE_block_exit ?_))
    refine VE_then ?_
    refine VC_seq ?_
    refine VC_region ?_
    refine VL_val rfl rfl rfl (yd_move rfl) ?_
    refine VL_val rfl rfl rfl (yd_assign rfl) ?_
    refine VL_nil ?_
    refine VE_then ?_
    refine VC_ret ?_
    refine VE_ret1 (rfl) rfl ?_
    obtain rfl : h = G.length := by omega
    exact ⟨o, rfl, ⟨fun b e => ⟨(ho1 b e).2.1, (ho1 b e).2.2.1, fun p l hne => (ho1 b e).2.2.2 p (l.dm.lt hg).1 l hne⟩, fun e p l => ho2 e p (l.dm.lt hg).1 l⟩, hS.sub (List.nil_sublist _)⟩

theorem sdepth_ok {w0 : World} {G : Graph} {q : QRep} (hg : Gd G) (hq : (allR q G.length).holds w0) {x : Nat} (hx : x < G.length) : Calls Try.prog 27 #[QRep.val q G.length, .int .i64 (x : Int)] w0 (Ret fun r w' => r = .int .i64 (((List.range G.length).countP fun h => q.lp h x : Nat) : Int) ∧ w0 = w') := by
  have hle := hg.le
  refine V_enter (N := 22) Try.func27 rfl Try.ntmps27 rfl ?_
  refine VC.sub (τ := [(0, _), (1, _)]) ⟨rfl, rfl, trivial⟩ ?_
  refine VC_seq ?_
  refine VC_region ?_
  refine VL_val rfl rfl rfl (yd_assign rfl) ?_
  refine VL_nil ?_
  refine VE_then ?_
  refine VC_seq ?_
  refine VC_region ?_
  refine VL_val rfl rfl rfl (yd_assign rfl) ?_
  refine VL_nil ?_
  refine VE_then ?_
  refine VC_seq ?_
  refine VC_seq ?_
  refine VC_region ?_
  refine VL_val rfl rfl rfl (yd_move rfl) ?_
  refine VL_val rfl rfl rfl (yd_len rfl Try.underlying35) ?_
  refine VL_val rfl rfl rfl (yd_move rfl) ?_
  refine VL_nil ?_
  refine VE_then ?_
  refine VC_block ?_
  refine VC_loop1 [1, 4, 8, 9] [_, _, _, _] rfl (fun (k : Nat) => [(10, .int .i64 ((k : Nat) : Int)), (5, .int .i64 (((List.range k).countP fun h => q.lp h x : Nat) : Int))]) (fun (k : Nat) w => k ≤ G.length ∧ w0 = w) (fun (k : Nat) => G.length - k) 0 ⟨rfl, rfl, trivial⟩ (⟨Nat.zero_le _, rfl⟩) ?_
  rintro k w ⟨hk, rfl⟩
  have hcl : (List.range k).countP (fun h => q.lp h x) ≤ k := by have := List.countP_le_length (p := fun h => q.lp h x) (l := List.range k); rwa [List.length_range] at this
  refine VC_seq ?_
  refine VC_region ?_
  refine VL_val rfl rfl rfl (yd_lss rfl rfl) ?_
  refine VL_nil ?_
  refine VE_then ?_
  refine VC_seq ?_
  refine VC_cond rfl (fun h11 => ?_) (fun h11 => ?_)
  · replace h11 := of_decide_eq_true h11
    refine VC_skip ?_
    refine VE_then ?_
    refine VC_seq ?_
    refine VC_block ?_
    refine VC_seq ?_
    refine VC_region ?_
    have hkl : k < G.length := by omega
    have hcs : (List.range (k + 1)).countP (fun h => q.lp h x) = (List.range k).countP (fun h => q.lp h x) + if q.lp k x = true then 1 else 0 := by rw [List.range_succ, List.countP_append, List.countP_cons, List.countP_nil, Nat.zero_add]
    refine VL_val rfl rfl rfl (yd_index0 rfl rfl Try.underlying35 T.sz25 (by omega)) ?_
    refine VL_val rfl rfl rfl (yd_load rfl T.one25 (q_row hq hkl)) ?_
    refine VL_val rfl rfl rfl (yd_assign rfl) ?_
    refine VL_nil ?_
    refine VE_then ?_
    refine VC_seq ?_
    refine VC_region ?_
    refine VL_val rfl rfl rfl (yd_move rfl) ?_
    refine VL_val rfl rfl rfl (yd_move rfl) ?_
    refine VL_val rfl rfl rfl (yd_index0 rfl rfl Try.underlying25 T.sz4 (by omega)) ?_
    refine VL_val rfl rfl rfl (yd_load rfl T.one4 (q_cell hq hkl hx)) ?_
    refine VL_nil ?_
    refine VE_then ?_
    refine VC_cond rfl (fun h17 => ?_) (fun h17 => ?_)
    · skip
      rw [if_pos h17] at hcs
      refine VC_region ?_
      refine VL_val rfl rfl rfl (yd_move rfl) ?_
      refine VL_val rfl rfl rfl (yd_add rfl rfl (((List.range (k + 1)).countP fun h => q.lp h x : Nat) : Int) (by rw [wi64 (by omega) (by omega), hcs]; omega)) ?_
      refine VL_val rfl rfl rfl (yd_assign rfl) ?_
      refine VL_nil ?_
      refine VE_block_normal ?_
      refine VE_then ?_
      refine VC_region ?_
      refine VL_val rfl rfl rfl (yd_add rfl rfl ((k + 1 : Nat) : Int) (by rw [wi64 (by omega) (by omega)]; omega)) ?_
      refine VL_val rfl rfl rfl (yd_move rfl) ?_
      refine VL_nil ?_
      first
      | exact VE_round1 (k + 1) ⟨rfl, rfl, rfl, rfl, rfl, rfl, trivial⟩ ⟨by omega, rfl⟩ (by omega)
      | (rw [← hcs0]; exact VE_round1 (k + 1) ⟨rfl, rfl, rfl, rfl, rfl, rfl, trivial⟩ ⟨by omega, rfl⟩ (by omega))
    · skip
      have hcs0 : (List.range (k + 1)).countP (fun h => q.lp h x) = (List.range k).countP (fun h => q.lp h x) := by rw [hcs, if_neg (by rw [h17]; simp)]; rfl
      refine VC_skip ?_
      refine VE_block_normal ?_
      refine VE_then ?_
      refine VC_region ?_
      refine VL_val rfl rfl rfl (yd_add rfl rfl ((k + 1 : Nat) : Int) (by rw [wi64 (by omega) (by omega)]; omega)) ?_
      refine VL_val rfl rfl rfl (yd_move rfl) ?_
      refine VL_nil ?_
      first
      | exact VE_round1 (k + 1) ⟨rfl, rfl, rfl, rfl, rfl, rfl, trivial⟩ ⟨by omega, rfl⟩ (by omega)
      | (rw [← hcs0]; exact VE_round1 (k + 1) ⟨rfl, rfl, rfl, rfl, rfl, rfl, trivial⟩ ⟨by omega, rfl⟩ (by omega))
  · replace h11 := Int.not_lt.1 (of_decide_eq_false h11)
    refine VC_exit ?_
    refine VE_then_exit (VE_then_exit (VE_block_exit ?_))
    refine VE_then ?_
    refine VC_seq ?_
    refine VC_region ?_
    refine VL_val rfl rfl rfl (yd_move rfl) ?_
    refine VL_val rfl rfl rfl (yd_assign rfl) ?_
    refine VL_nil ?_
    refine VE_then ?_
    refine VC_ret ?_
    refine VE_ret1 (rfl) rfl ?_
    obtain rfl : k = G.length := by omega
    exact ⟨rfl, rfl⟩

theorem lheader_ok {w0 : World} {hs : List Nat} {s : LRep} {va : Option Addr} {vc : Nat} (hl : (row (.slice va hs.length vc) 45 5 hs.length (loopC hs s hs)).holds w0) (hvb : 0 < hs.length → ∃ b, va = some ⟨b, 0, none⟩) {o : Option Nat} (ho : ∀ h, o = some h → h ∈ hs) : Calls Try.prog 29 #[.slice va hs.length vc, .int .i64 (ixO hs o)] w0 (Ret fun r w' => r = .int .i64 (nO o) ∧ w0 = w') := by
  have hix := ixO_lt ho
  refine V_enter (N := 20) Try.func29 rfl Try.ntmps29 rfl ?_
  refine VC.sub (τ := [(0, _), (1, _)]) ⟨rfl, rfl, trivial⟩ ?_
  refine VC_seq ?_
  refine VC_region ?_
  refine VL_val rfl rfl rfl (yd_assign rfl) ?_
  refine VL_nil ?_
  refine VE_then ?_
  refine VC_seq ?_
  refine VC_seq ?_
  refine VC_region ?_
  refine VL_val rfl rfl rfl (yd_move rfl) ?_
  refine VL_val rfl rfl rfl (yd_eql rfl rfl) ?_
  refine VL_nil ?_
  refine VE_then ?_
  refine VC_cond rfl (fun h6 => ?_) (fun h6 => ?_)
  · replace h6 := of_decide_eq_true h6
    have hon : o = none := by
      cases o with
      | none => rfl
      | some h => have h6 : ((hs.idxOf h : Nat) : Int) = -1 := h6; omega
    refine VC_seq ?_
    refine VC_region ?_
    refine VL_val rfl rfl rfl (yd_assign rfl) ?_
    refine VL_nil ?_
    refine VE_then ?_
    refine VC_ret ?_
    refine VE_then_ret (?_)
    refine VE_ret1 (rfl) rfl ?_
    exact ⟨by rw [hon]; rfl, rfl⟩
  · replace h6 := of_decide_eq_false h6
    obtain ⟨h, hh⟩ : ∃ h, o = some h := by
      cases o with
      | none => exact absurd rfl h6
      | some h => exact ⟨h, rfl⟩
    subst hh
    obtain ⟨hil, hget⟩ := idx_get (ho h rfl)
    obtain ⟨vb, rfl⟩ := hvb (by omega)
    refine VC_skip ?_
    refine VE_then ?_
    refine VC_seq ?_
    refine VC_seq ?_
    refine VC_region ?_
    refine VL_val rfl rfl rfl (yd_move rfl) ?_
    refine VL_val rfl rfl rfl (yd_lss rfl rfl) ?_
    refine VL_val rfl rfl rfl (yd_move rfl) ?_
    refine VL_split 9 rfl (fun h9 => ?_) (fun h9 => ?_)
    · replace h9 := of_decide_eq_true h9
      exact absurd h9 (by omega)
    · replace h9 := Int.not_lt.1 (of_decide_eq_false h9)
      refine VL_yes rfl rfl rfl rfl ?_
      refine VL_val rfl rfl rfl (yd_move rfl) ?_
      refine VL_yes rfl rfl rfl rfl ?_
      refine VL_val rfl rfl rfl (yd_move rfl) ?_
      refine VL_yes rfl rfl rfl rfl ?_
      refine VL_val rfl rfl rfl (yd_len rfl Try.underlying40) ?_
      refine VL_yes rfl rfl rfl rfl ?_
      refine VL_val rfl rfl rfl (yd_geq rfl rfl) ?_
      refine VL_val rfl rfl rfl (yd_pick_f rfl rfl) ?_
      refine VL_nil ?_
      refine VE_then ?_
      refine VC_cond rfl (fun h14 => ?_) (fun h14 => ?_)
      · replace h14 := of_decide_eq_true h14
        exact absurd h14 (by omega)
      · replace h14 := Int.not_le.1 (of_decide_eq_false h14)
        refine VC_skip ?_
        refine VE_then ?_
        refine VC_seq ?_
        refine VC_region ?_
        refine VL_val rfl rfl rfl (yd_move rfl) ?_
        refine VL_val rfl rfl rfl (yd_move rfl) ?_
        refine VL_val rfl rfl rfl (yd_index rfl rfl Try.underlying40 T.sz45 (i := hs.idxOf h) hil (hs.idxOf h * 5) (Nat.zero_add _)) ?_
        refine VL_val rfl rfl rfl (yd_field rfl T.fld45_0) ?_
        refine VL_val rfl rfl rfl (yd_load rfl T.one3 (show _ = some (Value.int .i64 ((h : Nat) : Int)) by have := l5_cell hl hil 0 _ rfl; rw [hget] at this; exact this)) ?_
        refine VL_val rfl rfl rfl (yd_assign rfl) ?_
        refine VL_nil ?_
        refine VE_then ?_
        refine VC_ret ?_
        refine VE_ret1 (rfl) rfl ?_
        exact ⟨rfl, rfl⟩

end Go.Proofs.Ytmoooaaiohplhac
