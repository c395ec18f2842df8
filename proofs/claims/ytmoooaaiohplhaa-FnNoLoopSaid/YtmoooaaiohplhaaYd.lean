/- Header, Loop, Loops, Innermost, Depth. -/
import Derived.Test.YtmoooaaiohplhaaYc
namespace Go.Proofs.Ytmoooaaiohplhaa
open Go Go.V
set_option linter.unusedVariables false
set_option maxRecDepth 100000



open Go.PL
/-- Ways back are marked. -/
def BKupto (G : Graph) (h x j : Nat) (R : List Bool) : Prop := ∀ a i, a < G.length → i < G[a]!.length → (a < x ∨ (a = x ∧ i < j)) → G[a]![i]! = h → Dm G h a → R[a]! = true
structure LSnd (G : Graph) (h : Nat) (R : List Bool) : Prop where
  len : R.length = G.length
  src : R[h]! = true
  snd : ∀ y, y < G.length → R[y]! = true → Lp G h y
/-- Closed under the ways into blocks that are marked. -/
def LUpto (G : Graph) (h : Nat) (R : List Bool) (x j : Nat) : Prop :=
  ∀ a i, a < G.length → i < G[a]!.length → (a < x ∨ (a = x ∧ i < j)) → G[a]![i]! ≠ h → R[G[a]![i]!]! = true → R[a]! = true
def LClosed (G : Graph) (h : Nat) (R : List Bool) : Prop := LUpto G h R G.length 0
def LJ (G : Graph) (h : Nat) (R : List Bool) (r x j : Nat) : Prop := LClosed G h R ∨ r + 2 ≤ cnt R ∨ (r + 1 ≤ cnt R ∧ LUpto G h R x j)
section
variable {G : Graph} {h x j r : Nat} {R : List Bool}
theorem LJ.start (hh : LClosed G h R ∨ r + 1 ≤ cnt R) : LJ G h R r 0 0 := by
  rcases hh with hh | hh
  · exact .inl hh
  · exact .inr (.inr ⟨hh, fun a i _ _ h => by omega⟩)
theorem LJ.row (hh : LJ G h R r x j) (hj : G[x]!.length ≤ j) : LJ G h R r (x + 1) 0 := by
  rcases hh with hh | hh | ⟨h1, h2⟩
  · exact .inl hh
  · exact .inr (.inl hh)
  · refine .inr (.inr ⟨h1, fun a i ha hi hh => h2 a i ha hi ?_⟩)
    rcases Nat.lt_or_ge a x with h3 | h3
    · exact .inl h3
    · obtain rfl : a = x := by omega
      exact .inr ⟨rfl, by omega⟩
theorem LJ.skip (hh : LJ G h R r x j) (hn : G[x]![j]! ≠ h → R[G[x]![j]!]! = true → False) : LJ G h R r x (j + 1) := by
  rcases hh with hh | hh | ⟨h1, h2⟩
  · exact .inl hh
  · exact .inr (.inl hh)
  · refine .inr (.inr ⟨h1, fun a i ha hi hh hR hw => ?_⟩)
    by_cases e : a = x ∧ i = j
    · obtain ⟨rfl, rfl⟩ := e; exact (hn hR hw).elim
    · exact h2 a i ha hi (by omega) hR hw
theorem LJ.take (hl : R.length = G.length) (hh : LJ G h R r x j) (hx : x < G.length) (hj : j < G[x]!.length) (hne : G[x]![j]! ≠ h) (hR : R[G[x]![j]!]! = true) : LJ G h (R.set x true) r x (j + 1) := by
  cases hb : R[x]! with
  | true =>
    rw [set_same R _ hb]
    rcases hh with hh | hh | ⟨h1, h2⟩
    · exact .inl hh
    · exact .inr (.inl hh)
    · refine .inr (.inr ⟨h1, fun a i ha hi hh hR hw => ?_⟩)
      by_cases e : a = x ∧ i = j
      · obtain ⟨rfl, rfl⟩ := e; exact hb
      · exact h2 a i ha hi (by omega) hR hw
  | false =>
    have hc := cnt_set R x (by rw [hl]; exact hx) hb
    rcases hh with hh | hh | ⟨h1, h2⟩
    · have := hh x j hx hj (.inl hx) hne hR
      rw [this] at hb; cases hb
    · exact .inr (.inl (by omega))
    · exact .inr (.inl (by omega))
theorem LJ.done (hh : LJ G h R r G.length 0) : LClosed G h R ∨ r + 1 + 1 ≤ cnt R := by
  rcases hh with hh | hh | ⟨_, h2⟩
  · exact .inl hh
  · exact .inr hh
  · exact .inl h2
theorem LSnd.mark (hs : LSnd G h R) (hx : x < G.length) (hl : Lp G h x) : LSnd G h (R.set x true) := by
  have hxl : x < R.length := by rw [hs.len]; exact hx
  refine ⟨by simp [hs.len], ?_, fun y hy e => ?_⟩
  · rw [get!_set _ _ _ _ hxl]; split
    · rfl
    · exact hs.src
  · rw [get!_set _ _ _ _ hxl] at e
    split at e
    · rename_i e2; subst e2; exact hl
    · exact hs.snd y hy e
theorem set_keep {a : Nat} (hx : x < R.length) (ha : R[a]! = true) : (R.set x true)[a]! = true := by
  rw [get!_set _ _ _ _ hx]; split
  · rfl
  · exact ha
theorem BKupto.set {q i : Nat} (hb : BKupto G h q i R) (hx : x < R.length) : BKupto G h q i (R.set x true) := fun a p ha hp hh e hd => set_keep hx (hb a p ha hp hh e hd)
theorem BKupto.row (hb : BKupto G h x j R) (hj : G[x]!.length ≤ j) : BKupto G h (x + 1) 0 R := fun a i ha hi hh => hb a i ha hi (by
  rcases Nat.lt_or_ge a x with h3 | h3
  · exact .inl h3
  · obtain rfl : a = x := by omega
    exact .inr ⟨rfl, by omega⟩)
theorem BKupto.next (hb : BKupto G h x j R) (hn : G[x]![j]! = h → Dm G h x → R[x]! = true) : BKupto G h x (j + 1) R := fun a i ha hi hh e hd => by
  by_cases e2 : a = x ∧ i = j
  · obtain ⟨rfl, rfl⟩ := e2; exact hn e hd
  · exact hb a i ha hi (by omega) e hd
theorem LSnd.init (hh : h < G.length) (hd : Hdr G h) : LSnd G h ((List.replicate G.length false).set h true) := by
  refine ⟨by simp, get!_set_self _ _ _ (by simpa using hh), fun y hy e => ?_⟩
  rw [get!_set _ _ _ _ (by simpa using hh)] at e
  split at e
  · rename_i e2; subst e2; exact .head hd
  · rw [get!_replicate _ _ _ hy] at e; cases e
/-- What Loop returns. -/
def IsLoop (G : Graph) (h : Nat) (R : List Bool) : Prop := R.length = G.length ∧ ∀ y, y < G.length → (R[y]! = true ↔ Lp G h y)
theorem LSnd.done (hg : Gd G) (hs : LSnd G h R) (hb : BKupto G h G.length 0 R) (hc : LClosed G h R ∨ G.length + 1 ≤ cnt R) : IsLoop G h R := by
  have hc : LClosed G h R := by
    rcases hc with hc | hc
    · exact hc
    · have := cnt_le R; rw [hs.len] at this; omega
  refine ⟨hs.len, fun y hy => ⟨hs.snd y hy, fun l => ?_⟩⟩
  clear hy
  induction l with
  | head _ => exact hs.src
  | back e d =>
    have he := e
    obtain ⟨i, hi, e2⟩ := e.idx
    exact hb _ i he.1 hi (.inl he.1) e2 d
  | step e hne _ _ ih =>
    have he := e
    obtain ⟨i, hi, rfl⟩ := e.idx
    exact hc _ i he.1 hi (.inl he.1) hne ih
theorem isLoop_none (hn : ¬ Hdr G h) : IsLoop G h (List.replicate G.length false) := ⟨by simp, fun y hy => by rw [get!_replicate _ _ _ hy]; exact ⟨fun e => (by cases e), fun l => absurd l.hdr hn⟩⟩
end
/-- All loops in memory. -/
structure QRep where
  qb : Nat
  qc : Nat
  rb : Nat → Nat
  lp : Nat → Nat → Bool
def QRep.val (q : QRep) (n : Nat) : Value := .slice (some ⟨q.qb, 0, none⟩) n q.qc
def loopsL (q : QRep) (n : Nat) : List Res := [bundle ((List.range n).map (bR q.rb q.lp n)), row (q.val n) 28 1 n ((List.range n).map fun i => .slice (some ⟨q.rb i, 0, none⟩) n n)]
def allR (q : QRep) (n : Nat) : Res := bundle (loopsL q n)
def QOK (q : QRep) (G : Graph) : Prop := ∀ h x, h < G.length → x < G.length → (q.lp h x = true ↔ Lp G h x)
theorem q_row {w : World} {q : QRep} {n h : Nat} (hq : (allR q n).holds w) (hh : h < n) : w.cell? ⟨q.qb, h, none⟩ = some (.slice (some ⟨q.rb h, 0, none⟩) n n) := by
  have h2 := hq.1 (V.row (q.val n) 28 1 n ((List.range n).map fun i => .slice (some ⟨q.rb i, 0, none⟩) n n)) (by simp [loopsL])
  exact row_cell h2 (by simp [hh])
theorem q_cell {w : World} {q : QRep} {n h x : Nat} (hq : (allR q n).holds w) (hh : h < n) (hx : x < n) : w.cell? ⟨q.rb h, x, none⟩ = some (.bool (q.lp h x)) := by
  have h0 := hq.1 (bundle ((List.range n).map (bR q.rb q.lp n))) (by simp [loopsL])
  exact blk_cell (h0.1 (bR q.rb q.lp n h) (List.mem_map.2 ⟨h, by simpa using hh, rfl⟩)) (by simp [bl, hx])
/-- The innermost loop, other than that of one header. -/
def IsInner (G : Graph) (x : Nat) (other : Int) (o : Option Nat) : Prop := (∀ h, o = some h → Lp G h x ∧ (h : Int) ≠ other ∧ ∀ q, Lp G q x → (q : Int) ≠ other → Dm G q h) ∧ (o = none → ∀ q, Lp G q x → (q : Int) = other)
theorem row_slice {w : World} {v : Value} {e : TypeId} {sz len : Nat} {xs : List Value} (h : (row v e sz len xs).holds w) : ∃ va vc, v = .slice va len vc ∧ (0 < len → ∃ b, va = some ⟨b, 0, none⟩) := by
  rcases h.2 with ⟨h1, h2⟩ | ⟨g, cap, cur, h1, _⟩
  · exact ⟨none, 0, by rw [h1, h2], fun h => by omega⟩
  · exact ⟨_, cap, h1, fun _ => ⟨g, rfl⟩⟩
theorem idx_get {hs : List Nat} {h : Nat} (hh : h ∈ hs) : hs.idxOf h < hs.length ∧ hs[hs.idxOf h]! = h := by
  have hl := List.idxOf_lt_length_of_mem hh
  exact ⟨hl, by rw [getElem!_pos hs _ hl]; exact List.getElem_idxOf hl⟩
theorem IsInner.unique {G : Graph} {x : Nat} {other : Int} {o o' : Option Nat} (h : IsInner G x other o) (h' : IsInner G x other o') : o = o' := by
  cases o with
  | none => cases o' with
    | none => rfl
    | some b => obtain ⟨h1, h2, _⟩ := h'.1 b rfl; exact absurd (h.2 rfl b h1) h2
  | some a => cases o' with
    | none => obtain ⟨h1, h2, _⟩ := h.1 a rfl; exact absurd (h'.2 rfl a h1) h2
    | some b =>
      obtain ⟨h1, h2, h3⟩ := h.1 a rfl
      obtain ⟨h4, h5, h6⟩ := h'.1 b rfl
      rw [Dm.antisymm (h6 a h1 h2) (h3 b h4 h5)]

theorem header_ok {w0 : World} {u v : Value} {s : SRep} {G : Graph} (hA : ShapeAt w0 u v s G) (hg : Gd G) {h : Nat} (hh : h < G.length) : Calls Try.prog 25 #[u, .int .i64 (h : Int)] w0 (Ret fun r w' => ∃ b, r = .bool b ∧ (b = true ↔ Hdr G h) ∧ St w0 M0 [] w') := by
  obtain ⟨rfl, hG, hok, hlive, hdr, hdc⟩ := hA
  obtain ⟨ga, gc, gb, go, rfl, hga, hrow⟩ := hG
  have hpos := hg.pos
  obtain rfl := hga (by omega)
  have hle := hg.le
  have hS := St.refl w0
  refine V_enter (N := 38) Try.func25 rfl Try.ntmps25 rfl ?_
  refine VC.sub (τ := [(0, _), (1, _)]) ⟨rfl, rfl, trivial⟩ ?_
  refine VC_seq ?_
  refine VC_region ?_
  refine VL_box rfl rfl rfl rfl rfl hS ?_
  clear hS; intro b2 w hS
  refine VL_val rfl rfl rfl (yd_assign rfl) ?_
  refine VL_nil ?_
  refine VE_then ?_
  refine VC_seq ?_
  refine VC_seq ?_
  refine VC_region ?_
  refine VL_val rfl rfl rfl (yd_field rfl T.fld33_0) ?_
  refine VL_val rfl rfl rfl (yd_load rfl T.one22 (blk_cell (hS.get 0 rfl) rfl)) ?_
  refine VL_val rfl rfl rfl (yd_len rfl Try.underlying22) ?_
  refine VL_val rfl rfl rfl (yd_move rfl) ?_
  refine VL_nil ?_
  refine VE_then ?_
  refine VC_block ?_
  refine VC_loop1 [1, 2, 10, 11] [_, _, _, _] rfl (fun (x : Nat) => [(12, .int .i64 ((x : Nat) : Int))]) (fun (x : Nat) w => x ≤ G.length ∧ (∀ a, a < x → ¬ (Ed G a h ∧ Dm G h a)) ∧ St w0 M0 [blk b2 33 [.slice (some ⟨gb, go, none⟩) G.length gc, s.live G, s.dom G]] w) (fun (x : Nat) => G.length - x) 0 ⟨rfl, trivial⟩ (⟨Nat.zero_le _, fun a h => absurd h (Nat.not_lt_zero _), hS⟩) ?_
  clear hS; rintro x w ⟨hx, hno, hS⟩
  refine VC_seq ?_
  refine VC_region ?_
  refine VL_val rfl rfl rfl (yd_lss rfl rfl) ?_
  refine VL_nil ?_
  refine VE_then ?_
  refine VC_seq ?_
  refine VC_cond rfl (fun h13 => ?_) (fun h13 => ?_)
  · replace h13 := of_decide_eq_true h13
    refine VC_skip ?_
    refine VE_then ?_
    refine VC_seq ?_
    refine VC_block ?_
    refine VC_seq ?_
    refine VC_region ?_
    have hxl : x < G.length := by omega
    obtain ⟨ra, rc, rb, ro, hc, hra, hcs⟩ := hrow x hxl
    have hr4 := hg.row x hxl
    refine VL_val rfl rfl rfl (yd_move rfl) ?_
    refine VL_val rfl rfl rfl (yd_index1 rfl rfl Try.underlying22 T.sz24 (by omega)) ?_
    refine VL_val rfl rfl rfl (yd_load rfl T.one24 (hS.cell0 hc)) ?_
    refine VL_val rfl rfl rfl (yd_assign rfl) ?_
    refine VL_val rfl rfl rfl (yd_assign rfl) ?_
    refine VL_nil ?_
    refine VE_then ?_
    refine VC_seq ?_
    refine VC_region ?_
    refine VL_val rfl rfl rfl (yd_move rfl) ?_
    refine VL_val rfl rfl rfl (yd_len rfl Try.underlying24) ?_
    refine VL_val rfl rfl rfl (yd_move rfl) ?_
    refine VL_nil ?_
    refine VE_then ?_
    refine VC_block ?_
    refine VC_loop1 [1, 2, 5, 6, 10, 11, 12, 13, 14, 15, 16, 17, 18] [_, _, _, _, _, _, _, _, _, _, _, _, _] rfl (fun (j : Nat) => [(19, .int .i64 ((j : Nat) : Int))]) (fun (j : Nat) w => j ≤ G[x]!.length ∧ (∀ i, i < j → ¬ (G[x]![i]! = h ∧ Dm G h x)) ∧ St w0 M0 [blk b2 33 [.slice (some ⟨gb, go, none⟩) G.length gc, s.live G, s.dom G]] w) (fun (j : Nat) => G[x]!.length - j) 0 ⟨rfl, trivial⟩ (⟨Nat.zero_le _, fun a h => absurd h (Nat.not_lt_zero _), hS⟩) ?_
    clear hS; rintro j w ⟨hj, hnj, hS⟩
    refine VC_seq ?_
    refine VC_region ?_
    refine VL_val rfl rfl rfl (yd_lss rfl rfl) ?_
    refine VL_nil ?_
    refine VE_then ?_
    refine VC_seq ?_
    refine VC_cond rfl (fun h20 => ?_) (fun h20 => ?_)
    · replace h20 := of_decide_eq_true h20
      refine VC_skip ?_
      refine VE_then ?_
      refine VC_seq ?_
      refine VC_block ?_
      refine VC_seq ?_
      refine VC_region ?_
      obtain rfl := hra (by omega)
      refine VL_val rfl rfl rfl (yd_index1 rfl rfl Try.underlying24 T.sz3 (by omega)) ?_
      refine VL_val rfl rfl rfl (yd_load rfl T.one3 (hS.cell0 (hcs j (by omega)))) ?_
      refine VL_val rfl rfl rfl (yd_assign rfl) ?_
      refine VL_nil ?_
      refine VE_then ?_
      refine VC_seq ?_
      refine VC_region ?_
      refine VL_val rfl rfl rfl (yd_move rfl) ?_
      refine VL_val rfl rfl rfl (yd_move rfl) ?_
      refine VL_val rfl rfl rfl (yd_eql rfl rfl) ?_
      refine VL_val rfl rfl rfl (yd_move rfl) ?_
      refine VL_split 26 rfl (fun h26 => ?_) (fun h26 => ?_)
      · replace h26 := of_decide_eq_true h26
        have hjh : G[x]![j]! = h := by omega
        refine VL_yes rfl rfl rfl rfl ?_
        refine VL_val rfl rfl rfl (yd_field rfl T.fld33_2) ?_
        refine VL_yes rfl rfl rfl rfl ?_
        refine VL_val rfl rfl rfl (yd_load rfl T.one31 (blk_cell (hS.get 0 rfl) rfl)) ?_
        refine VL_yes rfl rfl rfl rfl ?_
        refine VL_val rfl rfl rfl (yd_move rfl) ?_
        refine VL_yes rfl rfl rfl rfl ?_
        refine VL_val rfl rfl rfl (yd_index0 rfl rfl Try.underlying31 T.sz28 (by omega)) ?_
        refine VL_yes rfl rfl rfl rfl ?_
        refine VL_val rfl rfl rfl (yd_load rfl T.one28 (hS.cell0 (hdr h hh))) ?_
        refine VL_yes rfl rfl rfl rfl ?_
        refine VL_val rfl rfl rfl (yd_move rfl) ?_
        refine VL_yes rfl rfl rfl rfl ?_
        refine VL_val rfl rfl rfl (yd_index0 rfl rfl Try.underlying28 T.sz4 (by omega)) ?_
        refine VL_yes rfl rfl rfl rfl ?_
        refine VL_val rfl rfl rfl (yd_load rfl T.one4 (hS.cell0 (hdc h x hh hxl))) ?_
        refine VL_val rfl rfl rfl (yd_pick_t rfl rfl) ?_
        refine VL_nil ?_
        refine VE_then ?_
        refine VC_cond rfl (fun h35 => ?_) (fun h35 => ?_)
        · skip
          have hdx := (hok.dm h x).1 h35
          refine VC_seq ?_
          refine VC_region ?_
          refine VL_val rfl rfl rfl (yd_assign rfl) ?_
          refine VL_nil ?_
          refine VE_then ?_
          refine VC_ret ?_
          refine VE_block_ret (VE_then_ret (VE_then_ret (VE_block_ret (VE_block_ret (VE_then_ret (VE_then_ret (VE_block_ret (VE_then_ret (?_)))))))))
          refine VE_ret1 (rfl) rfl ?_
          exact ⟨_, rfl, ⟨fun _ => ⟨x, by rw [← hjh]; exact Ed.get hxl (by omega), hdx⟩, fun _ => rfl⟩, hS.sub (List.nil_sublist _)⟩
        · skip
          have hnn : ¬ (G[x]![j]! = h ∧ Dm G h x) := fun e => by have := (hok.dm h x).2 e.2; rw [h35] at this; cases this
          refine VC_skip ?_
          refine VE_block_normal ?_
          refine VE_then ?_
          refine VC_region ?_
          refine VL_val rfl rfl rfl (yd_add rfl rfl ((j + 1 : Nat) : Int) (by rw [wi64 (by omega) (by omega)]; omega)) ?_
          refine VL_val rfl rfl rfl (yd_move rfl) ?_
          refine VL_nil ?_
          exact VE_round1 (j + 1) ⟨rfl, rfl, rfl, rfl, rfl, rfl, rfl, rfl, rfl, rfl, rfl, rfl, rfl, rfl, trivial⟩ ⟨by omega, all_succ hnj hnn, hS⟩ (by omega)
      · replace h26 := of_decide_eq_false h26
        have hnn : ¬ (G[x]![j]! = h ∧ Dm G h x) := fun e => h26 (by omega)
        refine VL_no rfl rfl rfl rfl rfl rfl rfl ?_
        refine VL_no rfl rfl rfl rfl rfl rfl rfl ?_
        refine VL_no rfl rfl rfl rfl rfl rfl rfl ?_
        refine VL_no rfl rfl rfl rfl rfl rfl rfl ?_
        refine VL_no rfl rfl rfl rfl rfl rfl rfl ?_
        refine VL_no rfl rfl rfl rfl rfl rfl rfl ?_
        refine VL_no rfl rfl rfl rfl rfl rfl rfl ?_
        refine VL_no rfl rfl rfl rfl rfl rfl rfl ?_
        refine VL_val rfl rfl rfl (yd_pick_f rfl rfl) ?_
        refine VL_nil ?_
        refine VE_then ?_
        refine VC_cond_f rfl ?_
        refine VC_skip ?_
        refine VE_block_normal ?_
        refine VE_then ?_
        refine VC_region ?_
        refine VL_val rfl rfl rfl (yd_add rfl rfl ((j + 1 : Nat) : Int) (by rw [wi64 (by omega) (by omega)]; omega)) ?_
        refine VL_val rfl rfl rfl (yd_move rfl) ?_
        refine VL_nil ?_
        exact VE_round1 (j + 1) ⟨rfl, rfl, rfl, rfl, rfl, rfl, rfl, rfl, rfl, rfl, rfl, rfl, rfl, rfl, trivial⟩ ⟨by omega, all_succ hnj hnn, hS⟩ (by omega)
    · replace h20 := Int.not_lt.1 (of_decide_eq_false h20)
      refine VC_exit ?_
      refine VE_then_exit (VE_then_exit (VE_block_exit ?_))
      refine VE_block_normal ?_
      refine VE_then ?_
      refine VC_region ?_
      refine VL_val rfl rfl rfl (yd_add rfl rfl ((x + 1 : Nat) : Int) (by rw [wi64 (by omega) (by omega)]; omega)) ?_
      refine VL_val rfl rfl rfl (yd_move rfl) ?_
      refine VL_nil ?_
      exact VE_round1 (x + 1) ⟨rfl, rfl, rfl, rfl, rfl, trivial⟩ ⟨by omega, all_succ hno (fun ⟨e, d⟩ => by obtain ⟨i, hi, e2⟩ := e.idx; exact hnj i (by omega) ⟨e2, d⟩), hS⟩ (by omega)
  · replace h13 := Int.not_lt.1 (of_decide_eq_false h13)
    refine VC_exit ?_
    refine VE_then_exit (VE_then_exit (VE_block_exit ?_))
    refine VE_then ?_
    refine VC_seq ?_
    refine VC_region ?_
    refine VL_val rfl rfl rfl (yd_assign rfl) ?_
    refine VL_nil ?_
    refine VE_then ?_
    refine VC_ret ?_
    refine VE_ret1 (rfl) rfl ?_
    exact ⟨_, rfl, ⟨fun e => (by cases e), fun ⟨a, e, d⟩ => absurd ⟨e, d⟩ (hno a (by have := e.1; omega))⟩, hS.sub (List.nil_sublist _)⟩

end Go.Proofs.Ytmoooaaiohplhaa
