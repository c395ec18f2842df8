/- Loops and cuts over several ghosts; typed rows; appends. -/
import Derived.Test.YtmoooaaiohplhacVc
namespace Go.V
open Go

/-- The slots that are listed. -/
def keepS (ks : List Nat) (σ : List (Nat × Value)) : List (Nat × Value) :=
  match ks with
  | [] => []
  | k :: r => match lk σ k with
    | some v => (k, v) :: keepS r σ
    | none => keepS r σ
theorem keepS_sub : ∀ (ks : List Nat) (σ : List (Nat × Value)), Sub σ (keepS ks σ)
  | [], _ => trivial
  | k :: r, σ => by
    unfold keepS
    split
    · rename_i v hv; exact ⟨hv, keepS_sub r σ⟩
    · exact keepS_sub r σ
theorem Sub.app {σ τ υ : List (Nat × Value)} (h1 : Sub σ τ) (h2 : Sub σ υ) : Sub σ (τ ++ υ) := by
  induction τ with
  | nil => exact h2
  | cons x τ ih => exact ⟨h1.1, ih h1.2⟩
theorem Fr.app {a : Act} {n : Nat} {ds : List Deferred} {σ τ υ : List (Nat × Value)} (h : Fr a n ds σ) (h1 : Sub σ τ) (h2 : Sub σ υ) : Fr a n ds (τ ++ υ) := h.sub (h1.app h2)
theorem lk_isSome_subs : ∀ (τ : List (Nat × Value)) (σ : List (Nat × Value)), (∀ k v, lk τ k = some v → lk σ k = some v) → ∀ a n ds, Fr a n ds σ → Fr a n ds τ :=
  fun _ _ h _ _ _ hF => ⟨hF.size, hF.defers, fun k v hk => hF.slot k v (h k v hk)⟩

section
variable {P : Program} {ops : Array Oper} {Q : Exit → Act → World → Prop} {l rest : List Oper} {n : Nat} {ds : List Deferred} {σ τ : List (Nat × Value)} {w w' w0 : World} {o : Oper} {M : Nat → Prop} {η : List Res}

theorem VC_cond_t {c : Operand} {x y : Code} (hc : ev σ c = some (.bool true)) (h : VC P x Q n ds σ w) : VC P (.cond c x y) Q n ds σ w := VC_cond hc (fun _ => h) (fun e => nomatch e)
theorem VC_cond_f {c : Operand} {x y : Code} (hc : ev σ c = some (.bool false)) (h : VC P y Q n ds σ w) : VC P (.cond c x y) Q n ds σ w := VC_cond hc (fun e => nomatch e) (fun _ => h)
theorem VC_cond_t' {c : Operand} {x y : Code} {t : Bool} (hc : ev σ c = some (.bool t)) (ht : t = true) (h : VC P x Q n ds σ w) : VC P (.cond c x y) Q n ds σ w := VC_cond hc (fun _ => h) (fun e => by rw [ht] at e; cases e)
theorem VC_cond_f' {c : Operand} {x y : Code} {t : Bool} (hc : ev σ c = some (.bool t)) (ht : t = false) (h : VC P y Q n ds σ w) : VC P (.cond c x y) Q n ds σ w := VC_cond hc (fun e => by rw [ht] at e; cases e) (fun _ => h)


theorem VC_loop1 {γ1 : Type} {c : Code} (ks : List Nat) (σk : List (Nat × Value)) (hk : keepS ks σ = σk) (ch : γ1 → List (Nat × Value)) (WI : γ1 → World → Prop) (μ : γ1 → Nat) (x1 : γ1) (hs : Sub σ (ch x1)) (hw : WI x1 w)
    (round : ∀ x1 w, WI x1 w → VC P c (Exit.then (fun a' w' => ∃ x1', Fr a' n ds (ch x1' ++ σk) ∧ WI x1' w' ∧ μ x1' < μ x1) Q) n ds (ch x1 ++ σk) w) :
    VC P (.loop c) Q n ds σ w := by
  intro a ha
  have hF : Fr a n ds (ch x1 ++ σk) := ha.app hs (by rw [← hk]; exact keepS_sub ks σ)
  refine VC_loop (γ := γ1) (fun p => ch (p) ++ σk) (fun p w => WI (p) w) (fun p => μ (p)) x1 (fun _ h => h) hw (fun p w h => ?_) a hF
  intro a ha
  refine wp_mono (round (p) w h a ha) ?_
  intro e a w hq
  cases e with
  | normal => obtain ⟨x1', h1, h2, h3⟩ := hq; exact ⟨x1', h1, h2, h3⟩
  | _ => exact hq
theorem VE_round1 {γ1 : Type} {σk : List (Nat × Value)} {ch : γ1 → List (Nat × Value)} {WI : γ1 → World → Prop} {μ : γ1 → Nat} {m : Nat} (x1 : γ1) (hs : Sub σ (ch x1 ++ σk)) (hw : WI x1 w) (hμ : μ x1 < m) :
    VE (Exit.then (fun a' w' => ∃ x1', Fr a' n ds (ch x1' ++ σk) ∧ WI x1' w' ∧ μ x1' < m) Q) .normal n ds σ w :=
  fun _ ha => ⟨x1, ha.sub hs, hw, hμ⟩
theorem VC_cut1 {γ1 : Type} {x y : Code} (ks : List Nat) (σk : List (Nat × Value)) (_hk : keepS ks σ = σk) (ch : γ1 → List (Nat × Value)) (WI : γ1 → World → Prop)
    (h : VC P x (Exit.then (fun a' w' => ∃ x1', Fr a' n ds (ch x1' ++ σk) ∧ WI x1' w') Q) n ds σ w) (hy : ∀ x1 w, WI x1 w → VC P y Q n ds (ch x1 ++ σk) w) : VC P (.seq x y) Q n ds σ w := by
  intro a ha
  refine wp_seq (wp_mono (h a ha) ?_)
  intro e a w hq
  cases e with
  | normal => obtain ⟨x1, hF, hW⟩ := hq; exact hy x1 w hW a hF
  | _ => exact hq
theorem VE_cut1 {γ1 : Type} {σk : List (Nat × Value)} {ch : γ1 → List (Nat × Value)} {WI : γ1 → World → Prop} (x1 : γ1) (hs : Sub σ (ch x1 ++ σk)) (hw : WI x1 w) :
    VE (Exit.then (fun a' w' => ∃ x1', Fr a' n ds (ch x1' ++ σk) ∧ WI x1' w') Q) .normal n ds σ w := fun _ ha => ⟨x1, ha.sub hs, hw⟩

theorem VC_loop2 {γ1 γ2 : Type} {c : Code} (ks : List Nat) (σk : List (Nat × Value)) (hk : keepS ks σ = σk) (ch : γ1 → γ2 → List (Nat × Value)) (WI : γ1 → γ2 → World → Prop) (μ : γ1 → γ2 → Nat) (x1 : γ1) (x2 : γ2) (hs : Sub σ (ch x1 x2)) (hw : WI x1 x2 w)
    (round : ∀ x1 x2 w, WI x1 x2 w → VC P c (Exit.then (fun a' w' => ∃ x1' x2', Fr a' n ds (ch x1' x2' ++ σk) ∧ WI x1' x2' w' ∧ μ x1' x2' < μ x1 x2) Q) n ds (ch x1 x2 ++ σk) w) :
    VC P (.loop c) Q n ds σ w := by
  intro a ha
  have hF : Fr a n ds (ch x1 x2 ++ σk) := ha.app hs (by rw [← hk]; exact keepS_sub ks σ)
  refine VC_loop (γ := γ1 × γ2) (fun p => ch (p.1) (p.2) ++ σk) (fun p w => WI (p.1) (p.2) w) (fun p => μ (p.1) (p.2)) (x1, x2) (fun _ h => h) hw (fun p w h => ?_) a hF
  intro a ha
  refine wp_mono (round (p.1) (p.2) w h a ha) ?_
  intro e a w hq
  cases e with
  | normal => obtain ⟨x1', x2', h1, h2, h3⟩ := hq; exact ⟨(x1', x2'), h1, h2, h3⟩
  | _ => exact hq
theorem VE_round2 {γ1 γ2 : Type} {σk : List (Nat × Value)} {ch : γ1 → γ2 → List (Nat × Value)} {WI : γ1 → γ2 → World → Prop} {μ : γ1 → γ2 → Nat} {m : Nat} (x1 : γ1) (x2 : γ2) (hs : Sub σ (ch x1 x2 ++ σk)) (hw : WI x1 x2 w) (hμ : μ x1 x2 < m) :
    VE (Exit.then (fun a' w' => ∃ x1' x2', Fr a' n ds (ch x1' x2' ++ σk) ∧ WI x1' x2' w' ∧ μ x1' x2' < m) Q) .normal n ds σ w :=
  fun _ ha => ⟨x1, x2, ha.sub hs, hw, hμ⟩
theorem VC_cut2 {γ1 γ2 : Type} {x y : Code} (ks : List Nat) (σk : List (Nat × Value)) (_hk : keepS ks σ = σk) (ch : γ1 → γ2 → List (Nat × Value)) (WI : γ1 → γ2 → World → Prop)
    (h : VC P x (Exit.then (fun a' w' => ∃ x1' x2', Fr a' n ds (ch x1' x2' ++ σk) ∧ WI x1' x2' w') Q) n ds σ w) (hy : ∀ x1 x2 w, WI x1 x2 w → VC P y Q n ds (ch x1 x2 ++ σk) w) : VC P (.seq x y) Q n ds σ w := by
  intro a ha
  refine wp_seq (wp_mono (h a ha) ?_)
  intro e a w hq
  cases e with
  | normal => obtain ⟨x1, x2, hF, hW⟩ := hq; exact hy x1 x2 w hW a hF
  | _ => exact hq
theorem VE_cut2 {γ1 γ2 : Type} {σk : List (Nat × Value)} {ch : γ1 → γ2 → List (Nat × Value)} {WI : γ1 → γ2 → World → Prop} (x1 : γ1) (x2 : γ2) (hs : Sub σ (ch x1 x2 ++ σk)) (hw : WI x1 x2 w) :
    VE (Exit.then (fun a' w' => ∃ x1' x2', Fr a' n ds (ch x1' x2' ++ σk) ∧ WI x1' x2' w') Q) .normal n ds σ w := fun _ ha => ⟨x1, x2, ha.sub hs, hw⟩

theorem VC_loop3 {γ1 γ2 γ3 : Type} {c : Code} (ks : List Nat) (σk : List (Nat × Value)) (hk : keepS ks σ = σk) (ch : γ1 → γ2 → γ3 → List (Nat × Value)) (WI : γ1 → γ2 → γ3 → World → Prop) (μ : γ1 → γ2 → γ3 → Nat) (x1 : γ1) (x2 : γ2) (x3 : γ3) (hs : Sub σ (ch x1 x2 x3)) (hw : WI x1 x2 x3 w)
    (round : ∀ x1 x2 x3 w, WI x1 x2 x3 w → VC P c (Exit.then (fun a' w' => ∃ x1' x2' x3', Fr a' n ds (ch x1' x2' x3' ++ σk) ∧ WI x1' x2' x3' w' ∧ μ x1' x2' x3' < μ x1 x2 x3) Q) n ds (ch x1 x2 x3 ++ σk) w) :
    VC P (.loop c) Q n ds σ w := by
  intro a ha
  have hF : Fr a n ds (ch x1 x2 x3 ++ σk) := ha.app hs (by rw [← hk]; exact keepS_sub ks σ)
  refine VC_loop (γ := γ1 × γ2 × γ3) (fun p => ch (p.1) (p.2.1) (p.2.2) ++ σk) (fun p w => WI (p.1) (p.2.1) (p.2.2) w) (fun p => μ (p.1) (p.2.1) (p.2.2)) (x1, x2, x3) (fun _ h => h) hw (fun p w h => ?_) a hF
  intro a ha
  refine wp_mono (round (p.1) (p.2.1) (p.2.2) w h a ha) ?_
  intro e a w hq
  cases e with
  | normal => obtain ⟨x1', x2', x3', h1, h2, h3⟩ := hq; exact ⟨(x1', x2', x3'), h1, h2, h3⟩
  | _ => exact hq
theorem VE_round3 {γ1 γ2 γ3 : Type} {σk : List (Nat × Value)} {ch : γ1 → γ2 → γ3 → List (Nat × Value)} {WI : γ1 → γ2 → γ3 → World → Prop} {μ : γ1 → γ2 → γ3 → Nat} {m : Nat} (x1 : γ1) (x2 : γ2) (x3 : γ3) (hs : Sub σ (ch x1 x2 x3 ++ σk)) (hw : WI x1 x2 x3 w) (hμ : μ x1 x2 x3 < m) :
    VE (Exit.then (fun a' w' => ∃ x1' x2' x3', Fr a' n ds (ch x1' x2' x3' ++ σk) ∧ WI x1' x2' x3' w' ∧ μ x1' x2' x3' < m) Q) .normal n ds σ w :=
  fun _ ha => ⟨x1, x2, x3, ha.sub hs, hw, hμ⟩
theorem VC_cut3 {γ1 γ2 γ3 : Type} {x y : Code} (ks : List Nat) (σk : List (Nat × Value)) (_hk : keepS ks σ = σk) (ch : γ1 → γ2 → γ3 → List (Nat × Value)) (WI : γ1 → γ2 → γ3 → World → Prop)
    (h : VC P x (Exit.then (fun a' w' => ∃ x1' x2' x3', Fr a' n ds (ch x1' x2' x3' ++ σk) ∧ WI x1' x2' x3' w') Q) n ds σ w) (hy : ∀ x1 x2 x3 w, WI x1 x2 x3 w → VC P y Q n ds (ch x1 x2 x3 ++ σk) w) : VC P (.seq x y) Q n ds σ w := by
  intro a ha
  refine wp_seq (wp_mono (h a ha) ?_)
  intro e a w hq
  cases e with
  | normal => obtain ⟨x1, x2, x3, hF, hW⟩ := hq; exact hy x1 x2 x3 w hW a hF
  | _ => exact hq
theorem VE_cut3 {γ1 γ2 γ3 : Type} {σk : List (Nat × Value)} {ch : γ1 → γ2 → γ3 → List (Nat × Value)} {WI : γ1 → γ2 → γ3 → World → Prop} (x1 : γ1) (x2 : γ2) (x3 : γ3) (hs : Sub σ (ch x1 x2 x3 ++ σk)) (hw : WI x1 x2 x3 w) :
    VE (Exit.then (fun a' w' => ∃ x1' x2' x3', Fr a' n ds (ch x1' x2' x3' ++ σk) ∧ WI x1' x2' x3' w') Q) .normal n ds σ w := fun _ ha => ⟨x1, x2, x3, ha.sub hs, hw⟩

theorem VC_loop4 {γ1 γ2 γ3 γ4 : Type} {c : Code} (ks : List Nat) (σk : List (Nat × Value)) (hk : keepS ks σ = σk) (ch : γ1 → γ2 → γ3 → γ4 → List (Nat × Value)) (WI : γ1 → γ2 → γ3 → γ4 → World → Prop) (μ : γ1 → γ2 → γ3 → γ4 → Nat) (x1 : γ1) (x2 : γ2) (x3 : γ3) (x4 : γ4) (hs : Sub σ (ch x1 x2 x3 x4)) (hw : WI x1 x2 x3 x4 w)
    (round : ∀ x1 x2 x3 x4 w, WI x1 x2 x3 x4 w → VC P c (Exit.then (fun a' w' => ∃ x1' x2' x3' x4', Fr a' n ds (ch x1' x2' x3' x4' ++ σk) ∧ WI x1' x2' x3' x4' w' ∧ μ x1' x2' x3' x4' < μ x1 x2 x3 x4) Q) n ds (ch x1 x2 x3 x4 ++ σk) w) :
    VC P (.loop c) Q n ds σ w := by
  intro a ha
  have hF : Fr a n ds (ch x1 x2 x3 x4 ++ σk) := ha.app hs (by rw [← hk]; exact keepS_sub ks σ)
  refine VC_loop (γ := γ1 × γ2 × γ3 × γ4) (fun p => ch (p.1) (p.2.1) (p.2.2.1) (p.2.2.2) ++ σk) (fun p w => WI (p.1) (p.2.1) (p.2.2.1) (p.2.2.2) w) (fun p => μ (p.1) (p.2.1) (p.2.2.1) (p.2.2.2)) (x1, x2, x3, x4) (fun _ h => h) hw (fun p w h => ?_) a hF
  intro a ha
  refine wp_mono (round (p.1) (p.2.1) (p.2.2.1) (p.2.2.2) w h a ha) ?_
  intro e a w hq
  cases e with
  | normal => obtain ⟨x1', x2', x3', x4', h1, h2, h3⟩ := hq; exact ⟨(x1', x2', x3', x4'), h1, h2, h3⟩
  | _ => exact hq
theorem VE_round4 {γ1 γ2 γ3 γ4 : Type} {σk : List (Nat × Value)} {ch : γ1 → γ2 → γ3 → γ4 → List (Nat × Value)} {WI : γ1 → γ2 → γ3 → γ4 → World → Prop} {μ : γ1 → γ2 → γ3 → γ4 → Nat} {m : Nat} (x1 : γ1) (x2 : γ2) (x3 : γ3) (x4 : γ4) (hs : Sub σ (ch x1 x2 x3 x4 ++ σk)) (hw : WI x1 x2 x3 x4 w) (hμ : μ x1 x2 x3 x4 < m) :
    VE (Exit.then (fun a' w' => ∃ x1' x2' x3' x4', Fr a' n ds (ch x1' x2' x3' x4' ++ σk) ∧ WI x1' x2' x3' x4' w' ∧ μ x1' x2' x3' x4' < m) Q) .normal n ds σ w :=
  fun _ ha => ⟨x1, x2, x3, x4, ha.sub hs, hw, hμ⟩
theorem VC_cut4 {γ1 γ2 γ3 γ4 : Type} {x y : Code} (ks : List Nat) (σk : List (Nat × Value)) (_hk : keepS ks σ = σk) (ch : γ1 → γ2 → γ3 → γ4 → List (Nat × Value)) (WI : γ1 → γ2 → γ3 → γ4 → World → Prop)
    (h : VC P x (Exit.then (fun a' w' => ∃ x1' x2' x3' x4', Fr a' n ds (ch x1' x2' x3' x4' ++ σk) ∧ WI x1' x2' x3' x4' w') Q) n ds σ w) (hy : ∀ x1 x2 x3 x4 w, WI x1 x2 x3 x4 w → VC P y Q n ds (ch x1 x2 x3 x4 ++ σk) w) : VC P (.seq x y) Q n ds σ w := by
  intro a ha
  refine wp_seq (wp_mono (h a ha) ?_)
  intro e a w hq
  cases e with
  | normal => obtain ⟨x1, x2, x3, x4, hF, hW⟩ := hq; exact hy x1 x2 x3 x4 w hW a hF
  | _ => exact hq
theorem VE_cut4 {γ1 γ2 γ3 γ4 : Type} {σk : List (Nat × Value)} {ch : γ1 → γ2 → γ3 → γ4 → List (Nat × Value)} {WI : γ1 → γ2 → γ3 → γ4 → World → Prop} (x1 : γ1) (x2 : γ2) (x3 : γ3) (x4 : γ4) (hs : Sub σ (ch x1 x2 x3 x4 ++ σk)) (hw : WI x1 x2 x3 x4 w) :
    VE (Exit.then (fun a' w' => ∃ x1' x2' x3' x4', Fr a' n ds (ch x1' x2' x3' x4' ++ σk) ∧ WI x1' x2' x3' x4' w') Q) .normal n ds σ w := fun _ ha => ⟨x1, x2, x3, x4, ha.sub hs, hw⟩

theorem VC_loop5 {γ1 γ2 γ3 γ4 γ5 : Type} {c : Code} (ks : List Nat) (σk : List (Nat × Value)) (hk : keepS ks σ = σk) (ch : γ1 → γ2 → γ3 → γ4 → γ5 → List (Nat × Value)) (WI : γ1 → γ2 → γ3 → γ4 → γ5 → World → Prop) (μ : γ1 → γ2 → γ3 → γ4 → γ5 → Nat) (x1 : γ1) (x2 : γ2) (x3 : γ3) (x4 : γ4) (x5 : γ5) (hs : Sub σ (ch x1 x2 x3 x4 x5)) (hw : WI x1 x2 x3 x4 x5 w)
    (round : ∀ x1 x2 x3 x4 x5 w, WI x1 x2 x3 x4 x5 w → VC P c (Exit.then (fun a' w' => ∃ x1' x2' x3' x4' x5', Fr a' n ds (ch x1' x2' x3' x4' x5' ++ σk) ∧ WI x1' x2' x3' x4' x5' w' ∧ μ x1' x2' x3' x4' x5' < μ x1 x2 x3 x4 x5) Q) n ds (ch x1 x2 x3 x4 x5 ++ σk) w) :
    VC P (.loop c) Q n ds σ w := by
  intro a ha
  have hF : Fr a n ds (ch x1 x2 x3 x4 x5 ++ σk) := ha.app hs (by rw [← hk]; exact keepS_sub ks σ)
  refine VC_loop (γ := γ1 × γ2 × γ3 × γ4 × γ5) (fun p => ch (p.1) (p.2.1) (p.2.2.1) (p.2.2.2.1) (p.2.2.2.2) ++ σk) (fun p w => WI (p.1) (p.2.1) (p.2.2.1) (p.2.2.2.1) (p.2.2.2.2) w) (fun p => μ (p.1) (p.2.1) (p.2.2.1) (p.2.2.2.1) (p.2.2.2.2)) (x1, x2, x3, x4, x5) (fun _ h => h) hw (fun p w h => ?_) a hF
  intro a ha
  refine wp_mono (round (p.1) (p.2.1) (p.2.2.1) (p.2.2.2.1) (p.2.2.2.2) w h a ha) ?_
  intro e a w hq
  cases e with
  | normal => obtain ⟨x1', x2', x3', x4', x5', h1, h2, h3⟩ := hq; exact ⟨(x1', x2', x3', x4', x5'), h1, h2, h3⟩
  | _ => exact hq
theorem VE_round5 {γ1 γ2 γ3 γ4 γ5 : Type} {σk : List (Nat × Value)} {ch : γ1 → γ2 → γ3 → γ4 → γ5 → List (Nat × Value)} {WI : γ1 → γ2 → γ3 → γ4 → γ5 → World → Prop} {μ : γ1 → γ2 → γ3 → γ4 → γ5 → Nat} {m : Nat} (x1 : γ1) (x2 : γ2) (x3 : γ3) (x4 : γ4) (x5 : γ5) (hs : Sub σ (ch x1 x2 x3 x4 x5 ++ σk)) (hw : WI x1 x2 x3 x4 x5 w) (hμ : μ x1 x2 x3 x4 x5 < m) :
    VE (Exit.then (fun a' w' => ∃ x1' x2' x3' x4' x5', Fr a' n ds (ch x1' x2' x3' x4' x5' ++ σk) ∧ WI x1' x2' x3' x4' x5' w' ∧ μ x1' x2' x3' x4' x5' < m) Q) .normal n ds σ w :=
  fun _ ha => ⟨x1, x2, x3, x4, x5, ha.sub hs, hw, hμ⟩
theorem VC_cut5 {γ1 γ2 γ3 γ4 γ5 : Type} {x y : Code} (ks : List Nat) (σk : List (Nat × Value)) (_hk : keepS ks σ = σk) (ch : γ1 → γ2 → γ3 → γ4 → γ5 → List (Nat × Value)) (WI : γ1 → γ2 → γ3 → γ4 → γ5 → World → Prop)
    (h : VC P x (Exit.then (fun a' w' => ∃ x1' x2' x3' x4' x5', Fr a' n ds (ch x1' x2' x3' x4' x5' ++ σk) ∧ WI x1' x2' x3' x4' x5' w') Q) n ds σ w) (hy : ∀ x1 x2 x3 x4 x5 w, WI x1 x2 x3 x4 x5 w → VC P y Q n ds (ch x1 x2 x3 x4 x5 ++ σk) w) : VC P (.seq x y) Q n ds σ w := by
  intro a ha
  refine wp_seq (wp_mono (h a ha) ?_)
  intro e a w hq
  cases e with
  | normal => obtain ⟨x1, x2, x3, x4, x5, hF, hW⟩ := hq; exact hy x1 x2 x3 x4 x5 w hW a hF
  | _ => exact hq
theorem VE_cut5 {γ1 γ2 γ3 γ4 γ5 : Type} {σk : List (Nat × Value)} {ch : γ1 → γ2 → γ3 → γ4 → γ5 → List (Nat × Value)} {WI : γ1 → γ2 → γ3 → γ4 → γ5 → World → Prop} (x1 : γ1) (x2 : γ2) (x3 : γ3) (x4 : γ4) (x5 : γ5) (hs : Sub σ (ch x1 x2 x3 x4 x5 ++ σk)) (hw : WI x1 x2 x3 x4 x5 w) :
    VE (Exit.then (fun a' w' => ∃ x1' x2' x3' x4' x5', Fr a' n ds (ch x1' x2' x3' x4' x5' ++ σk) ∧ WI x1' x2' x3' x4' x5' w') Q) .normal n ds σ w := fun _ ha => ⟨x1, x2, x3, x4, x5, ha.sub hs, hw⟩


theorem VC_loop6 {γ1 γ2 γ3 γ4 γ5 γ6 : Type} {c : Code} (ks : List Nat) (σk : List (Nat × Value)) (hk : keepS ks σ = σk) (ch : γ1 → γ2 → γ3 → γ4 → γ5 → γ6 → List (Nat × Value)) (WI : γ1 → γ2 → γ3 → γ4 → γ5 → γ6 → World → Prop) (μ : γ1 → γ2 → γ3 → γ4 → γ5 → γ6 → Nat) (x1 : γ1) (x2 : γ2) (x3 : γ3) (x4 : γ4) (x5 : γ5) (x6 : γ6) (hs : Sub σ (ch x1 x2 x3 x4 x5 x6)) (hw : WI x1 x2 x3 x4 x5 x6 w)
    (round : ∀ x1 x2 x3 x4 x5 x6 w, WI x1 x2 x3 x4 x5 x6 w → VC P c (Exit.then (fun a' w' => ∃ x1' x2' x3' x4' x5' x6', Fr a' n ds (ch x1' x2' x3' x4' x5' x6' ++ σk) ∧ WI x1' x2' x3' x4' x5' x6' w' ∧ μ x1' x2' x3' x4' x5' x6' < μ x1 x2 x3 x4 x5 x6) Q) n ds (ch x1 x2 x3 x4 x5 x6 ++ σk) w) :
    VC P (.loop c) Q n ds σ w := by
  intro a ha
  have hF : Fr a n ds (ch x1 x2 x3 x4 x5 x6 ++ σk) := ha.app hs (by rw [← hk]; exact keepS_sub ks σ)
  refine VC_loop (γ := γ1 × γ2 × γ3 × γ4 × γ5 × γ6) (fun p => ch (p.1) (p.2.1) (p.2.2.1) (p.2.2.2.1) (p.2.2.2.2.1) (p.2.2.2.2.2) ++ σk) (fun p w => WI (p.1) (p.2.1) (p.2.2.1) (p.2.2.2.1) (p.2.2.2.2.1) (p.2.2.2.2.2) w) (fun p => μ (p.1) (p.2.1) (p.2.2.1) (p.2.2.2.1) (p.2.2.2.2.1) (p.2.2.2.2.2)) (x1, x2, x3, x4, x5, x6) (fun _ h => h) hw (fun p w h => ?_) a hF
  intro a ha
  refine wp_mono (round (p.1) (p.2.1) (p.2.2.1) (p.2.2.2.1) (p.2.2.2.2.1) (p.2.2.2.2.2) w h a ha) ?_
  intro e a w hq
  cases e with
  | normal => obtain ⟨x1', x2', x3', x4', x5', x6', h1, h2, h3⟩ := hq; exact ⟨(x1', x2', x3', x4', x5', x6'), h1, h2, h3⟩
  | _ => exact hq
theorem VE_round6 {γ1 γ2 γ3 γ4 γ5 γ6 : Type} {σk : List (Nat × Value)} {ch : γ1 → γ2 → γ3 → γ4 → γ5 → γ6 → List (Nat × Value)} {WI : γ1 → γ2 → γ3 → γ4 → γ5 → γ6 → World → Prop} {μ : γ1 → γ2 → γ3 → γ4 → γ5 → γ6 → Nat} {m : Nat} (x1 : γ1) (x2 : γ2) (x3 : γ3) (x4 : γ4) (x5 : γ5) (x6 : γ6) (hs : Sub σ (ch x1 x2 x3 x4 x5 x6 ++ σk)) (hw : WI x1 x2 x3 x4 x5 x6 w) (hμ : μ x1 x2 x3 x4 x5 x6 < m) :
    VE (Exit.then (fun a' w' => ∃ x1' x2' x3' x4' x5' x6', Fr a' n ds (ch x1' x2' x3' x4' x5' x6' ++ σk) ∧ WI x1' x2' x3' x4' x5' x6' w' ∧ μ x1' x2' x3' x4' x5' x6' < m) Q) .normal n ds σ w :=
  fun _ ha => ⟨x1, x2, x3, x4, x5, x6, ha.sub hs, hw, hμ⟩
theorem VC_cut6 {γ1 γ2 γ3 γ4 γ5 γ6 : Type} {x y : Code} (ks : List Nat) (σk : List (Nat × Value)) (_hk : keepS ks σ = σk) (ch : γ1 → γ2 → γ3 → γ4 → γ5 → γ6 → List (Nat × Value)) (WI : γ1 → γ2 → γ3 → γ4 → γ5 → γ6 → World → Prop)
    (h : VC P x (Exit.then (fun a' w' => ∃ x1' x2' x3' x4' x5' x6', Fr a' n ds (ch x1' x2' x3' x4' x5' x6' ++ σk) ∧ WI x1' x2' x3' x4' x5' x6' w') Q) n ds σ w) (hy : ∀ x1 x2 x3 x4 x5 x6 w, WI x1 x2 x3 x4 x5 x6 w → VC P y Q n ds (ch x1 x2 x3 x4 x5 x6 ++ σk) w) : VC P (.seq x y) Q n ds σ w := by
  intro a ha
  refine wp_seq (wp_mono (h a ha) ?_)
  intro e a w hq
  cases e with
  | normal => obtain ⟨x1, x2, x3, x4, x5, x6, hF, hW⟩ := hq; exact hy x1 x2 x3 x4 x5 x6 w hW a hF
  | _ => exact hq
theorem VE_cut6 {γ1 γ2 γ3 γ4 γ5 γ6 : Type} {σk : List (Nat × Value)} {ch : γ1 → γ2 → γ3 → γ4 → γ5 → γ6 → List (Nat × Value)} {WI : γ1 → γ2 → γ3 → γ4 → γ5 → γ6 → World → Prop} (x1 : γ1) (x2 : γ2) (x3 : γ3) (x4 : γ4) (x5 : γ5) (x6 : γ6) (hs : Sub σ (ch x1 x2 x3 x4 x5 x6 ++ σk)) (hw : WI x1 x2 x3 x4 x5 x6 w) :
    VE (Exit.then (fun a' w' => ∃ x1' x2' x3' x4' x5' x6', Fr a' n ds (ch x1' x2' x3' x4' x5' x6' ++ σk) ∧ WI x1' x2' x3' x4' x5' x6' w') Q) .normal n ds σ w := fun _ ha => ⟨x1, x2, x3, x4, x5, x6, ha.sub hs, hw⟩

theorem VC_loop7 {γ1 γ2 γ3 γ4 γ5 γ6 γ7 : Type} {c : Code} (ks : List Nat) (σk : List (Nat × Value)) (hk : keepS ks σ = σk) (ch : γ1 → γ2 → γ3 → γ4 → γ5 → γ6 → γ7 → List (Nat × Value)) (WI : γ1 → γ2 → γ3 → γ4 → γ5 → γ6 → γ7 → World → Prop) (μ : γ1 → γ2 → γ3 → γ4 → γ5 → γ6 → γ7 → Nat) (x1 : γ1) (x2 : γ2) (x3 : γ3) (x4 : γ4) (x5 : γ5) (x6 : γ6) (x7 : γ7) (hs : Sub σ (ch x1 x2 x3 x4 x5 x6 x7)) (hw : WI x1 x2 x3 x4 x5 x6 x7 w)
    (round : ∀ x1 x2 x3 x4 x5 x6 x7 w, WI x1 x2 x3 x4 x5 x6 x7 w → VC P c (Exit.then (fun a' w' => ∃ x1' x2' x3' x4' x5' x6' x7', Fr a' n ds (ch x1' x2' x3' x4' x5' x6' x7' ++ σk) ∧ WI x1' x2' x3' x4' x5' x6' x7' w' ∧ μ x1' x2' x3' x4' x5' x6' x7' < μ x1 x2 x3 x4 x5 x6 x7) Q) n ds (ch x1 x2 x3 x4 x5 x6 x7 ++ σk) w) :
    VC P (.loop c) Q n ds σ w := by
  intro a ha
  have hF : Fr a n ds (ch x1 x2 x3 x4 x5 x6 x7 ++ σk) := ha.app hs (by rw [← hk]; exact keepS_sub ks σ)
  refine VC_loop (γ := γ1 × γ2 × γ3 × γ4 × γ5 × γ6 × γ7) (fun p => ch (p.1) (p.2.1) (p.2.2.1) (p.2.2.2.1) (p.2.2.2.2.1) (p.2.2.2.2.2.1) (p.2.2.2.2.2.2) ++ σk) (fun p w => WI (p.1) (p.2.1) (p.2.2.1) (p.2.2.2.1) (p.2.2.2.2.1) (p.2.2.2.2.2.1) (p.2.2.2.2.2.2) w) (fun p => μ (p.1) (p.2.1) (p.2.2.1) (p.2.2.2.1) (p.2.2.2.2.1) (p.2.2.2.2.2.1) (p.2.2.2.2.2.2)) (x1, x2, x3, x4, x5, x6, x7) (fun _ h => h) hw (fun p w h => ?_) a hF
  intro a ha
  refine wp_mono (round (p.1) (p.2.1) (p.2.2.1) (p.2.2.2.1) (p.2.2.2.2.1) (p.2.2.2.2.2.1) (p.2.2.2.2.2.2) w h a ha) ?_
  intro e a w hq
  cases e with
  | normal => obtain ⟨x1', x2', x3', x4', x5', x6', x7', h1, h2, h3⟩ := hq; exact ⟨(x1', x2', x3', x4', x5', x6', x7'), h1, h2, h3⟩
  | _ => exact hq
theorem VE_round7 {γ1 γ2 γ3 γ4 γ5 γ6 γ7 : Type} {σk : List (Nat × Value)} {ch : γ1 → γ2 → γ3 → γ4 → γ5 → γ6 → γ7 → List (Nat × Value)} {WI : γ1 → γ2 → γ3 → γ4 → γ5 → γ6 → γ7 → World → Prop} {μ : γ1 → γ2 → γ3 → γ4 → γ5 → γ6 → γ7 → Nat} {m : Nat} (x1 : γ1) (x2 : γ2) (x3 : γ3) (x4 : γ4) (x5 : γ5) (x6 : γ6) (x7 : γ7) (hs : Sub σ (ch x1 x2 x3 x4 x5 x6 x7 ++ σk)) (hw : WI x1 x2 x3 x4 x5 x6 x7 w) (hμ : μ x1 x2 x3 x4 x5 x6 x7 < m) :
    VE (Exit.then (fun a' w' => ∃ x1' x2' x3' x4' x5' x6' x7', Fr a' n ds (ch x1' x2' x3' x4' x5' x6' x7' ++ σk) ∧ WI x1' x2' x3' x4' x5' x6' x7' w' ∧ μ x1' x2' x3' x4' x5' x6' x7' < m) Q) .normal n ds σ w :=
  fun _ ha => ⟨x1, x2, x3, x4, x5, x6, x7, ha.sub hs, hw, hμ⟩
theorem VC_cut7 {γ1 γ2 γ3 γ4 γ5 γ6 γ7 : Type} {x y : Code} (ks : List Nat) (σk : List (Nat × Value)) (_hk : keepS ks σ = σk) (ch : γ1 → γ2 → γ3 → γ4 → γ5 → γ6 → γ7 → List (Nat × Value)) (WI : γ1 → γ2 → γ3 → γ4 → γ5 → γ6 → γ7 → World → Prop)
    (h : VC P x (Exit.then (fun a' w' => ∃ x1' x2' x3' x4' x5' x6' x7', Fr a' n ds (ch x1' x2' x3' x4' x5' x6' x7' ++ σk) ∧ WI x1' x2' x3' x4' x5' x6' x7' w') Q) n ds σ w) (hy : ∀ x1 x2 x3 x4 x5 x6 x7 w, WI x1 x2 x3 x4 x5 x6 x7 w → VC P y Q n ds (ch x1 x2 x3 x4 x5 x6 x7 ++ σk) w) : VC P (.seq x y) Q n ds σ w := by
  intro a ha
  refine wp_seq (wp_mono (h a ha) ?_)
  intro e a w hq
  cases e with
  | normal => obtain ⟨x1, x2, x3, x4, x5, x6, x7, hF, hW⟩ := hq; exact hy x1 x2 x3 x4 x5 x6 x7 w hW a hF
  | _ => exact hq
theorem VE_cut7 {γ1 γ2 γ3 γ4 γ5 γ6 γ7 : Type} {σk : List (Nat × Value)} {ch : γ1 → γ2 → γ3 → γ4 → γ5 → γ6 → γ7 → List (Nat × Value)} {WI : γ1 → γ2 → γ3 → γ4 → γ5 → γ6 → γ7 → World → Prop} (x1 : γ1) (x2 : γ2) (x3 : γ3) (x4 : γ4) (x5 : γ5) (x6 : γ6) (x7 : γ7) (hs : Sub σ (ch x1 x2 x3 x4 x5 x6 x7 ++ σk)) (hw : WI x1 x2 x3 x4 x5 x6 x7 w) :
    VE (Exit.then (fun a' w' => ∃ x1' x2' x3' x4' x5' x6' x7', Fr a' n ds (ch x1' x2' x3' x4' x5' x6' x7' ++ σk) ∧ WI x1' x2' x3' x4' x5' x6' x7' w') Q) .normal n ds σ w := fun _ ha => ⟨x1, x2, x3, x4, x5, x6, x7, ha.sub hs, hw⟩

theorem VC_loop8 {γ1 γ2 γ3 γ4 γ5 γ6 γ7 γ8 : Type} {c : Code} (ks : List Nat) (σk : List (Nat × Value)) (hk : keepS ks σ = σk) (ch : γ1 → γ2 → γ3 → γ4 → γ5 → γ6 → γ7 → γ8 → List (Nat × Value)) (WI : γ1 → γ2 → γ3 → γ4 → γ5 → γ6 → γ7 → γ8 → World → Prop) (μ : γ1 → γ2 → γ3 → γ4 → γ5 → γ6 → γ7 → γ8 → Nat) (x1 : γ1) (x2 : γ2) (x3 : γ3) (x4 : γ4) (x5 : γ5) (x6 : γ6) (x7 : γ7) (x8 : γ8) (hs : Sub σ (ch x1 x2 x3 x4 x5 x6 x7 x8)) (hw : WI x1 x2 x3 x4 x5 x6 x7 x8 w)
    (round : ∀ x1 x2 x3 x4 x5 x6 x7 x8 w, WI x1 x2 x3 x4 x5 x6 x7 x8 w → VC P c (Exit.then (fun a' w' => ∃ x1' x2' x3' x4' x5' x6' x7' x8', Fr a' n ds (ch x1' x2' x3' x4' x5' x6' x7' x8' ++ σk) ∧ WI x1' x2' x3' x4' x5' x6' x7' x8' w' ∧ μ x1' x2' x3' x4' x5' x6' x7' x8' < μ x1 x2 x3 x4 x5 x6 x7 x8) Q) n ds (ch x1 x2 x3 x4 x5 x6 x7 x8 ++ σk) w) :
    VC P (.loop c) Q n ds σ w := by
  intro a ha
  have hF : Fr a n ds (ch x1 x2 x3 x4 x5 x6 x7 x8 ++ σk) := ha.app hs (by rw [← hk]; exact keepS_sub ks σ)
  refine VC_loop (γ := γ1 × γ2 × γ3 × γ4 × γ5 × γ6 × γ7 × γ8) (fun p => ch (p.1) (p.2.1) (p.2.2.1) (p.2.2.2.1) (p.2.2.2.2.1) (p.2.2.2.2.2.1) (p.2.2.2.2.2.2.1) (p.2.2.2.2.2.2.2) ++ σk) (fun p w => WI (p.1) (p.2.1) (p.2.2.1) (p.2.2.2.1) (p.2.2.2.2.1) (p.2.2.2.2.2.1) (p.2.2.2.2.2.2.1) (p.2.2.2.2.2.2.2) w) (fun p => μ (p.1) (p.2.1) (p.2.2.1) (p.2.2.2.1) (p.2.2.2.2.1) (p.2.2.2.2.2.1) (p.2.2.2.2.2.2.1) (p.2.2.2.2.2.2.2)) (x1, x2, x3, x4, x5, x6, x7, x8) (fun _ h => h) hw (fun p w h => ?_) a hF
  intro a ha
  refine wp_mono (round (p.1) (p.2.1) (p.2.2.1) (p.2.2.2.1) (p.2.2.2.2.1) (p.2.2.2.2.2.1) (p.2.2.2.2.2.2.1) (p.2.2.2.2.2.2.2) w h a ha) ?_
  intro e a w hq
  cases e with
  | normal => obtain ⟨x1', x2', x3', x4', x5', x6', x7', x8', h1, h2, h3⟩ := hq; exact ⟨(x1', x2', x3', x4', x5', x6', x7', x8'), h1, h2, h3⟩
  | _ => exact hq
theorem VE_round8 {γ1 γ2 γ3 γ4 γ5 γ6 γ7 γ8 : Type} {σk : List (Nat × Value)} {ch : γ1 → γ2 → γ3 → γ4 → γ5 → γ6 → γ7 → γ8 → List (Nat × Value)} {WI : γ1 → γ2 → γ3 → γ4 → γ5 → γ6 → γ7 → γ8 → World → Prop} {μ : γ1 → γ2 → γ3 → γ4 → γ5 → γ6 → γ7 → γ8 → Nat} {m : Nat} (x1 : γ1) (x2 : γ2) (x3 : γ3) (x4 : γ4) (x5 : γ5) (x6 : γ6) (x7 : γ7) (x8 : γ8) (hs : Sub σ (ch x1 x2 x3 x4 x5 x6 x7 x8 ++ σk)) (hw : WI x1 x2 x3 x4 x5 x6 x7 x8 w) (hμ : μ x1 x2 x3 x4 x5 x6 x7 x8 < m) :
    VE (Exit.then (fun a' w' => ∃ x1' x2' x3' x4' x5' x6' x7' x8', Fr a' n ds (ch x1' x2' x3' x4' x5' x6' x7' x8' ++ σk) ∧ WI x1' x2' x3' x4' x5' x6' x7' x8' w' ∧ μ x1' x2' x3' x4' x5' x6' x7' x8' < m) Q) .normal n ds σ w :=
  fun _ ha => ⟨x1, x2, x3, x4, x5, x6, x7, x8, ha.sub hs, hw, hμ⟩
theorem VC_cut8 {γ1 γ2 γ3 γ4 γ5 γ6 γ7 γ8 : Type} {x y : Code} (ks : List Nat) (σk : List (Nat × Value)) (_hk : keepS ks σ = σk) (ch : γ1 → γ2 → γ3 → γ4 → γ5 → γ6 → γ7 → γ8 → List (Nat × Value)) (WI : γ1 → γ2 → γ3 → γ4 → γ5 → γ6 → γ7 → γ8 → World → Prop)
    (h : VC P x (Exit.then (fun a' w' => ∃ x1' x2' x3' x4' x5' x6' x7' x8', Fr a' n ds (ch x1' x2' x3' x4' x5' x6' x7' x8' ++ σk) ∧ WI x1' x2' x3' x4' x5' x6' x7' x8' w') Q) n ds σ w) (hy : ∀ x1 x2 x3 x4 x5 x6 x7 x8 w, WI x1 x2 x3 x4 x5 x6 x7 x8 w → VC P y Q n ds (ch x1 x2 x3 x4 x5 x6 x7 x8 ++ σk) w) : VC P (.seq x y) Q n ds σ w := by
  intro a ha
  refine wp_seq (wp_mono (h a ha) ?_)
  intro e a w hq
  cases e with
  | normal => obtain ⟨x1, x2, x3, x4, x5, x6, x7, x8, hF, hW⟩ := hq; exact hy x1 x2 x3 x4 x5 x6 x7 x8 w hW a hF
  | _ => exact hq
theorem VE_cut8 {γ1 γ2 γ3 γ4 γ5 γ6 γ7 γ8 : Type} {σk : List (Nat × Value)} {ch : γ1 → γ2 → γ3 → γ4 → γ5 → γ6 → γ7 → γ8 → List (Nat × Value)} {WI : γ1 → γ2 → γ3 → γ4 → γ5 → γ6 → γ7 → γ8 → World → Prop} (x1 : γ1) (x2 : γ2) (x3 : γ3) (x4 : γ4) (x5 : γ5) (x6 : γ6) (x7 : γ7) (x8 : γ8) (hs : Sub σ (ch x1 x2 x3 x4 x5 x6 x7 x8 ++ σk)) (hw : WI x1 x2 x3 x4 x5 x6 x7 x8 w) :
    VE (Exit.then (fun a' w' => ∃ x1' x2' x3' x4' x5' x6' x7' x8', Fr a' n ds (ch x1' x2' x3' x4' x5' x6' x7' x8' ++ σk) ∧ WI x1' x2' x3' x4' x5' x6' x7' x8' w') Q) .normal n ds σ w := fun _ ha => ⟨x1, x2, x3, x4, x5, x6, x7, x8, ha.sub hs, hw⟩

theorem nt {b : Bool} (h : (!b) = true) : b = false := by cases b <;> first | rfl | cases h
theorem nf {b : Bool} (h : (!b) = false) : b = true := by cases b <;> first | rfl | cases h
theorem all_succ {p : Nat → Prop} {k : Nat} (h : ∀ i, i < k → p i) (hk : p k) : ∀ i, i < k + 1 → p i := by
  intro i hi
  rcases Nat.lt_or_ge i k with h1 | h1
  · exact h i h1
  · obtain rfl : i = k := by omega
    exact hk
/-! ### Rows of typed elements -/
theorem blk_cellM {α : Type} [Inhabited α] {f : α → Value} {l : List α} {b i : Nat} {t : TypeId} (h : (blk b t (l.map f)).holds w) (hi : i < l.length) : w.cell? ⟨b, i, none⟩ = some (f l[i]!) :=
  blk_cell h (by simp [hi])
theorem VL_storeM {α : Type} {f : α → Value} {v : α} {vs : List α} {t bt : TypeId} {x y : Operand} {b i : Nat} {u : Value} (hop : o.op = .store t x y) (hg : o.guard = none) (hd : o.dst = none) (hx : ev σ x = some (.pointer (some ⟨b, i, none⟩))) (hy : ev σ y = some u) (ht : OneT P t) (hv : u.oneCell' = true)
    (hS : St w0 M η w) (k : Nat) (hk : η[k]? = some (blk b bt (vs.map f))) (hi : i < vs.length) (hu : u = f v)
    (h : ∀ w, St w0 M (η.set k (blk b bt ((vs.set i v).map f))) w → VL P ops Q rest n ds σ w) : VL P ops Q (o :: rest) n ds σ w := by
  subst hu
  refine VL_store hop hg hd hx hy ht hv hS k hk (by simpa using hi) ?_
  rw [← List.map_set]; exact h

theorem VL_makeM {α : Type} (f : α → Value) (v : α) {t e : TypeId} {x y : Operand} {k k' : IntKind} {l c d bytes : Nat} {z : Value} (hop : o.op = .makeSlice t x y) (hg : o.guard = none) (hd : o.dst = some d) (hn : Nat.blt d n = true) (hx : ev σ x = some (.int k (l : Int))) (hy : ev σ y = some (.int k' (c : Int)))
    (ht : P.underlying t = some (.slice e)) (he : ElemT P e 1 bytes z) (hz : z.cells = #[z]) (hzf : z = f v) (hlc : l ≤ c) (hb : bytes * c ≤ 281474976710656) (hc : c ≤ 9223372036854775807) (hS : St w0 M η w)
    (h : ∀ b w, St w0 M (η ++ [blk b e ((List.replicate c v).map f)]) w → VL P ops Q rest n ds ((d, .slice (some ⟨b, 0, none⟩) l c) :: σ) w) : VL P ops Q (o :: rest) n ds σ w := by
  refine VL_make1 hop hg hd hn hx hy ht he hz hlc hb hc hS ?_
  rw [hzf, ← List.map_replicate]; exact h

theorem wi32 {x : Int} (h1 : -2147483648 ≤ x) (h2 : x ≤ 2147483647) : IntKind.i32.wrap x = x := by rw [IntKind.wrap_i32]; omega
theorem wi64 {x : Int} (h1 : -9223372036854775808 ≤ x) (h2 : x ≤ 9223372036854775807) : IntKind.i64.wrap x = x := by rw [IntKind.wrap_i64]; omega
end
end Go.V
