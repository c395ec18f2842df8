/- Loops over more ghosts; numbers of 16 bits. -/
import Derived.Test.YtmoooaaiohplhacVk
namespace Go.V
open Go
section
variable {P : Program} {ops : Array Oper} {Q : Exit → Act → World → Prop} {l rest : List Oper} {n : Nat} {ds : List Deferred} {σ τ : List (Nat × Value)} {w w' w0 : World} {o : Oper} {M : Nat → Prop} {η : List Res}

theorem VC_loop9 {γ1 γ2 γ3 γ4 γ5 γ6 γ7 γ8 γ9 : Type} {c : Code} (ks : List Nat) (σk : List (Nat × Value)) (hk : keepS ks σ = σk) (ch : γ1 → γ2 → γ3 → γ4 → γ5 → γ6 → γ7 → γ8 → γ9 → List (Nat × Value)) (WI : γ1 → γ2 → γ3 → γ4 → γ5 → γ6 → γ7 → γ8 → γ9 → World → Prop) (μ : γ1 → γ2 → γ3 → γ4 → γ5 → γ6 → γ7 → γ8 → γ9 → Nat) (x1 : γ1) (x2 : γ2) (x3 : γ3) (x4 : γ4) (x5 : γ5) (x6 : γ6) (x7 : γ7) (x8 : γ8) (x9 : γ9) (hs : Sub σ (ch x1 x2 x3 x4 x5 x6 x7 x8 x9)) (hw : WI x1 x2 x3 x4 x5 x6 x7 x8 x9 w)
    (round : ∀ x1 x2 x3 x4 x5 x6 x7 x8 x9 w, WI x1 x2 x3 x4 x5 x6 x7 x8 x9 w → VC P c (Exit.then (fun a' w' => ∃ x1' x2' x3' x4' x5' x6' x7' x8' x9', Fr a' n ds (ch x1' x2' x3' x4' x5' x6' x7' x8' x9' ++ σk) ∧ WI x1' x2' x3' x4' x5' x6' x7' x8' x9' w' ∧ μ x1' x2' x3' x4' x5' x6' x7' x8' x9' < μ x1 x2 x3 x4 x5 x6 x7 x8 x9) Q) n ds (ch x1 x2 x3 x4 x5 x6 x7 x8 x9 ++ σk) w) :
    VC P (.loop c) Q n ds σ w := by
  intro a ha
  have hF : Fr a n ds (ch x1 x2 x3 x4 x5 x6 x7 x8 x9 ++ σk) := ha.app hs (by rw [← hk]; exact keepS_sub ks σ)
  refine VC_loop (γ := γ1 × γ2 × γ3 × γ4 × γ5 × γ6 × γ7 × γ8 × γ9) (fun p => ch (p.1) (p.2.1) (p.2.2.1) (p.2.2.2.1) (p.2.2.2.2.1) (p.2.2.2.2.2.1) (p.2.2.2.2.2.2.1) (p.2.2.2.2.2.2.2.1) (p.2.2.2.2.2.2.2.2) ++ σk) (fun p w => WI (p.1) (p.2.1) (p.2.2.1) (p.2.2.2.1) (p.2.2.2.2.1) (p.2.2.2.2.2.1) (p.2.2.2.2.2.2.1) (p.2.2.2.2.2.2.2.1) (p.2.2.2.2.2.2.2.2) w) (fun p => μ (p.1) (p.2.1) (p.2.2.1) (p.2.2.2.1) (p.2.2.2.2.1) (p.2.2.2.2.2.1) (p.2.2.2.2.2.2.1) (p.2.2.2.2.2.2.2.1) (p.2.2.2.2.2.2.2.2)) (x1, x2, x3, x4, x5, x6, x7, x8, x9) (fun _ h => h) hw (fun p w h => ?_) a hF
  intro a ha
  refine wp_mono (round (p.1) (p.2.1) (p.2.2.1) (p.2.2.2.1) (p.2.2.2.2.1) (p.2.2.2.2.2.1) (p.2.2.2.2.2.2.1) (p.2.2.2.2.2.2.2.1) (p.2.2.2.2.2.2.2.2) w h a ha) ?_
  intro e a w hq
  cases e with
  | normal => obtain ⟨x1', x2', x3', x4', x5', x6', x7', x8', x9', h1, h2, h3⟩ := hq; exact ⟨(x1', x2', x3', x4', x5', x6', x7', x8', x9'), h1, h2, h3⟩
  | _ => exact hq
theorem VE_round9 {γ1 γ2 γ3 γ4 γ5 γ6 γ7 γ8 γ9 : Type} {σk : List (Nat × Value)} {ch : γ1 → γ2 → γ3 → γ4 → γ5 → γ6 → γ7 → γ8 → γ9 → List (Nat × Value)} {WI : γ1 → γ2 → γ3 → γ4 → γ5 → γ6 → γ7 → γ8 → γ9 → World → Prop} {μ : γ1 → γ2 → γ3 → γ4 → γ5 → γ6 → γ7 → γ8 → γ9 → Nat} {m : Nat} (x1 : γ1) (x2 : γ2) (x3 : γ3) (x4 : γ4) (x5 : γ5) (x6 : γ6) (x7 : γ7) (x8 : γ8) (x9 : γ9) (hs : Sub σ (ch x1 x2 x3 x4 x5 x6 x7 x8 x9 ++ σk)) (hw : WI x1 x2 x3 x4 x5 x6 x7 x8 x9 w) (hμ : μ x1 x2 x3 x4 x5 x6 x7 x8 x9 < m) :
    VE (Exit.then (fun a' w' => ∃ x1' x2' x3' x4' x5' x6' x7' x8' x9', Fr a' n ds (ch x1' x2' x3' x4' x5' x6' x7' x8' x9' ++ σk) ∧ WI x1' x2' x3' x4' x5' x6' x7' x8' x9' w' ∧ μ x1' x2' x3' x4' x5' x6' x7' x8' x9' < m) Q) .normal n ds σ w :=
  fun _ ha => ⟨x1, x2, x3, x4, x5, x6, x7, x8, x9, ha.sub hs, hw, hμ⟩

theorem VC_loop10 {γ1 γ2 γ3 γ4 γ5 γ6 γ7 γ8 γ9 γ10 : Type} {c : Code} (ks : List Nat) (σk : List (Nat × Value)) (hk : keepS ks σ = σk) (ch : γ1 → γ2 → γ3 → γ4 → γ5 → γ6 → γ7 → γ8 → γ9 → γ10 → List (Nat × Value)) (WI : γ1 → γ2 → γ3 → γ4 → γ5 → γ6 → γ7 → γ8 → γ9 → γ10 → World → Prop) (μ : γ1 → γ2 → γ3 → γ4 → γ5 → γ6 → γ7 → γ8 → γ9 → γ10 → Nat) (x1 : γ1) (x2 : γ2) (x3 : γ3) (x4 : γ4) (x5 : γ5) (x6 : γ6) (x7 : γ7) (x8 : γ8) (x9 : γ9) (x10 : γ10) (hs : Sub σ (ch x1 x2 x3 x4 x5 x6 x7 x8 x9 x10)) (hw : WI x1 x2 x3 x4 x5 x6 x7 x8 x9 x10 w)
    (round : ∀ x1 x2 x3 x4 x5 x6 x7 x8 x9 x10 w, WI x1 x2 x3 x4 x5 x6 x7 x8 x9 x10 w → VC P c (Exit.then (fun a' w' => ∃ x1' x2' x3' x4' x5' x6' x7' x8' x9' x10', Fr a' n ds (ch x1' x2' x3' x4' x5' x6' x7' x8' x9' x10' ++ σk) ∧ WI x1' x2' x3' x4' x5' x6' x7' x8' x9' x10' w' ∧ μ x1' x2' x3' x4' x5' x6' x7' x8' x9' x10' < μ x1 x2 x3 x4 x5 x6 x7 x8 x9 x10) Q) n ds (ch x1 x2 x3 x4 x5 x6 x7 x8 x9 x10 ++ σk) w) :
    VC P (.loop c) Q n ds σ w := by
  intro a ha
  have hF : Fr a n ds (ch x1 x2 x3 x4 x5 x6 x7 x8 x9 x10 ++ σk) := ha.app hs (by rw [← hk]; exact keepS_sub ks σ)
  refine VC_loop (γ := γ1 × γ2 × γ3 × γ4 × γ5 × γ6 × γ7 × γ8 × γ9 × γ10) (fun p => ch (p.1) (p.2.1) (p.2.2.1) (p.2.2.2.1) (p.2.2.2.2.1) (p.2.2.2.2.2.1) (p.2.2.2.2.2.2.1) (p.2.2.2.2.2.2.2.1) (p.2.2.2.2.2.2.2.2.1) (p.2.2.2.2.2.2.2.2.2) ++ σk) (fun p w => WI (p.1) (p.2.1) (p.2.2.1) (p.2.2.2.1) (p.2.2.2.2.1) (p.2.2.2.2.2.1) (p.2.2.2.2.2.2.1) (p.2.2.2.2.2.2.2.1) (p.2.2.2.2.2.2.2.2.1) (p.2.2.2.2.2.2.2.2.2) w) (fun p => μ (p.1) (p.2.1) (p.2.2.1) (p.2.2.2.1) (p.2.2.2.2.1) (p.2.2.2.2.2.1) (p.2.2.2.2.2.2.1) (p.2.2.2.2.2.2.2.1) (p.2.2.2.2.2.2.2.2.1) (p.2.2.2.2.2.2.2.2.2)) (x1, x2, x3, x4, x5, x6, x7, x8, x9, x10) (fun _ h => h) hw (fun p w h => ?_) a hF
  intro a ha
  refine wp_mono (round (p.1) (p.2.1) (p.2.2.1) (p.2.2.2.1) (p.2.2.2.2.1) (p.2.2.2.2.2.1) (p.2.2.2.2.2.2.1) (p.2.2.2.2.2.2.2.1) (p.2.2.2.2.2.2.2.2.1) (p.2.2.2.2.2.2.2.2.2) w h a ha) ?_
  intro e a w hq
  cases e with
  | normal => obtain ⟨x1', x2', x3', x4', x5', x6', x7', x8', x9', x10', h1, h2, h3⟩ := hq; exact ⟨(x1', x2', x3', x4', x5', x6', x7', x8', x9', x10'), h1, h2, h3⟩
  | _ => exact hq
theorem VE_round10 {γ1 γ2 γ3 γ4 γ5 γ6 γ7 γ8 γ9 γ10 : Type} {σk : List (Nat × Value)} {ch : γ1 → γ2 → γ3 → γ4 → γ5 → γ6 → γ7 → γ8 → γ9 → γ10 → List (Nat × Value)} {WI : γ1 → γ2 → γ3 → γ4 → γ5 → γ6 → γ7 → γ8 → γ9 → γ10 → World → Prop} {μ : γ1 → γ2 → γ3 → γ4 → γ5 → γ6 → γ7 → γ8 → γ9 → γ10 → Nat} {m : Nat} (x1 : γ1) (x2 : γ2) (x3 : γ3) (x4 : γ4) (x5 : γ5) (x6 : γ6) (x7 : γ7) (x8 : γ8) (x9 : γ9) (x10 : γ10) (hs : Sub σ (ch x1 x2 x3 x4 x5 x6 x7 x8 x9 x10 ++ σk)) (hw : WI x1 x2 x3 x4 x5 x6 x7 x8 x9 x10 w) (hμ : μ x1 x2 x3 x4 x5 x6 x7 x8 x9 x10 < m) :
    VE (Exit.then (fun a' w' => ∃ x1' x2' x3' x4' x5' x6' x7' x8' x9' x10', Fr a' n ds (ch x1' x2' x3' x4' x5' x6' x7' x8' x9' x10' ++ σk) ∧ WI x1' x2' x3' x4' x5' x6' x7' x8' x9' x10' w' ∧ μ x1' x2' x3' x4' x5' x6' x7' x8' x9' x10' < m) Q) .normal n ds σ w :=
  fun _ ha => ⟨x1, x2, x3, x4, x5, x6, x7, x8, x9, x10, ha.sub hs, hw, hμ⟩
theorem wi16 {x : Int} (h1 : -32768 ≤ x) (h2 : x ≤ 32767) : IntKind.i16.wrap x = x := by
  have : IntKind.i16.wrap x = (x + 32768) % 65536 - 32768 := by
    simp only [IntKind.wrap, IntKind.signed, IntKind.bits]
    simp
    try omega
  omega
end
end Go.V
