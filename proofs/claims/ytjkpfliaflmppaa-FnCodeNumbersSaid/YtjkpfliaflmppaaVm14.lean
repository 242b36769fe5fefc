/- A scope with jumps back to one label. No condition. -/
import Derived.Test.YtjkpfliaflmppaaVm13
import Derived.ScopeJumps
namespace Go.Proofs.Ytjkpfliaflmppaa.Vm
open Go Go.RowKit

/-- By a jump to l: J; by any other way: Q. -/
def Jump (l : Nat) (J : Env → Mem → Prop) (Q : Post) : Post
  | .goto l', E, M => l' = l ∧ J E M
  | e, E, M => Q e E M

section
variable {pr : Bool} {P : Program} {N : Fm} {Fin : Post} {k : List Kn} {E : Env} {M : Mem}

theorem W_label {l : Nat} (h : G pr P N Fin .normal k E M) : W pr P N Fin (.label l) k E M := ⟨⟨fun _ _ _ _ hA hS => wp_label ⟨E, M, hA, hS, h.out⟩⟩⟩
theorem W_goto {l : Nat} (h : G pr P N Fin (.goto l) k E M) : W pr P N Fin (.goto l) k E M := ⟨⟨fun _ _ _ _ hA hS => wp_goto ⟨E, M, hA, hS, h.out⟩⟩⟩
theorem G_goto_code {l : Nat} {c : Code} (h : G pr P N Fin (.goto l) k E M) : G pr P N Fin (.goto l) (.code c :: k) E M := ⟨h.out⟩
theorem G_goto_blk {l id : Nat} (h : G pr P N Fin (.goto l) k E M) : G pr P N Fin (.goto l) (.blk id :: k) E M := ⟨h.out⟩
theorem G_goto_stop {l : Nat} {K : Env → Mem → Prop} (h : G pr P N Fin (.goto l) k E M) : G pr P N Fin (.goto l) (.stop K :: k) E M := ⟨h.out⟩

theorem lift_jump {base : Nat} {w0 : World} {l : Nat} {J : Env → Mem → Prop} {Q : Post} {e : Exit} {a : Act} {w : World} (h : Lift pr base N w0 (Jump l J Q) e a w) :
    Exit.jump l (fun a w => ∃ E M, Ag N E a ∧ Sim pr base w0 w M ∧ J E M) (Lift pr base N w0 Q) e a w := by
  obtain ⟨E', M', h1, h2, h3⟩ := h
  cases e with
  | goto l' => exact ⟨h3.1, E', M', h1, h2, h3.2⟩
  | _ => exact ⟨E', M', h1, h2, h3⟩

theorem W_scope {α : Type} {c rest : Code} (l : Nat) (hf : findLabel c l = some rest) (St : α → Env) (Ms : α → Mem) (inv : α → Prop) (μ : α → Nat)
    (first : W pr P N (Jump l (fun E' M' => ∃ x, inv x ∧ Sub E' (St x) ∧ Rk M' (Ms x)) (fun e E M => G pr P N Fin e k E M)) c [] E M)
    (pass : ∀ x, inv x → W pr P N (Jump l (fun E' M' => ∃ x', inv x' ∧ μ x' < μ x ∧ Sub E' (St x') ∧ Rk M' (Ms x')) (fun e E M => G pr P N Fin e k E M)) rest [] (St x) (Ms x)) :
    W pr P N Fin (.scope c) k E M := by
  have key : ∀ base w0 n x a w, μ x < n → inv x → Ag N (St x) a → Sim pr base w0 w (Ms x) → ∀ b kk cs, ∃ e a' w', Lift pr base N w0 (post pr P N Fin k) e a' w' ∧
      Arrives P (lone (b.at a (.code rest :: .inScope c :: kk)) cs w) b kk cs e a' w' := by
    intro base w0 n
    induction n with
    | zero => intro x a w h; omega
    | succ n ih =>
      intro x a w hn hx hA hS b kk cs
      have hg : gotoIn l (.inScope c :: kk) = some (.code rest :: .inScope c :: kk) := by simp [gotoIn, hf]
      obtain ⟨e, a₁, w₁, hq, harr⟩ := ((pass x hx).out.out base w0 a w hA hS) b (.inScope c :: kk) cs
      have hq' := lift_jump hq
      cases e with
      | normal => obtain ⟨E1, M1, q1, q2, q3⟩ := hq; exact ⟨.normal, a₁, w₁, ⟨E1, M1, q1, q2, q3.out⟩, Steps.trans harr (.one step_inScope)⟩
      | exit id => obtain ⟨E1, M1, q1, q2, q3⟩ := hq; exact ⟨.exit id, a₁, w₁, ⟨E1, M1, q1, q2, q3.out⟩, fun k' hk => harr k' (by simp [exitTo, hk])⟩
      | goto l' =>
        obtain ⟨rfl, E1, M1, q1, q2, x', p1, p2, p3, p4⟩ := hq'
        obtain ⟨e₂, a₂, w₂, hq₂, harr₂⟩ := ih x' a₁ w₁ (by omega) p1 (q1.sub p3) (q2.rk p4) b kk cs
        exact ⟨e₂, a₂, w₂, hq₂, .of_steps (harr _ hg) harr₂⟩
      | ret => obtain ⟨E1, M1, q1, q2, q3⟩ := hq; exact ⟨_, a₁, w₁, ⟨E1, M1, q1, q2, q3.out⟩, harr⟩
      | panic ch => obtain ⟨E1, M1, q1, q2, q3⟩ := hq; exact ⟨_, a₁, w₁, ⟨E1, M1, q1, q2, q3.out⟩, harr⟩
      | outgrown => obtain ⟨E1, M1, q1, q2, q3⟩ := hq; exact ⟨_, a₁, w₁, ⟨E1, M1, q1, q2, q3.out⟩, harr⟩
  refine ⟨⟨fun base w0 a w hA hS => ?_⟩⟩
  intro b kk cs
  have hg : gotoIn l (.inScope c :: kk) = some (.code rest :: .inScope c :: kk) := by simp [gotoIn, hf]
  obtain ⟨e, a₁, w₁, hq, harr⟩ := (first.out.out base w0 a w hA hS) b (.inScope c :: kk) cs
  have hq' := lift_jump hq
  cases e with
  | normal => obtain ⟨E1, M1, q1, q2, q3⟩ := hq; exact ⟨.normal, a₁, w₁, ⟨E1, M1, q1, q2, q3.out⟩, .head step_scope (Steps.trans harr (.one step_inScope))⟩
  | exit id => obtain ⟨E1, M1, q1, q2, q3⟩ := hq; exact ⟨.exit id, a₁, w₁, ⟨E1, M1, q1, q2, q3.out⟩, fun k' hk => .head step_scope (harr k' (by simp [exitTo, hk]))⟩
  | goto l' =>
    obtain ⟨rfl, E1, M1, q1, q2, x, p1, p3, p4⟩ := hq'
    obtain ⟨e₂, a₂, w₂, hq₂, harr₂⟩ := key base w0 _ x a₁ w₁ (Nat.lt_succ_self _) p1 (q1.sub p3) (q2.rk p4) b kk cs
    exact ⟨e₂, a₂, w₂, hq₂, .of_steps (.head step_scope (harr _ hg)) harr₂⟩
  | ret => obtain ⟨E1, M1, q1, q2, q3⟩ := hq; exact ⟨_, a₁, w₁, ⟨E1, M1, q1, q2, q3.out⟩, .of_steps (.one step_scope) harr⟩
  | panic ch => obtain ⟨E1, M1, q1, q2, q3⟩ := hq; exact ⟨_, a₁, w₁, ⟨E1, M1, q1, q2, q3.out⟩, .of_steps (.one step_scope) harr⟩
  | outgrown => obtain ⟨E1, M1, q1, q2, q3⟩ := hq; exact ⟨_, a₁, w₁, ⟨E1, M1, q1, q2, q3.out⟩, .of_steps (.one step_scope) harr⟩
/-- Out of the scope. -/
theorem G_leave {l : Nat} {J : Env → Mem → Prop} {e : Exit} (he : ∀ l', e ≠ .goto l') (h : G pr P N Fin e k E M) : G pr P N (Jump l J (fun e E M => G pr P N Fin e k E M)) e [] E M := by
  refine ⟨?_⟩
  cases e with
  | goto l' => exact absurd rfl (he l')
  | _ => exact h
theorem G_jump {l : Nat} {J : Env → Mem → Prop} {Q : Post} (h : J E M) : G pr P N (Jump l J Q) (.goto l) [] E M := ⟨⟨rfl, h⟩⟩
end
end Go.Proofs.Ytjkpfliaflmppaa.Vm
