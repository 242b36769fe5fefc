/- Regions that draw their order, walked order by order. No condition. -/
import Derived.Test.YtjkpfliaflmppaaVm9
namespace Go.Proofs.Ytjkpfliaflmppaa.Vm
open Go Go.RowKit

structure OA (P : Program) (N : Fm) (Fin : Post) (k : List Kn) (l : List Oper) (f : Nat) (listed : Array Bool) (E : Env) (M : Mem) : Prop where
  out : ∀ base w0 a w, Ag N E a → Sim false base w0 w M → wpAny P .any l.toArray (Lift false base N w0 (post false P N Fin k)) f listed a w

section
variable {P : Program} {N : Fm} {Fin : Post} {k : List Kn} {E : Env} {M : Mem} {l : List Oper} {f : Nat} {listed : Array Bool}

theorem W_region_any {id : Nat} (hm : P.follows .mixedOrders = true) (h : OA P N Fin k l l.toArray.size (Array.replicate l.toArray.size false) E M) : W false P N Fin (.region id l.toArray true) k E M :=
  ⟨⟨fun base w0 a w hA hS => wp_region_any hm (h.out base w0 a _ hA hS.drew)⟩⟩

/-- One operation, and what may come then. -/
def Step (P : Program) (N : Fm) (Fin : Post) (k : List Kn) (l : List Oper) (f : Nat) (listed : Array Bool) (E : Env) (M : Mem) (i : Nat) : Prop :=
  WO false P N (fun e E2 M2 => e = .normal ∧ OA P N Fin k l f (listed.setIfInBounds i true) E2 M2) l ((l.drop i).take 1) [] E M

theorem OA_step {rs : List Nat} (hr : Region.ready .any l.toArray listed = rs) (hne : rs.isEmpty = false) (hlt : ∀ i ∈ rs, i < l.length) (h : ∀ i ∈ rs, Step P N Fin k l f listed E M i) : OA P N Fin k l (f + 1) listed E M := by
  refine ⟨fun base w0 a w hA hS => ⟨fun h0 => ?_, fun i hi => ?_⟩⟩
  · rw [hr] at h0; subst h0; simp at hne
  rw [hr] at hi
  have hn := hlt i hi
  have h1 := (h i hi).out.out base w0 a w hA hS
  have hone : (l.drop i).take 1 = [l[i]] := by rw [List.drop_eq_getElem_cons hn]; rfl
  rw [hone] at h1
  unfold wpOp
  rw [show l.toArray[i]? = some l[i] by simp [hn]]
  have key : ∀ a2 w2, wpList P l.toArray (Lift false base N w0 (post false P N (fun e E2 M2 => e = .normal ∧ OA P N Fin k l f (listed.setIfInBounds i true) E2 M2) [])) [] a2 w2 →
      wpAny P .any l.toArray (Lift false base N w0 (post false P N Fin k)) f (listed.setIfInBounds i true) a2 w2 := by
    intro a2 w2 h2
    obtain ⟨E2, M2, hA2, hS2, _, h3⟩ := h2
    exact h3.out base w0 a2 w2 hA2 hS2
  unfold wpList at h1
  have hno : ∀ e a w, e ≠ .normal → ¬ Lift false base N w0 (post false P N (fun e E2 M2 => e = .normal ∧ OA P N Fin k l f (listed.setIfInBounds i true) E2 M2) []) e a w := by
    rintro e a w hne ⟨E2, M2, _, _, h3, _⟩
    exact hne h3
  dsimp only
  split
  · rename_i hw
    rw [if_pos hw] at h1
    rcases h1 with h1 | ⟨_, a2, w2, h2⟩
    · exact .inl (wp_other key hno h1)
    · exact absurd h2 (hno _ _ _ (by simp))
  · rename_i hw
    rw [if_neg hw] at h1
    exact key _ _ h1

/-- From n on there is one order alone. -/
theorem OA_seq (n : Nat) (hs : Region.seqB .any l.toArray (l.drop n).length n listed = true) (hf : (l.drop n).length = f) (h : WO false P N Fin l (l.drop n) k E M) : OA P N Fin k l f listed E M := by
  subst hf
  exact ⟨fun base w0 a w hA hS => wpAny_of_seq (l.drop n) n listed a w (fun j => by simp [List.getElem?_drop]) hs (h.out.out base w0 a w hA hS)⟩
end
end Go.Proofs.Ytjkpfliaflmppaa.Vm
