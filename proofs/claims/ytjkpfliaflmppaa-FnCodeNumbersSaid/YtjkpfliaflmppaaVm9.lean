/- Regions that draw their order and hold one operation that writes, in their middle. No condition. -/
import Derived.Test.YtjkpfliaflmppaaVm8
namespace Go.Proofs.Ytjkpfliaflmppaa.Vm
open Go Go.RowKit

section
variable {P : Program} {ops : Array Oper} {md : Region.Mode} {w : World}

/-- Each operation behind n waits for one at n or behind it. -/
def behindB (md : Region.Mode) (ops : Array Oper) (n : Nat) : Bool :=
  (List.range ops.size).all fun t => decide (t ≤ n) || (List.range t).any fun i => decide (n ≤ i) && Region.waitsFor md ops t i

theorem waits2 {n : Nat} {listed : Array Bool} (hs : Region.sinkB md ops n = true) (hc : behindB md ops n = true) (hn : n < ops.size) (inv : HeadInv md ops n listed) :
    ∀ (d i : Nat), n - i = d → i < n → listed.getD i true = false → ∀ t, n ≤ t → t ∉ Region.ready md ops listed := by
  intro d
  induction d using Nat.strongRecOn with
  | _ d ih =>
    intro i hd hi hun t ht hr
    obtain ⟨_, ot, hot, hall⟩ := mem_ready.1 hr
    have htlt : t < ops.size := (Array.getElem?_eq_some_iff.1 hot).1
    by_cases htn : t = n
    · subst htn
      obtain ⟨j, hj, hj2⟩ := List.any_eq_true.1 (List.all_eq_true.1 hs i (List.mem_range.2 hi))
      simp only [Bool.and_eq_true, decide_eq_true_eq] at hj2
      obtain ⟨oj, hoj, e, he, hb, hon⟩ := Region.waitsFor_spec hj2.2
      have hjle : j ≤ t := by have := List.mem_range.1 hj; omega
      by_cases hjt : j = t
      · subst hjt
        obtain rfl : oj = ot := Option.some.inj (hoj.symm.trans hot)
        have h2 := hall e he hb
        rw [hon, getD_both hun] at h2
        cases h2
      · cases hl : listed.getD j false with
        | true =>
          have h2 := inv.closed j oj hoj hl e he hb
          rw [hon, getD_both hun] at h2
          cases h2
        | false =>
          have hjs : j < listed.size := by rw [inv.size]; omega
          exact ih (t - j) (by omega) j rfl (by omega) (getD_in hjs hl) t (Nat.le_refl _) hr
    · have h1 := List.all_eq_true.1 hc t (List.mem_range.2 htlt)
      simp only [Bool.or_eq_true, decide_eq_true_eq] at h1
      rcases h1 with h1 | h1
      · omega
      · obtain ⟨j, hj, hj2⟩ := List.any_eq_true.1 h1
        simp only [Bool.and_eq_true, decide_eq_true_eq] at hj2
        have hjt := List.mem_range.1 hj
        obtain ⟨o', ho', e, he, hb, hon⟩ := Region.waitsFor_spec hj2.2
        obtain rfl : o' = ot := Option.some.inj (ho'.symm.trans hot)
        have h2 := hall e he hb
        rw [hon, getD_both (inv.tail j hj2.1 (by omega))] at h2
        cases h2

theorem head_first {n i : Nat} {oi : Oper} {v : Value} {L : Array Bool → Act → Prop} (hi : ops[i]? = some oi) (hsel : ∀ (j : Nat) (o : Oper) cs b, ops[j]? = some o → o.op ≠ .select cs b)
    (hs : Region.sinkB md ops n = true) (hc : behindB md ops n = true) (hn : n < ops.size) (hin : i < n)
    (hdone : ∀ listed a, L listed a → ∀ j ∈ Region.ready md ops listed, n ≤ j) :
    ∀ (f : Nat) (listed : Array Bool) (a : Act), HeadInv md ops n listed →
      (∀ j oj, ops[j]? = some oj → j ≠ i → listed.getD j true = false → (∀ e ∈ oj.after, Region.binds md e = true → e.on ≠ i) → oi.apart ops oj = true) →
      i ∈ Region.ready md ops listed → YieldsAt P ops w oi v a →
      wpAnyL P md ops w n L f (listed.setIfInBounds i true) (a.put oi.dst v) → wpAnyL P md ops w n L (f + 1) listed a := by
  intro f
  induction f with
  | zero =>
    intro listed a inv _ hr hy H
    have hun := (mem_ready.1 hr).1
    refine ⟨fun h => (by rw [h] at hr; cases hr), fun j hj => ?_⟩
    have hjn : j < n := by
      rcases Nat.lt_or_ge j n with h | h
      · exact h
      · exact absurd hj (waits2 hs hc hn inv _ i rfl hin hun j h)
    refine ⟨hjn, ?_⟩
    by_cases hji : j = i
    · subst hji; exact hy.stOp hi H
    · have := hdone _ _ H j (ready_mono hj hji)
      omega
  | succ f ih =>
    intro listed a inv hfree hr hy H
    have hun := (mem_ready.1 hr).1
    refine ⟨fun h => (by rw [h] at hr; cases hr), fun j hj => ?_⟩
    have hjn : j < n := by
      rcases Nat.lt_or_ge j n with h | h
      · exact h
      · exact absurd hj (waits2 hs hc hn inv _ i rfl hin hun j h)
    refine ⟨hjn, ?_⟩
    by_cases hji : j = i
    · subst hji; exact hy.stOp hi H
    · have h1 := (H.2 j (ready_mono hj hji)).2
      obtain ⟨hjun, oj, hoj, hall⟩ := mem_ready.1 hj
      have hnot : ∀ e ∈ oj.after, Region.binds md e = true → e.on ≠ i := fun e he hb heq => by
        have h1 := hall e he hb
        rw [heq, getD_both hun] at h1
        cases h1
      have h2 := stOp_put hoj (hfree j oj hoj hji hjun hnot) (fun cs b => hsel i oi cs b hi) (fun cs b => hsel j oj cs b hoj) hy h1
      have hfree' : ∀ k ok, ops[k]? = some ok → k ≠ i → (listed.setIfInBounds j true).getD k true = false →
          (∀ e ∈ ok.after, Region.binds md e = true → e.on ≠ i) → oi.apart ops ok = true := fun k ok hk hki hun hno => by
        refine hfree k ok hk hki ?_ hno
        by_cases hjk : j = k
        · subst hjk; exact hjun
        · rw [getD_set_ne true hjk] at hun; exact hun
      refine stOp_mono (fun a' h3 => ih (listed.setIfInBounds j true) a' (inv.set hj hjn) hfree' (ready_mono hr (Ne.symm hji)) h3.1 ?_) h2
      rw [Array.setIfInBounds_comm _ _ hji]
      exact h3.2

def headB (md : Region.Mode) (ops : Array Oper) (B : Array Bool → Bool) : Nat → Nat → Array Bool → Bool
  | 0, _, listed => B listed
  | f + 1, k, listed => (Region.ready md ops listed).contains k && Region.free md ops listed k && headB md ops B f (k + 1) (listed.setIfInBounds k true)

theorem head_lex {n : Nat} {B : Array Bool → Bool} {Lq : Act → Prop} (hsel : Region.noSelect ops = true) (hs : Region.sinkB md ops n = true) (hc : behindB md ops n = true) (hn : n < ops.size)
    (hBr : ∀ listed, B listed = true → ∀ j ∈ Region.ready md ops listed, n ≤ j) :
    ∀ (l : List Oper) (k : Nat) (listed : Array Bool) (a : Act), (∀ j, j < l.length → l[j]? = ops[k + j]?) → k + l.length = n → HeadInv md ops n listed →
    headB md ops B l.length k listed = true → wpStill P ops w Lq l a →
    wpAnyL P md ops w n (fun listed' a' => B listed' = true ∧ Lq a') l.length listed a
  | [], k, listed, a, _, hk, _, hB, h => ⟨hB, h⟩
  | o :: l, k, listed, a, hl, hk, inv, hB, h => by
    have h0 : ops[k]? = some o := by simpa using (hl 0 (by simp)).symm
    simp only [List.length_cons, headB, Bool.and_eq_true] at hB
    obtain ⟨⟨hr, hf⟩, hB'⟩ := hB
    have hkn : k < n := by simp only [List.length_cons] at hk; omega
    have hr' : k ∈ Region.ready md ops listed := by simpa using hr
    have hst : stOp P ops w k (wpStill P ops w Lq l) a := by unfold stOp; simp only [h0]; exact h
    obtain ⟨v, hy, hK⟩ := yieldsAt_of_stOp h0 hst
    exact head_first h0 (Region.noSelect_spec hsel) hs hc hn hkn (fun listed' a' hL => hBr _ hL.1) l.length listed a inv (Region.free_spec h0 hf) hr' hy
      (head_lex hsel hs hc hn hBr l (k + 1) _ _ (fun j hj => by have := hl (j + 1) (by simp; omega); simpa [Nat.add_assoc, Nat.add_comm 1 j] using this) (by simp only [List.length_cons] at hk; omega) (inv.set hr' hkn) hB' hK)

/-- The n-th operation stands alone; those ahead of it and those behind it may be done in the text's order. -/
def midB (md : Region.Mode) (ops : Array Oper) (n : Nat) : Bool :=
  Region.noSelect ops && decide (n < ops.size) && Region.sinkB md ops n && behindB md ops n &&
    headB md ops (fun listed => (Region.ready md ops listed == [n]) && Region.lexFrom md ops (ops.size - (n + 1)) (n + 1) (listed.setIfInBounds n true)) n 0 (Array.replicate ops.size false)

theorem wp_region_mid {id : Nat} {Q : Exit → Act → World → Prop} {a : Act} {l : List Oper} (n : Nat) (hm : P.follows .mixedOrders = true) (hB : midB .any l.toArray n = true)
    (h : wpStill P l.toArray { w with drawn := w.drawn + 1 } (fun a' => wpOp P l.toArray Q n (fun a2 w2 => wpStill P l.toArray w2 (fun a3 => Q .normal a3 w2) (l.drop (n + 1)) a2) a' { w with drawn := w.drawn + 1 }) (l.take n) a) :
    (Code.region id l.toArray true).wp P Q a w := by
  simp only [midB, Bool.and_eq_true, decide_eq_true_eq] at hB
  obtain ⟨⟨⟨⟨hsel, hn⟩, hs⟩, hc⟩, hlex⟩ := hB
  have hn' : n < l.length := by simpa using hn
  have htl : (l.take n).length = n := by simp; omega
  have hdl : (l.drop (n + 1)).length = l.toArray.size - (n + 1) := by simp
  have inv0 : HeadInv .any l.toArray n (Array.replicate l.toArray.size false) :=
    ⟨by simp, fun j oj _ hl => (by rw [getD_replicate_false] at hl; cases hl), fun t _ ht => getD_in (by simpa using ht) (getD_replicate_false _ _)⟩
  have H := head_lex (md := .any) hsel hs hc hn (B := fun listed => (Region.ready .any l.toArray listed == [n]) && Region.lexFrom .any l.toArray (l.toArray.size - (n + 1)) (n + 1) (listed.setIfInBounds n true)) (fun listed hb j hj => by
    simp only [Bool.and_eq_true, beq_iff_eq] at hb
    rw [hb.1] at hj
    have : j = n := by simpa using hj
    omega) (l.take n) 0 _ a (fun j hj => by
    have hj' : j < n := by rw [htl] at hj; exact hj
    simp [hj']) (by simpa using htl) inv0 (by rw [htl]; exact hlex) h
  refine wp_region_any hm ?_
  have := wpAny_of_head (Q' := Q) (g := l.toArray.size - n) (fun listed a' hL => by
    obtain ⟨hb, hq⟩ := hL
    rw [Bool.and_eq_true, beq_iff_eq] at hb
    rw [show l.toArray.size - n = (l.toArray.size - (n + 1)) + 1 by omega]
    refine ⟨fun h0 => (by rw [hb.1] at h0; cases h0), fun i hi => ?_⟩
    rw [hb.1] at hi
    obtain rfl : i = n := by simpa using hi
    refine wpOp_mono (fun a2 w2 h2 => ?_) hq
    have h3 := wpAnyS_lex (md := .any) hsel (l.drop (i + 1)) (i + 1) (listed.setIfInBounds i true) a2 (fun j => by simp [List.getElem?_drop]) (by rw [hdl]; exact hb.2) h2
    rw [hdl] at h3
    exact wpAny_of_still (fun a4 h4 => h4) _ _ _ h3) _ _ _ H
  rw [htl, show n + (l.toArray.size - n) = l.toArray.size by omega] at this
  exact this
end

theorem wp_other {P : Program} {o : Oper} {a : Act} {w : World} {K K' : Act → World → Prop} {Q Q' : Exit → Act → World → Prop} (h : ∀ a w, K a w → K' a w) (hq : ∀ e a w, e ≠ .normal → ¬ Q e a w)
    (hh : o.wp P a w K Q) : o.wp P a w K' Q' := by
  unfold Oper.wp at *
  generalize (execOp a.eval o).run P w = r at *
  cases r with
  | ok n w' =>
    cases n <;> simp only [Oper.upon] at hh ⊢ <;>
      first
        | exact h _ _ hh
        | exact Calls.mono hh (fun e w'' he => by
            cases e with
            | returned v => exact h _ _ he
            | panicked c => exact absurd he (hq _ _ _ (by simp))
            | outgrown => obtain ⟨a2, w2, h2⟩ := he; exact absurd h2 (hq _ _ _ (by simp)))
        | exact Rows.mono hh (fun _ _ he => h _ _ he)
  | halt x w' => cases x <;> simp only [Oper.upon] at hh ⊢ <;> exact absurd hh (hq _ _ _ (by simp))

section
variable {P : Program} {N : Fm} {Fin : Post} {k : List Kn} {E : Env} {M : Mem}

theorem W_region_mid {id : Nat} {l : List Oper} (n : Nat) (hm : P.follows .mixedOrders = true) (hB : midB .any l.toArray n = true)
    (h : OS false P N l (fun E' => WO false P N (fun e E2 M2 => e = .normal ∧ OS false P N l (fun E3 => G false P N Fin .normal k E3 M2) (l.drop (n + 1)) E2 M2) l ((l.drop n).take 1) [] E' M) (l.take n) E M) :
    W false P N Fin (.region id l.toArray true) k E M := by
  refine ⟨⟨fun base w0 a w hA hS => ?_⟩⟩
  have hn : n < l.length := by simp only [midB, Bool.and_eq_true, decide_eq_true_eq] at hB; simpa using hB.1.1.1.2
  refine wp_region_mid n hm hB (wpStill_mono (fun a' ⟨E', k1, k2⟩ => ?_) _ _ (h.out base w0 a { w with drawn := w.drawn + 1 } hA hS.drew))
  have h1 := k2.out.out base w0 a' _ k1 hS.drew
  have hone : (l.drop n).take 1 = [l[n]] := by rw [List.drop_eq_getElem_cons hn]; rfl
  rw [hone] at h1
  unfold wpOp
  rw [show l.toArray[n]? = some l[n] by simp [hn]]
  have key : ∀ a2 w2, wpList P l.toArray (Lift false base N w0 (post false P N (fun e E2 M2 => e = .normal ∧ OS false P N l (fun E3 => G false P N Fin .normal k E3 M2) (l.drop (n + 1)) E2 M2) [])) [] a2 w2 →
      wpStill P l.toArray w2 (fun a3 => Lift false base N w0 (post false P N Fin k) .normal a3 w2) (l.drop (n + 1)) a2 := by
    intro a2 w2 h2
    obtain ⟨E2, M2, hA2, hS2, _, h3⟩ := h2
    exact wpStill_mono (fun a3 ⟨E3, k3, k4⟩ => ⟨E3, M2, k3, hS2, k4.out⟩) _ _ (h3.out base w0 a2 w2 hA2 hS2)
  unfold wpList at h1
  have hno : ∀ e a w, e ≠ .normal → ¬ Lift false base N w0 (post false P N (fun e E2 M2 => e = .normal ∧ OS false P N l (fun E3 => G false P N Fin .normal k E3 M2) (l.drop (n + 1)) E2 M2) []) e a w := by
    rintro e a w hne ⟨E2, M2, _, _, h3, _⟩
    exact hne h3
  dsimp only
  split
  · rename_i hw
    rw [if_pos hw] at h1
    rcases h1 with h1 | ⟨_, a2, w2, h2⟩
    · exact .inl (wp_other key hno h1)
    · exact absurd h2 (hno _ _ _ (by simp))
  · rename_i hw
    rw [if_neg hw] at h1
    exact key _ _ h1

/-- A loop of at most one round, and the end's test. -/
theorem W_rounds2 {pr : Bool} {c : Code} (h : W pr P N Fin c (.stop (fun E1 M1 => W pr P N Fin c (.stop (fun _ _ => False) :: k) E1 M1) :: k) E M) : W pr P N Fin (.loop c) k E M := by
  refine ⟨⟨fun base w0 a w hA hS => wp_loop_rounds 2 ?_⟩⟩
  rw [rounds_succ]
  refine wp_mono (h.out.out base w0 a w hA hS) ?_
  rintro e a' w' ⟨E', M', h1, h2, h3⟩
  cases e with
  | normal =>
    show Code.rounds P c _ 1 a' w'
    rw [rounds_succ]
    have h4 : W pr P N Fin c (.stop (fun _ _ => False) :: k) E' M' := h3
    refine wp_mono (h4.out.out base w0 a' w' h1 h2) ?_
    rintro e a2 w2 ⟨E2, M2, k1, k2, k3⟩
    cases e with
    | normal => exact False.elim k3
    | _ => exact ⟨E2, M2, k1, k2, k3⟩
  | _ => exact ⟨E', M', h1, h2, h3⟩
end
end Go.Proofs.Ytjkpfliaflmppaa.Vm
