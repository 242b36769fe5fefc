/- The LMS places are thrown to the ends of their letters' parts at first. No condition. -/
import Derived.Test.YtcibehgcibojnaaW4x12

namespace Go.Proofs.Ytcibehgcibojnaa.Sais
open Go.Proofs.Ytcibehgcibojnaa.Vm Classical
theorem lmsF_split (T : List Nat) (f : Nat) : ∀ (d : Nat), ∃ pre, lmsF T f = pre ++ lmsF T (f + d)
  | 0 => ⟨[], rfl⟩
  | d + 1 => by
    obtain ⟨pre, h⟩ := lmsF_split T f d
    by_cases hl : Lms T (f + d)
    · exact ⟨pre ++ [f + d], by rw [h, lmsF_cons hl, List.append_assoc]; rfl⟩
    · exact ⟨pre, by rw [h, lmsF_skip hl]; rfl⟩
theorem lcn_append (T : List Nat) (a b : List Nat) (c : Nat) : lcn T (a ++ b) c = lcn T a c + lcn T b c := by
  unfold lcn
  rw [List.countP_append]
theorem lmsF_nodup (T : List Nat) (f : Nat) : (lmsF T f).Nodup := List.nodup_iff_pairwise_ne.2 ((lmsF_sorted T f).imp fun h => Nat.ne_of_lt h)
theorem lmsF_room (T : List Nat) (f c : Nat) : lcn T (lmsF T f) c ≤ bsz T c (sb T) := lcn_le (lmsF_nodup T f) (fun x hx => (lmsF_mem.1 hx).2) c
noncomputable def sl (T : List Nat) (x : Nat) : Nat := bst T (ch T x + 1) - 1 - lcn T (lmsF T (x + 1)) (ch T x)
theorem sl_room {T : List Nat} {x : Nat} (hx : Lms T x) : lcn T (lmsF T (x + 1)) (ch T x) + 1 ≤ bsz T (ch T x) (sb T) := by
  have h1 := lmsF_room T x (ch T x)
  rw [lmsF_cons hx, lcn_cons, if_pos rfl] at h1
  exact h1
theorem bst_sb (T : List Nat) (c : Nat) : bst T (c + 1) = bst T c + bsz T c (lb T) + bsz T c (sb T) := bst_succ T c (lb T)
theorem sl_in {T : List Nat} {x : Nat} (hx : Lms T x) : bst T (ch T x) + bsz T (ch T x) (lb T) ≤ sl T x ∧ sl T x < bst T (ch T x + 1) := by
  have h1 := sl_room hx
  have h2 := bst_sb T (ch T x)
  unfold sl
  omega
theorem sl_lt_n {T : List Nat} {x : Nat} (hx : Lms T x) : sl T x < T.length := Nat.lt_of_lt_of_le (sl_in hx).2 (bst_le T _)
theorem sl_lt {T : List Nat} {x y : Nat} (hx : Lms T x) (hy : Lms T y) (hxy : x < y) (hc : ch T x = ch T y) : sl T x < sl T y := by
  have h1 := sl_room hx
  have h2 := sl_room hy
  have h3 := bst_sb T (ch T x)
  obtain ⟨pre, hp⟩ := lmsF_split T (x + 1) (y - (x + 1))
  rw [show x + 1 + (y - (x + 1)) = y by omega, lmsF_cons hy] at hp
  have h4 : lcn T (lmsF T (x + 1)) (ch T x) = lcn T pre (ch T x) + (lcn T (lmsF T (y + 1)) (ch T x) + 1) := by rw [hp, lcn_append, lcn_cons, if_pos hc.symm]
  unfold sl
  rw [← hc] at *
  omega
theorem sl_inj {T : List Nat} {x y : Nat} (hx : Lms T x) (hy : Lms T y) (h : sl T x = sl T y) : x = y := by
  have h1 := sl_in hx
  have h2 := sl_in hy
  have hc : ch T x = ch T y := by
    refine Classical.byContradiction fun hn => ?_
    rcases Nat.lt_or_gt_of_ne hn with k | k
    · have := bst_mono T (show ch T x + 1 ≤ ch T y from k); omega
    · have := bst_mono T (show ch T y + 1 ≤ ch T x from k); omega
  rcases Nat.lt_trichotomy x y with k | k | k
  · have := sl_lt hx hy k hc; omega
  · exact k
  · have := sl_lt hy hx k hc.symm; omega
structure Hit (T S : List Nat) (SA : List Int) : Prop where
  len : SA.length = T.length
  lms : ∀ x ∈ S, Lms T x
  hit : ∀ x ∈ S, rd SA (sl T x : Int) = (x : Int) - 1
  miss : ∀ p, p < T.length → (∀ x ∈ S, sl T x ≠ p) → rd SA (p : Int) = 0
theorem Hit.bound {T S : List Nat} {SA : List Int} (h : Hit T S SA) {p : Nat} (hp : p < T.length) : 0 ≤ rd SA (p : Int) ∧ rd SA (p : Int) ≤ T.length := by
  by_cases hx : ∃ x ∈ S, sl T x = p
  · obtain ⟨x, h1, rfl⟩ := hx
    have := h.hit x h1
    have h2 := h.lms x h1
    have := lms_lt h2
    have := h2.1
    omega
  · have := h.miss p hp fun x h1 e => hx ⟨x, h1, e⟩
    omega
structure Scn (T : List Nat) (k f : Nat) (SA B : List Int) (b j : Int) : Prop where
  cells : Hit T (lmsF T f).tail SA
  Bl : B.length = k
  Bv : ∀ c, c < k → rd B (c : Int) = (bst T (c + 1) : Int) - (lcn T (lmsF T f) c : Nat)
  nil : lmsF T f = [] → b = -1
  cons : ∀ h r, lmsF T f = h :: r → b = (sl T h : Nat) ∧ j = (h : Int) - 1
theorem Scn.start {T : List Nat} {k : Nat} {SA B : List Int} (hl : SA.length = T.length) (h0 : ∀ p, p < T.length → rd SA (p : Int) = 0) (hB : EndsTo T k k B) (j : Int) : Scn T k (T.length - 1) SA B (-1) j := by
  have he := lmsF_end T
  refine ⟨⟨hl, by rw [he]; simp, by rw [he]; simp, fun p hp _ => h0 p hp⟩, hB.1, fun c hc => ?_, fun _ => rfl, fun h r e => by rw [he] at e; cases e⟩
  rw [hB.2 c hc, he]
  simp [lcn]
theorem Scn.same {T : List Nat} {k f f' : Nat} {SA B : List Int} {b j : Int} (h : Scn T k f SA B b j) (hf : lmsF T f' = lmsF T f) : Scn T k f' SA B b j := ⟨by rw [hf]; exact h.cells, h.Bl, by rw [hf]; exact h.Bv, by rw [hf]; exact h.nil, by rw [hf]; exact h.cons⟩
theorem Scn.step {T : List Nat} {k f e : Nat} {SA B : List Int} {b j : Int} (hk : ∀ y, ch T y < k) (h : Scn T k f SA B b j) (he : Lms T e) (hf : lmsF T e = e :: lmsF T f) :
    rd B (ch T e : Nat) - 1 = (sl T e : Nat) ∧ ((b < 0 ∧ ∀ j', j' = (e : Int) - 1 → Scn T k e SA (wr B (ch T e : Nat) (sl T e : Nat)) (sl T e : Nat) j') ∨
      (0 ≤ b ∧ b < T.length ∧ 0 ≤ j ∧ j < T.length ∧ ∀ j', j' = (e : Int) - 1 → Scn T k e (wr SA b j) (wr B (ch T e : Nat) (sl T e : Nat)) (sl T e : Nat) j')) := by
  have htl : lmsF T (e + 1) = lmsF T f := lmsF_tail he hf
  have hse : rd B (ch T e : Nat) - 1 = (sl T e : Nat) := by
    rw [h.Bv _ (hk e)]
    have h1 := sl_room he
    have h2 := bst_sb T (ch T e)
    unfold sl
    rw [htl] at h1 ⊢
    omega
  have hBv : ∀ c, c < k → rd (wr B (ch T e : Nat) (sl T e : Nat)) (c : Int) = (bst T (c + 1) : Int) - (lcn T (lmsF T e) c : Nat) := fun c hc => by
    rw [rd_wr (by rw [h.Bl]; exact hk e), hf, lcn_cons]
    by_cases e2 : c = ch T e
    · rw [if_pos e2, if_pos e2.symm, e2, ← hse, h.Bv _ (hk e)]; omega
    · rw [if_neg e2, if_neg (Ne.symm e2), h.Bv c hc]; rfl
  have hcons : ∀ j', j' = (e : Int) - 1 → ∀ h r, lmsF T e = h :: r → ((sl T e : Nat) : Int) = (sl T h : Nat) ∧ j' = (h : Int) - 1 := fun j' hj' h' r e2 => by
    rw [hf] at e2
    obtain ⟨rfl, _⟩ := List.cons.inj e2
    exact ⟨rfl, hj'⟩
  refine ⟨hse, ?_⟩
  cases hl : lmsF T f with
  | nil =>
    refine .inl ⟨by rw [h.nil hl]; omega, fun j' hj' => ⟨?_, by rw [wr_length]; exact h.Bl, hBv, fun e2 => (by rw [hf] at e2; cases e2), hcons j' hj'⟩⟩
    rw [hf]
    have := h.cells
    rw [hl] at this
    simpa [hl] using this
  | cons x r =>
    obtain ⟨hb, hj⟩ := h.cons x r hl
    have hx : Lms T x := (lmsF_mem.1 (show x ∈ lmsF T f by rw [hl]; exact List.mem_cons_self)).2
    have hxn := lms_lt hx
    have hsx := sl_lt_n hx
    refine .inr ⟨by omega, by omega, by have := hx.1; omega, by omega, fun j' hj' => ⟨?_, by rw [wr_length]; exact h.Bl, hBv, fun e2 => (by rw [hf] at e2; cases e2), hcons j' hj'⟩⟩
    rw [hf, hb, hj]
    show Hit T (lmsF T f) _
    have hc := h.cells
    rw [hl] at hc
    have hc : Hit T r SA := hc
    have hlm : ∀ y ∈ lmsF T f, Lms T y := fun y hy => (lmsF_mem.1 hy).2
    rw [hl] at hlm ⊢
    have hr : ∀ p : Nat, rd (wr SA (sl T x : Nat) ((x : Int) - 1)) (p : Int) = if p = sl T x then (x : Int) - 1 else rd SA p := fun p => rd_wr (by rw [hc.len]; exact hsx)
    have hnd := lmsF_nodup T f
    rw [hl] at hnd
    refine ⟨by rw [wr_length]; exact hc.len, hlm, fun y hy => ?_, fun p hp hm => ?_⟩
    · rw [hr]
      rcases List.mem_cons.1 hy with rfl | hy2
      · rw [if_pos rfl]
      · have hne : y ≠ x := fun e2 => (List.nodup_cons.1 hnd).1 (e2 ▸ hy2)
        rw [if_neg (fun e2 => hne (sl_inj (hlm y hy) hx e2))]
        exact hc.hit y hy2
    · rw [hr, if_neg (fun e2 => hm x List.mem_cons_self e2.symm)]
      exact hc.miss p hp fun y hy => hm y (List.mem_cons_of_mem _ hy)
noncomputable def Gof (T S : List Nat) (p : Nat) : Option Nat := if h : ∃ x, x ∈ S ∧ sl T x = p then some (Classical.choose h) else none
theorem Gof_iff {T S : List Nat} (hS : ∀ x ∈ S, Lms T x) {p x : Nat} : Gof T S p = some x ↔ x ∈ S ∧ sl T x = p := by
  unfold Gof
  by_cases h : ∃ x, x ∈ S ∧ sl T x = p
  · rw [dif_pos h]
    obtain ⟨h1, h2⟩ := Classical.choose_spec h
    constructor
    · intro e
      rw [← Option.some.inj e]; exact ⟨h1, h2⟩
    · rintro ⟨h3, h4⟩
      rw [sl_inj (hS _ h1) (hS _ h3) (by rw [h2, h4])]
  · rw [dif_neg h]
    constructor
    · intro e; cases e
    · intro h2; exact absurd ⟨x, h2⟩ h
theorem Gof_good {T S : List Nat} (hS : ∀ x ∈ S, Lms T x) : GoodG T (Gof T S) where
  st p y hy := by
    obtain ⟨h1, rfl⟩ := (Gof_iff hS).1 hy
    exact ⟨(hS y h1).2.1, sl_in (hS y h1)⟩
  inj p q y hp hq := by
    obtain ⟨_, h1⟩ := (Gof_iff hS).1 hp
    obtain ⟨_, h2⟩ := (Gof_iff hS).1 hq
    omega
theorem Hit.cel1 {T S : List Nat} {SA : List Int} (h : Hit T S SA) : Cel0 T E1L (Gof T S) SA := by
  refine ⟨h.len, fun p hp => ?_⟩
  cases hg : Gof T S p with
  | none =>
    exact h.miss p hp fun x hx e => by
      rw [(Gof_iff h.lms).2 ⟨hx, e⟩] at hg
      cases hg
  | some x =>
    obtain ⟨h1, h2⟩ := (Gof_iff h.lms).1 hg
    have h3 := h.hit x h1
    rw [h2] at h3
    simp only [E1L, if_neg (h.lms x h1).2.2, Bool.false_eq_true, if_false]
    exact h3
theorem tail_seeds (T : List Nat) : Seeds1 T (Gof T (lmsF T 0).tail) := by
  have hS : ∀ x ∈ (lmsF T 0).tail, Lms T x := fun x hx => (lmsF_mem.1 (List.mem_of_mem_tail hx)).2
  refine ⟨Gof_good hS, fun p y hy => hS y ((Gof_iff hS).1 hy).1, fun y z hy hz hzy => ⟨sl T y, (Gof_iff hS).2 ⟨?_, rfl⟩⟩⟩
  have h1 := lmsF_mem.2 ⟨Nat.zero_le y, hy⟩
  have h2 := lmsF_mem.2 ⟨Nat.zero_le z, hz⟩
  have h3 := lmsF_sorted T 0
  cases hl : lmsF T 0 with
  | nil => rw [hl] at h1; simp at h1
  | cons a r =>
    rw [hl] at h1 h2 h3
    rcases List.mem_cons.1 h1 with rfl | h4
    · rcases List.mem_cons.1 h2 with rfl | h5
      · omega
      · have := (List.pairwise_cons.1 h3).1 z h5; omega
    · exact h4
theorem few_seeds {T : List Nat} {SA : List Int} (hl : SA.length = T.length) (hS : (lmsF T 0).length ≤ 1) (hit : ∀ x ∈ lmsF T 0, rd SA (sl T x : Int) = (x : Int)) (miss : ∀ p, p < T.length → (∀ x ∈ lmsF T 0, sl T x ≠ p) → rd SA (p : Int) = 0) : ∃ G, Seeds T G ∧ Cel0 T E3L G SA := by
  have hlm : ∀ x ∈ lmsF T 0, Lms T x := fun x hx => (lmsF_mem.1 hx).2
  refine ⟨Gof T (lmsF T 0), ⟨Gof_good hlm, fun p y hy => hlm y ((Gof_iff hlm).1 hy).1, fun y hy => ⟨sl T y, (Gof_iff hlm).2 ⟨lmsF_mem.2 ⟨Nat.zero_le _, hy⟩, rfl⟩⟩, fun p q x y hpq hx hy => ?_⟩, hl, fun p hp => ?_⟩
  · obtain ⟨h1, h2⟩ := (Gof_iff hlm).1 hx
    obtain ⟨h3, h4⟩ := (Gof_iff hlm).1 hy
    have : x = y := by
      cases hl2 : lmsF T 0 with
      | nil => rw [hl2] at h1; simp at h1
      | cons a r =>
        rw [hl2] at hS h1 h3
        have : r = [] := List.eq_nil_of_length_eq_zero (by simp only [List.length_cons] at hS; omega)
        subst this
        rw [List.mem_singleton] at h1 h3
        rw [h1, h3]
    subst this
    omega
  · cases hg : Gof T (lmsF T 0) p with
    | none =>
      show rd SA (p : Int) = if false = true then -1 else 0
      rw [if_neg (by decide)]
      exact miss p hp fun x hx e => by
        rw [(Gof_iff hlm).2 ⟨hx, e⟩] at hg
        cases hg
    | some x =>
      obtain ⟨h1, h2⟩ := (Gof_iff hlm).1 hg
      have h3 := hit x h1
      rw [h2] at h3
      simp only [E3L, if_neg (show ¬ (0 < x ∧ St T (x - 1)) from fun h => (hlm x h1).2.2 h.2), Bool.false_eq_true, if_false]
      exact h3
def fsl (T S : List Nat) (c : Nat) : Nat := bst T (c + 1) - lcn T S c
structure Mrk (T S : List Nat) (i : Nat) (SA0 SA : List Int) : Prop where
  len : SA.length = T.length
  hit : ∀ p, p < T.length → rd SA (p : Int) = rd SA0 (p : Int) + mn T.length (decide (∃ c, c < i ∧ lcn T S c ≠ 0 ∧ p = fsl T S c))
theorem fsl_in {T S : List Nat} (hn : S.Nodup) (hS : ∀ x ∈ S, Lms T x) {c : Nat} (h : lcn T S c ≠ 0) : bst T c + bsz T c (lb T) ≤ fsl T S c ∧ fsl T S c < bst T (c + 1) := by
  have h1 := lcn_le hn hS c
  have h2 := bst_sb T c
  unfold fsl
  omega
theorem fsl_inj {T S : List Nat} (hn : S.Nodup) (hS : ∀ x ∈ S, Lms T x) {c d : Nat} (hc : lcn T S c ≠ 0) (hd : lcn T S d ≠ 0) (h : fsl T S c = fsl T S d) : c = d := by
  have h1 := fsl_in hn hS hc
  have h2 := fsl_in hn hS hd
  rcases Nat.lt_trichotomy c d with k | k | k
  · have := bst_mono T (show c + 1 ≤ d from k); omega
  · exact k
  · have := bst_mono T (show d + 1 ≤ c from k); omega
theorem Mrk.start {T S : List Nat} {SA : List Int} (hl : SA.length = T.length) : Mrk T S 0 SA SA := ⟨hl, fun p _ => by rw [decide_eq_false (fun ⟨c, h, _⟩ => by omega), mn_false, Int.add_zero]⟩
theorem Mrk.step {T S : List Nat} (hn : S.Nodup) (hS : ∀ x ∈ S, Lms T x) {i : Nat} {SA0 SA : List Int} (h : Mrk T S i SA0 SA) :
    (lcn T S i = 0 ∧ Mrk T S (i + 1) SA0 SA) ∨ (lcn T S i ≠ 0 ∧ fsl T S i < T.length ∧ rd SA (fsl T S i : Int) = rd SA0 (fsl T S i : Int) ∧ Mrk T S (i + 1) SA0 (wr SA (fsl T S i : Nat) (rd SA (fsl T S i : Nat) + T.length))) := by
  by_cases hi : lcn T S i = 0
  · refine .inl ⟨hi, h.len, fun p hp => ?_⟩
    rw [h.hit p hp]
    congr 2
    rw [decide_eq_decide]
    constructor
    · rintro ⟨c, h1, h2⟩; exact ⟨c, by omega, h2⟩
    · rintro ⟨c, h1, h2, h3⟩
      exact ⟨c, by
        have : c ≠ i := fun e => h2 (e ▸ hi)
        omega, h2, h3⟩
  · have h1 := fsl_in hn hS hi
    have h2 := bst_le T (i + 1)
    have h3 := h.hit (fsl T S i) (by omega)
    rw [decide_eq_false (fun ⟨c, k1, k2, k3⟩ => by have := fsl_inj hn hS hi k2 k3; omega), mn_false, Int.add_zero] at h3
    refine .inr ⟨hi, by omega, h3, by rw [wr_length]; exact h.len, fun p hp => ?_⟩
    rw [rd_wr (by rw [h.len]; omega)]
    by_cases e : p = fsl T S i
    · rw [if_pos e, e, h3, decide_eq_true ⟨i, by omega, hi, rfl⟩, mn_true]
    · rw [if_neg e, h.hit p hp]
      congr 2
      rw [decide_eq_decide]
      constructor
      · rintro ⟨c, h1, h2⟩; exact ⟨c, by omega, h2⟩
      · rintro ⟨c, h1, h2, h3⟩
        exact ⟨c, by
          have : c ≠ i := fun e2 => e (by rw [h3, e2])
          omega, h2, h3⟩
theorem Mrk.cel2 {T : List Nat} {k f : Nat} {SA0 SA : List Int} (hk : ∀ y, ch T y < k) (h0 : Hit T (lmsF T f) SA0) (h : Mrk T (lmsF T f) k SA0 SA) : Cel2 T (Gof T (lmsF T f)) SA := by
  have hlm := h0.lms
  have hnd := lmsF_nodup T f
  have hc1 := h0.cel1
  have hsplit : ∀ x ∈ lmsF T f, ∃ pre, lmsF T f = pre ++ x :: lmsF T (x + 1) := fun x hx => by
    have h1 := (lmsF_mem.1 hx).1
    obtain ⟨pre, hp⟩ := lmsF_split T f (x - f)
    rw [show f + (x - f) = x by omega, lmsF_cons (hlm x hx)] at hp
    exact ⟨pre, hp⟩
  have hge : ∀ x ∈ lmsF T f, lcn T (lmsF T f) (ch T x) ≠ 0 ∧ fsl T (lmsF T f) (ch T x) ≤ sl T x := fun x hx => by
    obtain ⟨pre, hp⟩ := hsplit x hx
    have h1 : lcn T (lmsF T f) (ch T x) = lcn T pre (ch T x) + (lcn T (lmsF T (x + 1)) (ch T x) + 1) := by
      rw [hp, lcn_append, lcn_cons, if_pos rfl]
    unfold fsl sl
    omega
  refine ⟨h.len, fun p => decide (∃ c, c < k ∧ lcn T (lmsF T f) c ≠ 0 ∧ p = fsl T (lmsF T f) c), fun p x hx => ?_, fun p hp => ?_⟩
  · obtain ⟨h1, rfl⟩ := (Gof_iff hlm).1 hx
    obtain ⟨h2, h3⟩ := hge x h1
    rw [decide_eq_true_iff]
    constructor
    · rintro ⟨c, k1, k2, k3⟩ p' x' hp' hx' e
      obtain ⟨h4, rfl⟩ := (Gof_iff hlm).1 hx'
      have h5 := (hge x' h4).2
      have hcx : c = ch T x := by
        have h6 := fsl_in hnd hlm k2
        have h7 := sl_in (hlm x h1)
        rcases Nat.lt_trichotomy c (ch T x) with k | k | k
        · have := bst_mono T (show c + 1 ≤ ch T x from k); omega
        · exact k
        · have := bst_mono T (show ch T x + 1 ≤ c from k); omega
      rw [e, ← hcx] at h5
      omega
    · intro hall
      refine ⟨ch T x, hk x, h2, Classical.byContradiction fun hne => ?_⟩
      obtain ⟨pre, hp⟩ := hsplit x h1
      have h4 : lcn T (lmsF T f) (ch T x) = lcn T pre (ch T x) + (lcn T (lmsF T (x + 1)) (ch T x) + 1) := by
        rw [hp, lcn_append, lcn_cons, if_pos rfl]
      have h5 : lcn T pre (ch T x) ≠ 0 := fun e => hne (by unfold fsl sl at *; omega)
      unfold lcn at h5
      obtain ⟨y, hy, hyc⟩ := List.countP_pos_iff.1 (Nat.pos_of_ne_zero h5)
      have hyc := of_decide_eq_true hyc
      have hyS : y ∈ lmsF T f := by rw [hp]; exact List.mem_append_left _ hy
      have hyx : y < x := by
        have hs := lmsF_sorted T f
        rw [hp] at hs
        exact (List.pairwise_append.1 hs).2.2 y hy x List.mem_cons_self
      exact hall (sl T y) y (sl_lt (hlm y hyS) (hlm x h1) hyx hyc) ((Gof_iff hlm).2 ⟨hyS, rfl⟩) hyc
  · have h1 := hc1.2 p hp
    have h2 := h.hit p hp
    cases hg : Gof T (lmsF T f) p with
    | none =>
      rw [hg] at h1
      have h1 : rd SA0 (p : Int) = 0 := h1
      show rd SA (p : Int) = 0
      rw [h2, h1, decide_eq_false, mn_false]
      · rfl
      · rintro ⟨c, k1, k2, k3⟩
        have : ∃ y, y ∈ lmsF T f ∧ sl T y = p := by
          have hc : 0 < lcn T (lmsF T f) c := Nat.pos_of_ne_zero k2
          unfold lcn at hc
          obtain ⟨y0, hy0, hyc0⟩ := List.countP_pos_iff.1 hc
          obtain ⟨r, _, ⟨hr1, hr2⟩, hr3⟩ := least (fun y => y ∈ lmsF T f ∧ ch T y = c) y0 ⟨hy0, of_decide_eq_true hyc0⟩
          refine ⟨r, hr1, ?_⟩
          obtain ⟨pre, hp⟩ := hsplit r hr1
          have h4 : lcn T (lmsF T f) c = lcn T pre c + (lcn T (lmsF T (r + 1)) c + 1) := by
            rw [hp, lcn_append, lcn_cons, if_pos hr2]
          have h5 : lcn T pre c = 0 := by
            unfold lcn
            rw [List.countP_eq_zero]
            intro y hy hyc
            have hs := lmsF_sorted T f
            rw [hp] at hs
            have := (List.pairwise_append.1 hs).2.2 y hy r List.mem_cons_self
            exact hr3 y this ⟨by rw [hp]; exact List.mem_append_left _ hy, of_decide_eq_true hyc⟩
          rw [k3]
          unfold sl fsl
          rw [hr2]
          omega
        obtain ⟨y, hy1, hy2⟩ := this
        rw [(Gof_iff hlm).2 ⟨hy1, hy2⟩] at hg
        cases hg
    | some x =>
      rw [hg] at h1
      obtain ⟨g1, _⟩ := (Gof_iff hlm).1 hg
      have h1 : rd SA0 (p : Int) = (x : Int) - 1 := by simpa only [E1L, if_neg (hlm x g1).2.2, Bool.false_eq_true, if_false] using h1
      simp only [E2L, if_neg (hlm x g1).2.2, Bool.false_eq_true, if_false]
      rw [h2, h1]
end Go.Proofs.Ytcibehgcibojnaa.Sais
