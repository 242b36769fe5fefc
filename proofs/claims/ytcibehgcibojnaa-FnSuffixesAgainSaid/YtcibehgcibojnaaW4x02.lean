/- The machine held as lists of numbers: cells, and where each letter's next place is. No condition. Rounds of the two passes of the first sorting, and of the last one, told by the cells. No condition. Counts of letters, and where each letter's part begins and ends. No condition. The engine's rules for operations that write, make memory or call. No condition. -/
import Derived.Test.YtcibehgcibojnaaW4x00
import Derived.Test.YtcibehgcibojnaaW4x01

namespace Go.Proofs.Ytcibehgcibojnaa.Sais
open Go.Proofs.Ytcibehgcibojnaa.Vm Classical
theorem rd_wr {l : List Int} {p q : Nat} {v : Int} (hp : p < l.length) : rd (wr l (p : Int) v) (q : Int) = if q = p then v else rd l (q : Int) := by
  unfold rd wr
  simp only [Int.toNat_natCast, List.getD_eq_getElem?_getD, List.getElem?_set]
  by_cases h : p = q
  · subst h; simp [hp]
  · rw [if_neg h, if_neg (Ne.symm h)]
theorem rd_ch (T : List Nat) (j : Nat) : rd (T.map Nat.cast) (j : Int) = (ch T j : Nat) := by
  unfold rd ch
  rw [Int.toNat_natCast]
  by_cases h : j < T.length
  · simp [h]
  · simp [List.getElem?_eq_none (show T.length ≤ j by omega)]
theorem rd_ch' (T : List Nat) (z : Int) : rd (T.map Nat.cast) z = (ch T z.toNat : Nat) := rd_ch T z.toNat
def Cel (n : Nat) (pl : Nat → Nat) (E : Bool → Option Nat → Int → Prop) (i : Nat) (s : Ms) (SA : List Int) : Prop :=
  SA.length = n ∧ ∀ q, q < n → E (decide (q < i)) (s.A q) (rd SA (pl q : Nat))
theorem Cel.put {n : Nat} {pl : Nat → Nat} {E : Bool → Option Nat → Int → Prop} {i : Nat} {s : Ms} {SA SA' : List Int} (h : Cel n pl E i s SA) {l : Nat → Nat} {y q : Nat} (hq : s.P (l y) = q) (hqi : i < q) {val vis : Int}
    (hl : SA'.length = n) (hr : ∀ p, p < n → rd SA' (pl p : Nat) = if p = q then val else if p = i then vis else rd SA (pl p : Nat)) (h1 : E false (some y) val) (h2 : E true (s.A i) vis) : Cel n pl E (i + 1) (Sais.put l s y) SA' := by
  refine ⟨hl, fun p hp => ?_⟩
  rw [hr p hp]
  show E _ (if p = s.P (l y) then some y else s.A p) _
  rw [hq]
  by_cases e : p = q
  · subst e
    rw [if_pos rfl, if_pos rfl, decide_eq_false (by omega)]
    exact h1
  · rw [if_neg e, if_neg e]
    by_cases e2 : p = i
    · subst e2
      rw [if_pos rfl, decide_eq_true (by omega)]
      exact h2
    · rw [if_neg e2]
      have := h.2 p hp
      rw [show decide (p < i + 1) = decide (p < i) by by_cases h : p < i <;> simp [h] <;> omega]
      exact this
theorem Cel.pass {n : Nat} {pl : Nat → Nat} {E : Bool → Option Nat → Int → Prop} {i : Nat} {s : Ms} {SA SA' : List Int} (h : Cel n pl E i s SA) {vis : Int}
    (hl : SA'.length = n) (hr : ∀ p, p < n → rd SA' (pl p : Nat) = if p = i then vis else rd SA (pl p : Nat)) (h2 : E true (s.A i) vis) : Cel n pl E (i + 1) s SA' := by
  refine ⟨hl, fun p hp => ?_⟩
  rw [hr p hp]
  by_cases e2 : p = i
  · subst e2
    rw [if_pos rfl, decide_eq_true (by omega)]
    exact h2
  · rw [if_neg e2]
    have := h.2 p hp
    rw [show decide (p < i + 1) = decide (p < i) by by_cases h : p < i <;> simp [h] <;> omega]
    exact this
def PtL (P : Nat → Nat) (k : Nat) (B : List Int) (b c : Nat) : Prop := B.length = k ∧ c < k ∧ P c = b ∧ ∀ d, d < k → d ≠ c → rd B (d : Int) = (P d : Nat)
theorem PtL.turn {P : Nat → Nat} {k : Nat} {B : List Int} {b c : Nat} (h : PtL P k B b c) {d : Nat} (hd : d < k) (hne : d ≠ c) : rd (wr B (c : Int) (b : Int)) (d : Int) = (P d : Nat) ∧ PtL P k (wr B (c : Int) (b : Int)) (P d) d := by
  obtain ⟨h1, h2, h3, h4⟩ := h
  have key : ∀ e, e < k → rd (wr B (c : Int) (b : Int)) (e : Int) = (P e : Nat) := fun e he => by
    rw [rd_wr (by omega)]
    by_cases e2 : e = c
    · subst e2; rw [if_pos rfl, h3]
    · rw [if_neg e2, h4 e he e2]
  exact ⟨key d hd, by rw [wr_length]; exact h1, hd, rfl, fun e he _ => key e he⟩
theorem PtL.step {P : Nat → Nat} {k : Nat} {B : List Int} {b c : Nat} (h : PtL P k B b c) {l : Nat → Nat} {A : Nat → Option Nat} {c' y : Nat} (hy : l y = c) : PtL (Sais.put l ⟨A, P, c'⟩ y).P k B (b + 1) c := by
  obtain ⟨h1, h2, h3, h4⟩ := h
  refine ⟨h1, h2, ?_, fun d hd hne => ?_⟩
  · show (if c = l y then P c + 1 else P c) = b + 1
    rw [if_pos hy.symm, h3]
  · show rd B d = ((if d = l y then P d + 1 else P d : Nat) : Int)
    rw [if_neg (by rw [hy]; exact hne)]
    exact h4 d hd hne
def PtS (n : Nat) (P : Nat → Nat) (k : Nat) (B : List Int) (b c : Nat) : Prop := B.length = k ∧ c < k ∧ b + P (k - 1 - c) = n ∧ ∀ d, d < k → d ≠ c → rd B (d : Int) + (P (k - 1 - d) : Nat) = n
theorem PtS.turn {n : Nat} {P : Nat → Nat} {k : Nat} {B : List Int} {b c : Nat} (h : PtS n P k B b c) {d : Nat} (hd : d < k) (hne : d ≠ c) (hP : P (k - 1 - d) ≤ n) :
    rd (wr B (c : Int) (b : Int)) (d : Int) = (n - P (k - 1 - d) : Nat) ∧ PtS n P k (wr B (c : Int) (b : Int)) (n - P (k - 1 - d)) d := by
  obtain ⟨h1, h2, h3, h4⟩ := h
  have key : ∀ e, e < k → rd (wr B (c : Int) (b : Int)) (e : Int) + (P (k - 1 - e) : Nat) = n := fun e he => by
    rw [rd_wr (by omega)]
    by_cases e2 : e = c
    · subst e2; rw [if_pos rfl]; omega
    · rw [if_neg e2]; exact h4 e he e2
  have := key d hd
  exact ⟨by omega, by rw [wr_length]; exact h1, hd, by omega, fun e he _ => key e he⟩
theorem PtS.step {n : Nat} {P : Nat → Nat} {k : Nat} {B : List Int} {b c : Nat} (h : PtS n P k B b c) (hb : 1 ≤ b) {l : Nat → Nat} {A : Nat → Option Nat} {c' y : Nat} (hy : l y = k - 1 - c) : PtS n (Sais.put l ⟨A, P, c'⟩ y).P k B (b - 1) c := by
  obtain ⟨h1, h2, h3, h4⟩ := h
  refine ⟨h1, h2, ?_, fun d hd hne => ?_⟩
  · show b - 1 + (if k - 1 - c = l y then P (k - 1 - c) + 1 else P (k - 1 - c)) = n
    rw [if_pos hy.symm]; omega
  · show rd B d + ((if k - 1 - d = l y then P (k - 1 - d) + 1 else P (k - 1 - d) : Nat) : Int) = n
    rw [if_neg (by rw [hy]; omega)]
    exact h4 d hd hne
theorem roundL {T : List Nat} {lo k : Nat} {G : Nat → Option Nat} (hG : GoodG T G) (hk : ∀ y, ch T y < k) {E : Bool → Option Nat → Int → Prop} {i : Nat} {s : Ms} {W : List Wr} {SA B : List Int} {b c : Nat} (h : Iv (ruleL T lo G) i s W)
    (hc : Cel T.length id E i s SA) (hp : PtL s.P k B b c) {v : Nat} (hv : s.A i = some v) (hlo : lo < v) (hL : ¬ St T (v - 1)) :
    ∃ q, q < T.length ∧ i < q ∧ (ch T (v - 1) = c → q = b) ∧ (ch T (v - 1) ≠ c → rd (wr B (c : Int) (b : Int)) (ch T (v - 1) : Nat) = q) ∧
      ∃ W', Iv (ruleL T lo G) (i + 1) (put (ch T) s (v - 1)) W' ∧ (∀ w ∈ W, w ∈ W') ∧ PtL (put (ch T) s (v - 1)).P k (if ch T (v - 1) = c then B else wr B (c : Int) (b : Int)) (q + 1) (ch T (v - 1)) ∧
        ∀ val vis, E false (some (v - 1)) val → E true (some v) vis → ∀ SA' : List Int, SA'.length = T.length → (∀ p, p < T.length → rd SA' (p : Int) = if p = q then val else if p = i then vis else rd SA (p : Int)) → Cel T.length id E (i + 1) (put (ch T) s (v - 1)) SA' := by
  have hR := ruleL_ok T lo G hG
  obtain ⟨h1, h2, h3⟩ := h.put hR hv (decide_eq_true ⟨hlo, hL⟩)
  have h2 : i < s.P (ch T (v - 1)) := h2
  have h3 : s.P (ch T (v - 1)) < bst T (ch T (v - 1)) + bsz T (ch T (v - 1)) (lb T) := h3
  have h4 := bst_succ T (ch T (v - 1)) (lb T)
  have h5 := bst_le T (ch T (v - 1) + 1)
  refine ⟨s.P (ch T (v - 1)), by omega, h2, fun e => ?_, fun e => (hp.turn (hk _) e).1, _, h1, fun w hw => List.mem_append_left _ hw, ?_, ?_⟩
  · rw [e]; exact hp.2.2.1
  · by_cases e : ch T (v - 1) = c
    · rw [if_pos e]
      have := hp.step (l := ch T) (A := s.A) (c' := s.c) e
      rw [e, hp.2.2.1]
      exact this
    · rw [if_neg e]
      exact (hp.turn (hk _) e).2.step (l := ch T) (A := s.A) (c' := s.c) rfl
  · intro val vis h6 h7 SA' h8 h9
    exact hc.put rfl h2 h8 h9 h6 (by rw [hv]; exact h7)
theorem roundS {T : List Nat} {lo k : Nat} {G : Nat → Option Nat} (hk : ∀ y, ch T y < k) (hG : GoodH T G) {E : Bool → Option Nat → Int → Prop} {i : Nat} {s : Ms} {W : List Wr} {SA B : List Int} {b c : Nat} (h : Iv (ruleS T k lo G) i s W)
    (hc : Cel T.length (fun p => T.length - 1 - p) E i s SA) (hp : PtS T.length s.P k B b c) {v : Nat} (hv : s.A i = some v) (hlo : lo < v) (hS : St T (v - 1)) :
    ∃ q, q + i + 1 < T.length ∧ (ch T (v - 1) = c → q + 1 = b) ∧ (ch T (v - 1) ≠ c → rd (wr B (c : Int) (b : Int)) (ch T (v - 1) : Nat) = (q + 1 : Nat)) ∧
      ∃ W', Iv (ruleS T k lo G) (i + 1) (put (fun y => k - 1 - ch T y) s (v - 1)) W' ∧ PtS T.length (put (fun y => k - 1 - ch T y) s (v - 1)).P k (if ch T (v - 1) = c then B else wr B (c : Int) (b : Int)) q (ch T (v - 1)) ∧
        ∀ val vis, E false (some (v - 1)) val → E true (some v) vis → ∀ SA' : List Int, SA'.length = T.length → (∀ p, p < T.length → rd SA' (p : Int) = if p = q then val else if p + i + 1 = T.length then vis else rd SA (p : Int)) →
          Cel T.length (fun p => T.length - 1 - p) E (i + 1) (put (fun y => k - 1 - ch T y) s (v - 1)) SA' := by
  have hR := ruleS_ok T k lo hk G hG
  have hvn := (h.part hR hv).1
  obtain ⟨h1, h2, h3⟩ := h.put hR hv (decide_eq_true ⟨hlo, hS⟩)
  have h2 : i < s.P (k - 1 - ch T (v - 1)) := h2
  have hky := hk (v - 1)
  have h3 : s.P (k - 1 - ch T (v - 1)) < T.length - bst T (k - (k - 1 - ch T (v - 1))) + (if k - 1 - ch T (v - 1) < k then bsz T (k - 1 - (k - 1 - ch T (v - 1))) (sb T) else 0) := h3
  rw [if_pos (by omega), show k - (k - 1 - ch T (v - 1)) = ch T (v - 1) + 1 by omega, show k - 1 - (k - 1 - ch T (v - 1)) = ch T (v - 1) by omega] at h3
  have h4 := bst_succ T (ch T (v - 1)) (lb T)
  have h5 := bst_le T (ch T (v - 1) + 1)
  have h6 : bsz T (ch T (v - 1)) (sb T) = bsz T (ch T (v - 1)) fun y => !lb T y := rfl
  have hPn : s.P (k - 1 - ch T (v - 1)) < T.length := by omega
  refine ⟨T.length - 1 - s.P (k - 1 - ch T (v - 1)), by omega, fun e => ?_, fun e => ?_, _, h1, ?_, ?_⟩
  · have := hp.2.2.1
    rw [← e] at this
    omega
  · rw [(hp.turn hky e (Nat.le_of_lt hPn)).1]
    congr 1
    omega
  · by_cases e : ch T (v - 1) = c
    · rw [if_pos e]
      have h7 := hp.2.2.1
      rw [← e] at h7
      have := hp.step (by omega) (l := fun y => k - 1 - ch T y) (A := s.A) (c' := s.c) (y := v - 1) (by show k - 1 - ch T (v - 1) = _; rw [e])
      rw [show T.length - 1 - s.P (k - 1 - ch T (v - 1)) = b - 1 by omega, e]
      exact this
    · rw [if_neg e]
      have := (hp.turn hky e (Nat.le_of_lt hPn)).2.step (by omega) (l := fun y => k - 1 - ch T y) (A := s.A) (c' := s.c) (y := v - 1) rfl
      rw [show T.length - 1 - s.P (k - 1 - ch T (v - 1)) = T.length - s.P (k - 1 - ch T (v - 1)) - 1 by omega]
      exact this
  · intro val vis h7 h8 SA' h9 h10
    refine hc.put (l := fun y => k - 1 - ch T y) rfl h2 h9 (fun p hp => ?_) h7 (by rw [hv]; exact h8)
    rw [h10 _ (by omega)]
    by_cases e : p = s.P (k - 1 - ch T (v - 1))
    · rw [if_pos e, if_pos (by omega)]
    · rw [if_neg e, if_neg (by omega)]
      by_cases e2 : p = i
      · rw [if_pos e2, if_pos (by omega)]
      · rw [if_neg e2, if_neg (by omega)]
end Go.Proofs.Ytcibehgcibojnaa.Sais

namespace Go.Proofs.Ytcibehgcibojnaa.Sais
open Go.Proofs.Ytcibehgcibojnaa.Vm Classical
theorem Iv.skip {R : Rule} {i : Nat} {s : Ms} {W : List Wr} (h : Iv R i s W) (hn : ∀ v, s.A i = some v → R.act v = false) : Iv R (i + 1) s W := by
  refine ⟨h.ty, h.nd, h.ord, fun w hw => by have := h.le w hw; omega, h.rng, h.ptr, h.at', h.par, fun p v hp h1 h2 => ?_⟩
  by_cases e : p = i
  · subst e; rw [hn v h1] at h2; cases h2
  · exact h.vis p v (by omega) h1 h2
theorem st_of_L {T : List Nat} {j : Nat} (h : ¬ St T j) (h1 : 1 ≤ j) (hj : j < T.length) : St T (j - 1) ↔ ch T (j - 1) < ch T j := by
  obtain ⟨u, rfl⟩ : ∃ u, j = u + 1 := ⟨j - 1, by omega⟩
  rw [Nat.add_sub_cancel, st_iff T hj]
  constructor
  · rintro (h2 | h2)
    · exact h2
    · exact absurd h2.2 h
  · exact .inl
theorem st_of_S {T : List Nat} {j : Nat} (h : St T j) (h1 : 1 ≤ j) (hj : j < T.length) : ¬ St T (j - 1) ↔ ch T j < ch T (j - 1) := by
  obtain ⟨u, rfl⟩ : ∃ u, j = u + 1 := ⟨j - 1, by omega⟩
  rw [Nat.add_sub_cancel, st_iff T hj]
  constructor
  · intro h2
    by_cases h3 : ch T u = ch T (u + 1)
    · exact absurd (.inr ⟨h3, h⟩) h2
    · have : ¬ ch T u < ch T (u + 1) := fun h => h2 (.inl h)
      omega
  · rintro h2 (h3 | h3) <;> omega
def E1L (T : List Nat) (vis : Bool) (o : Option Nat) (x : Int) : Prop := match o with
  | none => x = 0
  | some v => if St T (v - 1) then x = (if vis then (v : Int) - 1 else -(v : Int)) else x = (if vis then 0 else (v : Int) - 1)
def RL1 (T : List Nat) (k : Nat) (G : Nat → Option Nat) (i : Nat) (SA B : List Int) (b c : Nat) : Prop :=
  ∃ s W, Iv (ruleL T 1 G) i s W ∧ (∃ w ∈ W, w.y + 1 = T.length) ∧ Cel T.length id (E1L T) i s SA ∧ PtL s.P k B b c ∧ ∀ p v, s.A p = some v → 1 ≤ v
theorem RL1.step {T : List Nat} {k i b c : Nat} {G : Nat → Option Nat} {SA B : List Int} (hG : GoodG T G) (hk : ∀ y, ch T y < k) (h : RL1 T k G i SA B b c) (hi : i < T.length) :
    (rd SA i = 0 ∧ RL1 T k G (i + 1) SA B b c) ∨ (rd SA i < 0 ∧ -(T.length : Int) ≤ rd SA i ∧ RL1 T k G (i + 1) (wr SA i (-1 - rd SA i)) B b c) ∨
    ∃ j q : Nat, rd SA i = j ∧ 1 ≤ j ∧ j < T.length ∧ q < T.length ∧ i < q ∧ ((ch T j = c ∧ q = b) ∨ (ch T j ≠ c ∧ rd (wr B (c : Int) (b : Int)) (ch T j : Nat) = q)) ∧
      ∀ x : Int, x = (if ch T (j - 1) < ch T j then -1 - ((j : Int) - 1) else (j : Int) - 1) → RL1 T k G (i + 1) (wr (wr SA (q : Int) x) (i : Int) 0) (if ch T j = c then B else wr B (c : Int) (b : Int)) (q + 1) (ch T j) := by
  obtain ⟨s, W, h1, h2, h3, h4, h5⟩ := h
  have hR := ruleL_ok T 1 G hG
  have hx : E1L T (decide (i < i)) (s.A i) (rd SA (i : Int)) := h3.2 i hi
  rw [decide_eq_false (Nat.lt_irrefl i)] at hx
  have hpass : ∀ (vis : Int), (∀ v, s.A i = some v → (ruleL T 1 G).act v = false) → E1L T true (s.A i) vis → ∀ SA' : List Int, SA'.length = T.length → (∀ p, p < T.length → rd SA' (p : Int) = if p = i then vis else rd SA (p : Int)) → RL1 T k G (i + 1) SA' B b c :=
    fun vis hn he SA' hl hr => ⟨s, W, h1.skip hn, h2, h3.pass hl hr he, h4, h5⟩
  cases hv : s.A i with
  | none =>
    rw [hv] at hx
    have hx : rd SA (i : Int) = 0 := hx
    refine .inl ⟨hx, hpass 0 (fun v h => by rw [hv] at h; cases h) (by rw [hv]; rfl) SA h3.1 fun p hp => ?_⟩
    by_cases e : p = i
    · rw [if_pos e, e, hx]
    · rw [if_neg e]
  | some v =>
    rw [hv] at hx
    have hv1 := h5 i v hv
    obtain ⟨hvn, _⟩ := h1.part hR hv
    have hvn : v < T.length := hvn
    by_cases hs : St T (v - 1)
    · have hx : rd SA (i : Int) = -(v : Int) := by simpa only [E1L, if_pos hs, Bool.false_eq_true, if_false] using hx
      refine .inr (.inl ⟨by omega, by omega, hpass ((v : Int) - 1) (fun u hu => ?_) ?_ _ (by rw [wr_length]; exact h3.1) fun p hp => ?_⟩)
      · rw [hv] at hu; cases hu
        exact decide_eq_false fun h => h.2 hs
      · rw [hv]; simp only [E1L, if_pos hs, if_true]
      · rw [rd_wr (by rw [h3.1]; exact hi), hx]
        congr 1; omega
    · have hx : rd SA (i : Int) = (v : Int) - 1 := by simpa only [E1L, if_neg hs, Bool.false_eq_true, if_false] using hx
      by_cases hv2 : v = 1
      · subst hv2
        have hx : rd SA (i : Int) = 0 := by rw [hx]; rfl
        refine .inl ⟨hx, hpass 0 (fun u hu => ?_) ?_ SA h3.1 fun p hp => ?_⟩
        · rw [hv] at hu; cases hu
          show decide (1 < 1 ∧ ¬ St T (1 - 1)) = false
          exact decide_eq_false fun h => absurd h.1 (by omega)
        · rw [hv]; simp only [E1L, if_neg hs, if_true]
        · by_cases e : p = i
          · rw [if_pos e, e, hx]
          · rw [if_neg e]
      · obtain ⟨q, g1, g2, g3, g4, W', g5, g6, g7, g8⟩ := roundL hG hk h1 h3 h4 hv (by omega) hs
        refine .inr (.inr ⟨v - 1, q, by omega, by omega, by omega, g1, g2, ?_, fun x hx' => ?_⟩)
        · by_cases e : ch T (v - 1) = c
          · exact .inl ⟨e, g3 e⟩
          · exact .inr ⟨e, g4 e⟩
        · obtain ⟨w, hw, hwy⟩ := h2
          refine ⟨_, W', g5, ⟨w, g6 w hw, hwy⟩, g8 x 0 ?_ ?_ _ (by rw [wr_length, wr_length]; exact h3.1) fun p hp => ?_, g7, fun p u hu => ?_⟩
          · have := st_of_L hs (by omega) (by omega)
            rw [hx']
            by_cases hs2 : St T (v - 1 - 1)
            · rw [if_pos (this.1 hs2)]
              simp only [E1L, if_pos hs2, Bool.false_eq_true, if_false]
              omega
            · rw [if_neg (mt this.2 hs2)]
              simp only [E1L, if_neg hs2, Bool.false_eq_true, if_false]
          · simp only [E1L, if_neg hs, if_true]
          · rw [rd_wr (by rw [wr_length, h3.1]; exact hi), rd_wr (by rw [h3.1]; exact g1)]
            by_cases e : p = q
            · subst e; rw [if_pos rfl, if_neg (by omega), if_pos rfl]
            · rw [if_neg e, if_neg e]
          · have hu : (if p = s.P (ch T (v - 1)) then some (v - 1) else s.A p) = some u := hu
            split at hu
            · cases hu; omega
            · exact h5 p u hu
def E1S (T : List Nat) (vis : Bool) (o : Option Nat) (x : Int) : Prop := match o with
  | none => x = 0
  | some v => if St T (v - 1) then x = (if vis then 0 else (v : Int) - 1) else x = -1 - (v : Int)
def RS1 (T : List Nat) (k : Nat) (G : Nat → Option Nat) (i : Nat) (SA B : List Int) (b c : Nat) : Prop :=
  ∃ s W, Iv (ruleS T k 1 G) i s W ∧ Cel T.length (fun p => T.length - 1 - p) (E1S T) i s SA ∧ PtS T.length s.P k B b c ∧ ∀ p v, s.A p = some v → 1 ≤ v
theorem RS1.step {T : List Nat} {k i u b c : Nat} {G : Nat → Option Nat} {SA B : List Int} (hG : GoodH T G) (hk : ∀ y, ch T y < k) (h : RS1 T k G i SA B b c) (hi : u + i + 1 = T.length) :
    (rd SA u ≤ 0 ∧ RS1 T k G (i + 1) SA B b c) ∨
    ∃ j q : Nat, rd SA u = j ∧ 1 ≤ j ∧ j < T.length ∧ q < u ∧ ((ch T j = c ∧ q + 1 = b) ∨ (ch T j ≠ c ∧ rd (wr B (c : Int) (b : Int)) (ch T j : Nat) = (q + 1 : Nat))) ∧
      ∀ x : Int, x = (if ch T j < ch T (j - 1) then -1 - ((j : Int) - 1 + 1) else (j : Int) - 1) → RS1 T k G (i + 1) (wr (wr SA (q : Int) x) (u : Int) 0) (if ch T j = c then B else wr B (c : Int) (b : Int)) q (ch T j) := by
  obtain ⟨s, W, h1, h3, h4, h5⟩ := h
  have hR := ruleS_ok T k 1 hk G hG
  have hx : E1S T (decide (i < i)) (s.A i) (rd SA ((T.length - 1 - i : Nat) : Int)) := h3.2 i (by omega)
  rw [decide_eq_false (Nat.lt_irrefl i), show T.length - 1 - i = u by omega] at hx
  have hpass : (∀ v, s.A i = some v → (ruleS T k 1 G).act v = false) → E1S T true (s.A i) (rd SA (u : Int)) → RS1 T k G (i + 1) SA B b c :=
    fun hn he => ⟨s, W, h1.skip hn, h3.pass (vis := rd SA (u : Int)) h3.1 (fun p hp => by
      by_cases e : p = i
      · rw [if_pos e]; subst e; congr 2; omega
      · rw [if_neg e]) he, h4, h5⟩
  cases hv : s.A i with
  | none =>
    rw [hv] at hx
    have hx : rd SA (u : Int) = 0 := hx
    exact .inl ⟨by omega, hpass (fun v h => by rw [hv] at h; cases h) (by rw [hv]; exact hx)⟩
  | some v =>
    rw [hv] at hx
    have hv1 := h5 i v hv
    obtain ⟨hvn, _⟩ := h1.part hR hv
    have hvn : v < T.length := hvn
    by_cases hs : St T (v - 1)
    · have hx : rd SA (u : Int) = (v : Int) - 1 := by simpa only [E1S, if_pos hs, Bool.false_eq_true, if_false] using hx
      by_cases hv2 : v = 1
      · subst hv2
        have hx : rd SA (u : Int) = 0 := by rw [hx]; rfl
        refine .inl ⟨by omega, hpass (fun u hu => ?_) ?_⟩
        · rw [hv] at hu; cases hu
          show decide (1 < 1 ∧ St T (1 - 1)) = false
          exact decide_eq_false fun h => absurd h.1 (by omega)
        · rw [hv]; simp only [E1S, if_pos hs, if_true]; exact hx
      · obtain ⟨q, g1, g3, g4, W', g5, g7, g8⟩ := roundS hk hG h1 h3 h4 hv (by omega) hs
        refine .inr ⟨v - 1, q, by omega, by omega, by omega, by omega, ?_, fun x hx' => ?_⟩
        · by_cases e : ch T (v - 1) = c
          · exact .inl ⟨e, g3 e⟩
          · exact .inr ⟨e, g4 e⟩
        · refine ⟨_, W', g5, g8 x 0 ?_ ?_ _ (by rw [wr_length, wr_length]; exact h3.1) fun p hp => ?_, g7, fun p u hu => ?_⟩
          · have := st_of_S hs (by omega) (by omega)
            rw [hx']
            by_cases hs2 : St T (v - 1 - 1)
            · rw [if_neg (fun h => (this.2 h) hs2)]
              simp only [E1S, if_pos hs2, Bool.false_eq_true, if_false]
            · rw [if_pos (this.1 hs2)]
              simp only [E1S, if_neg hs2]
              omega
          · simp only [E1S, if_pos hs, if_true]
          · rw [rd_wr (by rw [wr_length, h3.1]; omega), rd_wr (by rw [h3.1]; omega)]
            by_cases e : p = q
            · subst e; rw [if_pos rfl, if_neg (by omega), if_pos rfl]
            · rw [if_neg e, if_neg e]
              by_cases e2 : p = u
              · rw [if_pos e2, if_pos (by omega)]
              · rw [if_neg e2, if_neg (by omega)]
          · have hu : (if p = s.P (k - 1 - ch T (v - 1)) then some (v - 1) else s.A p) = some u := hu
            split at hu
            · cases hu; omega
            · exact h5 p u hu
    · have hx : rd SA (u : Int) = -1 - (v : Int) := by simpa only [E1S, if_neg hs] using hx
      refine .inl ⟨by omega, hpass (fun u hu => ?_) ?_⟩
      · rw [hv] at hu; cases hu
        exact decide_eq_false fun h => hs h.2
      · rw [hv]; simp only [E1S, if_neg hs]; exact hx
def E3L (T : List Nat) (vis : Bool) (o : Option Nat) (x : Int) : Prop := match o with
  | none => x = if vis then -1 else 0
  | some v => if 0 < v ∧ St T (v - 1) then x = (if vis then (v : Int) else -1 - (v : Int)) else x = (if vis then -1 - (v : Int) else (v : Int))
def RL3 (T : List Nat) (k : Nat) (G : Nat → Option Nat) (i : Nat) (SA B : List Int) (b c : Nat) : Prop :=
  ∃ s W, Iv (ruleL T 0 G) i s W ∧ (∃ w ∈ W, w.y + 1 = T.length) ∧ Cel T.length id (E3L T) i s SA ∧ PtL s.P k B b c
theorem RL3.step {T : List Nat} {k i b c : Nat} {G : Nat → Option Nat} {SA B : List Int} (hG : GoodG T G) (hk : ∀ y, ch T y < k) (h : RL3 T k G i SA B b c) (hi : i < T.length) :
    (rd SA i ≤ 0 ∧ -(T.length : Int) - 1 ≤ rd SA i ∧ RL3 T k G (i + 1) (wr SA i (-1 - rd SA i)) B b c) ∨
    ∃ y q : Nat, rd SA i - 1 = y ∧ 0 < rd SA i ∧ y < T.length ∧ q < T.length ∧ i < q ∧ ((ch T y = c ∧ q = b) ∨ (ch T y ≠ c ∧ rd (wr B (c : Int) (b : Int)) (ch T y : Nat) = q)) ∧
      ∀ x : Int, x = (if 0 < y ∧ ch T (y - 1) < ch T y then -1 - (y : Int) else (y : Int)) → RL3 T k G (i + 1) (wr (wr SA (i : Int) (-1 - rd SA i)) (q : Int) x) (if ch T y = c then B else wr B (c : Int) (b : Int)) (q + 1) (ch T y) := by
  obtain ⟨s, W, h1, h2, h3, h4⟩ := h
  have hR := ruleL_ok T 0 G hG
  have hx : E3L T (decide (i < i)) (s.A i) (rd SA (i : Int)) := h3.2 i hi
  rw [decide_eq_false (Nat.lt_irrefl i)] at hx
  have hpass : (∀ v, s.A i = some v → (ruleL T 0 G).act v = false) → E3L T true (s.A i) (-1 - rd SA i) → RL3 T k G (i + 1) (wr SA i (-1 - rd SA i)) B b c :=
    fun hn he => ⟨s, W, h1.skip hn, h2, h3.pass (by rw [wr_length]; exact h3.1) (fun p hp => rd_wr (by rw [h3.1]; exact hi)) he, h4⟩
  cases hv : s.A i with
  | none =>
    rw [hv] at hx
    have hx : rd SA (i : Int) = 0 := hx
    exact .inl ⟨by omega, by omega, hpass (fun v h => by rw [hv] at h; cases h) (by rw [hv, hx]; rfl)⟩
  | some v =>
    rw [hv] at hx
    obtain ⟨hvn, _⟩ := h1.part hR hv
    have hvn : v < T.length := hvn
    by_cases hs : 0 < v ∧ St T (v - 1)
    · have hx : rd SA (i : Int) = -1 - (v : Int) := by simpa only [E3L, if_pos hs, Bool.false_eq_true, if_false] using hx
      refine .inl ⟨by omega, by omega, hpass (fun u hu => ?_) ?_⟩
      · rw [hv] at hu; cases hu
        exact decide_eq_false fun h => h.2 hs.2
      · rw [hv]; simp only [E3L, if_pos hs, if_true]; omega
    · have hx : rd SA (i : Int) = (v : Int) := by simpa only [E3L, if_neg hs, Bool.false_eq_true, if_false] using hx
      have hvis : E3L T true (some v) (-1 - rd SA i) := by simp only [E3L, if_neg hs, if_true]; rw [hx]
      by_cases hv2 : v = 0
      · subst hv2
        refine .inl ⟨by omega, by omega, hpass (fun u hu => ?_) (by rw [hv]; exact hvis)⟩
        rw [hv] at hu; cases hu
        show decide (0 < 0 ∧ ¬ St T (0 - 1)) = false
        exact decide_eq_false fun h => absurd h.1 (by omega)
      · have hs : ¬ St T (v - 1) := fun h => hs ⟨by omega, h⟩
        obtain ⟨q, g1, g2, g3, g4, W', g5, g6, g7, g8⟩ := roundL hG hk h1 h3 h4 hv (by omega) hs
        refine .inr ⟨v - 1, q, by omega, by omega, by omega, g1, g2, ?_, fun x hx' => ?_⟩
        · by_cases e : ch T (v - 1) = c
          · exact .inl ⟨e, g3 e⟩
          · exact .inr ⟨e, g4 e⟩
        · obtain ⟨w, hw, hwy⟩ := h2
          refine ⟨_, W', g5, ⟨w, g6 w hw, hwy⟩, g8 x (-1 - rd SA i) ?_ hvis _ (by rw [wr_length, wr_length]; exact h3.1) fun p hp => ?_, g7⟩
          · rw [hx']
            by_cases hp : 0 < v - 1
            · have := st_of_L hs hp (by omega)
              by_cases hs2 : St T (v - 1 - 1)
              · rw [if_pos ⟨hp, this.1 hs2⟩]
                simp only [E3L, if_pos (And.intro hp hs2), Bool.false_eq_true, if_false]
              · rw [if_neg (fun h => hs2 (this.2 h.2))]
                simp only [E3L, if_neg (show ¬ (0 < v - 1 ∧ St T (v - 1 - 1)) from fun h => hs2 h.2), Bool.false_eq_true, if_false]
            · rw [if_neg (fun h => hp h.1)]
              simp only [E3L, if_neg (show ¬ (0 < v - 1 ∧ St T (v - 1 - 1)) from fun h => hp h.1), Bool.false_eq_true, if_false]
          · rw [rd_wr (by rw [wr_length, h3.1]; exact g1), rd_wr (by rw [h3.1]; exact hi)]
def E3S (T : List Nat) (vis : Bool) (o : Option Nat) (x : Int) : Prop := match o with
  | none => if vis then True else -(T.length : Int) - 1 ≤ x ∧ x ≤ 0
  | some v => if vis then x = v else if 0 < v ∧ St T (v - 1) then x = (v : Int) else x = -1 - (v : Int)
def RS3 (T : List Nat) (k : Nat) (G : Nat → Option Nat) (i : Nat) (SA B : List Int) (b c : Nat) : Prop :=
  ∃ s W, Iv (ruleS T k 0 G) i s W ∧ Cel T.length (fun p => T.length - 1 - p) (E3S T) i s SA ∧ PtS T.length s.P k B b c
theorem RS3.step {T : List Nat} {k i u b c : Nat} {G : Nat → Option Nat} {SA B : List Int} (hG : GoodH T G) (hk : ∀ y, ch T y < k) (h : RS3 T k G i SA B b c) (hi : u + i + 1 = T.length) :
    (rd SA u ≤ 0 ∧ -(T.length : Int) - 1 ≤ rd SA u ∧ RS3 T k G (i + 1) (wr SA u (-1 - rd SA u)) B b c) ∨
    ∃ y q : Nat, rd SA u - 1 = y ∧ 0 < rd SA u ∧ y < T.length ∧ q < u ∧ ((ch T y = c ∧ q + 1 = b) ∨ (ch T y ≠ c ∧ rd (wr B (c : Int) (b : Int)) (ch T y : Nat) = (q + 1 : Nat))) ∧
      ∀ x : Int, x = (if y = 0 ∨ ch T y < ch T (y - 1) then -1 - (y : Int) else (y : Int)) → RS3 T k G (i + 1) (wr SA (q : Int) x) (if ch T y = c then B else wr B (c : Int) (b : Int)) q (ch T y) := by
  obtain ⟨s, W, h1, h3, h4⟩ := h
  have hR := ruleS_ok T k 0 hk G hG
  have hx : E3S T (decide (i < i)) (s.A i) (rd SA ((T.length - 1 - i : Nat) : Int)) := h3.2 i (by omega)
  rw [decide_eq_false (Nat.lt_irrefl i), show T.length - 1 - i = u by omega] at hx
  have hpass : (∀ v, s.A i = some v → (ruleS T k 0 G).act v = false) → E3S T true (s.A i) (-1 - rd SA (u : Int)) → RS3 T k G (i + 1) (wr SA u (-1 - rd SA u)) B b c :=
    fun hn he => ⟨s, W, h1.skip hn, h3.pass (by rw [wr_length]; exact h3.1) (fun p hp => by
      rw [rd_wr (by rw [h3.1]; omega)]
      by_cases e : p = i
      · rw [if_pos e, if_pos (by omega)]
      · rw [if_neg e, if_neg (by omega)]) he, h4⟩
  cases hv : s.A i with
  | none =>
    rw [hv] at hx
    have hx : -(T.length : Int) - 1 ≤ rd SA (u : Int) ∧ rd SA (u : Int) ≤ 0 := hx
    exact .inl ⟨hx.2, hx.1, hpass (fun v h => by rw [hv] at h; cases h) (by rw [hv]; trivial)⟩
  | some v =>
    rw [hv] at hx
    obtain ⟨hvn, _⟩ := h1.part hR hv
    have hvn : v < T.length := hvn
    by_cases hs : 0 < v ∧ St T (v - 1)
    · have hx : rd SA (u : Int) = (v : Int) := by simpa only [E3S, if_pos hs, Bool.false_eq_true, if_false] using hx
      obtain ⟨q, g1, g3, g4, W', g5, g7, g8⟩ := roundS hk hG h1 h3 h4 hv hs.1 hs.2
      refine .inr ⟨v - 1, q, by omega, by omega, by omega, by omega, ?_, fun x hx' => ?_⟩
      · by_cases e : ch T (v - 1) = c
        · exact .inl ⟨e, g3 e⟩
        · exact .inr ⟨e, g4 e⟩
      · refine ⟨_, W', g5, g8 x (rd SA u) ?_ (by simp only [E3S, if_true]; exact hx) _ (by rw [wr_length]; exact h3.1) fun p hp => ?_, g7⟩
        · rw [hx']
          by_cases hp : 0 < v - 1
          · have := st_of_S hs.2 hp (by omega)
            by_cases hs2 : St T (v - 1 - 1)
            · rw [if_neg (fun h => by rcases h with h | h; · omega
                                      · exact (this.2 h) hs2)]
              simp only [E3S, if_pos (And.intro hp hs2), Bool.false_eq_true, if_false]
            · rw [if_pos (.inr (this.1 hs2))]
              simp only [E3S, if_neg (show ¬ (0 < v - 1 ∧ St T (v - 1 - 1)) from fun h => hs2 h.2), Bool.false_eq_true, if_false]
          · rw [if_pos (.inl (by omega))]
            simp only [E3S, if_neg (show ¬ (0 < v - 1 ∧ St T (v - 1 - 1)) from fun h => hp h.1), Bool.false_eq_true, if_false]
        · rw [rd_wr (by rw [h3.1]; omega)]
          by_cases e : p = q
          · rw [if_pos e, if_pos e]
          · rw [if_neg e, if_neg e]
            by_cases e2 : p + i + 1 = T.length
            · rw [if_pos e2, show p = u by omega]
            · rw [if_neg e2]
    · have hx : rd SA (u : Int) = -1 - (v : Int) := by simpa only [E3S, if_neg hs, Bool.false_eq_true, if_false] using hx
      refine .inl ⟨by omega, by omega, hpass (fun u hu => ?_) ?_⟩
      · rw [hv] at hu; cases hu
        exact decide_eq_false fun h => hs ⟨h.1, h.2⟩
      · rw [hv]; simp only [E3S, if_true]; omega
end Go.Proofs.Ytcibehgcibojnaa.Sais

namespace Go.Proofs.Ytcibehgcibojnaa.Sais
open Go.Proofs.Ytcibehgcibojnaa.Vm
def cnt (T : List Nat) (m c : Nat) : Nat := (List.range m).countP fun y => decide (ch T y = c)
theorem cnt_succ (T : List Nat) (m c : Nat) : cnt T (m + 1) c = cnt T m c + if ch T m = c then 1 else 0 := by
  unfold cnt
  rw [List.range_succ, List.countP_append]
  congr 1
  by_cases h : ch T m = c <;> simp [h]
theorem cnt_le (T : List Nat) (m c : Nat) : cnt T m c ≤ m := by
  unfold cnt
  have := List.countP_le_length (p := fun y => decide (ch T y = c)) (l := List.range m)
  rwa [List.length_range] at this
theorem bst_cnt (T : List Nat) (c : Nat) : bst T (c + 1) = bst T c + cnt T T.length c := by
  unfold bst cnt
  exact countP_or (fun y => decide (ch T y < c + 1)) (fun y => decide (ch T y < c)) (fun y => decide (ch T y = c))
    (fun y => by by_cases h : ch T y < c <;> by_cases h2 : ch T y = c <;> simp [h, h2] <;> omega) (fun y => by simp; omega) _
theorem bst_zero (T : List Nat) : bst T 0 = 0 := by
  unfold bst
  rw [List.countP_eq_zero]
  intro y _
  simp
def Cnt (T : List Nat) (m k : Nat) (C : List Int) : Prop := C.length = k ∧ ∀ c, c < k → rd C (c : Int) = (cnt T m c : Nat)
theorem Cnt.zero {T : List Nat} {k : Nat} {C : List Int} (hl : C.length = k) (h : ∀ c, c < k → rd C (c : Int) = 0) : Cnt T 0 k C := ⟨hl, fun c hc => by rw [h c hc]; simp [cnt]⟩
theorem Cnt.step {T : List Nat} {m k : Nat} {C : List Int} (h : Cnt T m k C) (hk : ch T m < k) : Cnt T (m + 1) k (wr C (ch T m : Nat) (rd C (ch T m : Nat) + 1)) := by
  refine ⟨by rw [wr_length]; exact h.1, fun c hc => ?_⟩
  rw [rd_wr (by rw [h.1]; exact hk), cnt_succ]
  by_cases e : c = ch T m
  · rw [if_pos e, if_pos e.symm, h.2 _ hk, e]; rfl
  · rw [if_neg e, if_neg (Ne.symm e), h.2 c hc]; rfl
def BeginsTo (T : List Nat) (m k : Nat) (B : List Int) : Prop := B.length = k ∧ ∀ c, c < m → rd B (c : Int) = (bst T c : Nat)
def EndsTo (T : List Nat) (m k : Nat) (B : List Int) : Prop := B.length = k ∧ ∀ c, c < m → rd B (c : Int) = (bst T (c + 1) : Nat)
theorem EndsTo.step {T : List Nat} {m k : Nat} {B : List Int} (h : EndsTo T m k B) (hm : m < k) {x : Int} (hx : x = (bst T (m + 1) : Nat)) : EndsTo T (m + 1) k (wr B (m : Int) x) := by
  refine ⟨by rw [wr_length]; exact h.1, fun c hc => ?_⟩
  rw [rd_wr (by rw [h.1]; exact hm)]
  by_cases e : c = m
  · rw [if_pos e, e, hx]
  · rw [if_neg e]; exact h.2 c (by omega)
theorem BeginsTo.step {T : List Nat} {m k : Nat} {B : List Int} (h : BeginsTo T m k B) (hm : m < k) {x : Int} (hx : x = (bst T m : Nat)) : BeginsTo T (m + 1) k (wr B (m : Int) x) := by
  refine ⟨by rw [wr_length]; exact h.1, fun c hc => ?_⟩
  rw [rd_wr (by rw [h.1]; exact hm)]
  by_cases e : c = m
  · rw [if_pos e, e, hx]
  · rw [if_neg e]; exact h.2 c (by omega)
structure Txt (T : List Nat) (k : Nat) : Prop where
  n0 : 0 < T.length
  n1 : T.length ≤ 1000
  k1 : k ≤ 1000
  lt : ∀ y, ch T y < k
theorem Txt.k0 {T : List Nat} {k : Nat} (h : Txt T k) : 0 < k := Nat.lt_of_le_of_lt (Nat.zero_le _) (h.lt 0)
end Go.Proofs.Ytcibehgcibojnaa.Sais

namespace Go.Proofs.Ytcibehgcibojnaa.Vm
open Go Go.RowKit
section
variable {pr : Bool} {P : Program} {N : Fm} {E : Env} {M : Mem} {Q : Post}
variable {ops : List Oper} {rest : List Oper} {d : Nat} {op : Op} {ty : TypeId} {pos : String} {after : Array Edge} {g : Option (Nat × Bool)} {v : Value}
theorem run_storeVar1 {t : TypeId} {ad : Addr} {u v : Value} {w : World} (ht : Cel P t 1) (hv : v.oneCell' = true) (hc : w.cell? ad = some u) (hf : w.frozen? ad = false) :
    (storeVar t ad v).run P w = .ok () (w.setCell ad v) := by
  obtain ⟨i, hi, hs⟩ := size_of ht.out (by omega)
  have hcells : v.cells = #[v] := by cases v <;> simp_all [Value.oneCell', Value.cells]
  have had : ad.add 0 = ad := by simp [Addr.add]
  simp [storeVar, sizeOf, typeInfo, hi, hs, hcells, storeCells, had, run_store P w ad v .plain hv, hc, hf]
theorem OL_store {t : TypeId} {p x : Operand} {b o n : Nat} {l : List Value} {v : Value} {M' : Mem} (ht : Cel P t 1) (hp : ev E p = some (.pointer (some ⟨b, o + n, none⟩))) (hx : ev E x = some v)
    (hv : v.oneCell' = true) (hg : On E ops g) (hn : n < l.length) (hu : Upd1 M ⟨true, b, o, l⟩ (l.set n v) M') (h : OL false P N ops Q rest E M') : OL false P N ops Q (⟨none, .store t p x, ty, pos, after, g⟩ :: rest) E M := by
  constructor
  intro base w0 a w hA hS
  have hs := hS.seg _ hu.mem
  have hc := hs.cell (i := n) (v := l[n]) (by simp [hn])
  have hf := hs.free rfl hn
  unfold wpList
  rw [if_pos (On.wanted (o := ⟨none, .store t p x, ty, pos, after, g⟩) hg hA)]
  refine .inl ?_
  unfold Oper.wp
  have hr : (execOp a.eval ⟨none, .store t p x, ty, pos, after, g⟩).run P w = .ok .skip (w.setCell ⟨b, o + n, none⟩ v) := by
    simp only [execOp, Instr.storeAt, Instr.sureAddr, hA.eval hp, hA.eval hx]
    simp [run_storeVar1 ht hv hc hf]
  rw [hr]
  exact h.out base w0 _ _ hA (hS.set rfl hn hu)
theorem OL_storei {t : TypeId} {p x : Operand} {b o : Nat} {l : List Int} {k : IntKind} {z v : Int} {M' : Mem} (ht : Cel P t 1) (hp : ev E p = some (.pointer (some ⟨b, o + z.toNat, none⟩)))
    (hx : ev E x = some (.int k v)) (hg : On E ops g) (hn : z.toNat < l.length) (hu : Upd1 M ⟨true, b, o, ints k l⟩ (ints k (wr l z v)) M') (h : OL false P N ops Q rest E M') :
    OL false P N ops Q (⟨none, .store t p x, ty, pos, after, g⟩ :: rest) E M :=
  OL_store (l := ints k l) ht hp hx rfl hg (by rw [ints_length]; exact hn) (by rw [ints_set]; exact hu) h
def Callable (P : Program) (f : FuncId) : Prop := ∃ fn, P.funcs[f]? = some fn ∧ (fn.name == "runtime.NumGoroutine") = false ∧ fn.body.isNone = false
def evs (E : Env) : List Operand → Option (List Value)
  | [] => some []
  | x :: xs => match ev E x, evs E xs with
    | some v, some vs => some (v :: vs)
    | _, _ => none
theorem Ag.evals {a : Act} (h : Ag N E a) : ∀ {xs : List Operand} {vs : List Value}, evs E xs = some vs → xs.map a.eval = vs
  | [], vs, hv => by simp [evs] at hv; simp [hv]
  | x :: xs, vs, hv => by
    simp only [evs] at hv
    split at hv
    · rename_i v vs' h1 h2
      simp at hv
      subst hv
      simp [h.eval h1, h.evals h2]
    · simp at hv
theorem run_callFunc {f : FuncId} {args : Array Value} {w : World} (hf : Callable P f) : (callFunc f args).run P w = .ok (.enter f args) w := by
  obtain ⟨fn, h1, h2, h3⟩ := hf
  have h2' : ¬ fn.name = "runtime.NumGoroutine" := by simpa using h2
  have h3' : ¬ fn.body = none := by intro h; rw [h] at h3; simp at h3
  simp [callFunc, h1, h2', h3']
theorem OL_call {c : Operand} {xs : List Operand} {ts : Array TypeId} {f : FuncId} {first captured : Array Value} {vs : List Value} {R : Value → Mem → Prop}
    (hc : ev E c = some (.func (.func f) first captured)) (hx : evs E xs = some vs) (hf : Callable P f) (hg : On E ops g) (hd : Nat.blt d N.n = true)
    (hR : HC P f (first ++ vs.toArray ++ captured) M R) (h : ∀ v M', R v M' → OL false P N ops Q rest ((d, v) :: E) M') :
    OL false P N ops Q (⟨some d, .call { callee := .value c, args := xs.toArray, argTypes := ts }, ty, pos, after, g⟩ :: rest) E M := by
  constructor
  intro base w0 a w hA hS
  unfold wpList
  rw [if_pos (On.wanted (o := ⟨some d, .call { callee := .value c, args := xs.toArray, argTypes := ts }, ty, pos, after, g⟩) hg hA)]
  refine .inl ?_
  unfold Oper.wp
  have hr : (execOp a.eval ⟨some d, .call { callee := .value c, args := xs.toArray, argTypes := ts }, ty, pos, after, g⟩).run P w = .ok (.enter f (first ++ vs.toArray ++ captured)) w := by
    have e : xs.toArray.map a.eval = vs.toArray := by simp [hA.evals hx]
    simp [execOp, resolve, e, hA.eval hc, Deferred.ofValue, invoke, run_callFunc hf]
  rw [hr]
  refine (hR.out base w0 w hS).mono fun e w' ⟨v, M', he, hS', hv⟩ => ?_
  subst he
  exact (h v M' hv).out base w0 _ w' (hA.put hd v) hS'
theorem HCp.mono {f : FuncId} {args : Array Value} {R R' : Value → Mem → Prop} (h : HCp pr P f args M R) (hr : ∀ v M', R v M' → R' v M') : HCp pr P f args M R' :=
  ⟨fun base w0 w hS => (h.out base w0 w hS).mono fun _ _ ⟨v, M', h1, h2, h3⟩ => ⟨v, M', h1, h2, hr v M' h3⟩⟩
theorem HCp.take {f : FuncId} {args : Array Value} {R : Value → Mem → Prop} {L : Mem} (ht : Rk M L) (h : HCp pr P f args L R) : HCp pr P f args M R :=
  ⟨fun base w0 w hS => h.out base w0 w (hS.rk ht)⟩
structure HP (P : Program) (f : FuncId) (args : Array Value) (M : Mem) (v : Value) : Prop where
  out : ∀ pr base w0 w, Sim pr base w0 w M → Calls P f args w fun e w' => e = .returned v ∧ w' = w
theorem HP.of {f : FuncId} {args : Array Value} {v : Value} (h : HCp true P f args M (fun u _ => u = v)) : HP P f args M v := by
  constructor
  intro pr base w0 w hS
  refine (h.out base w w ⟨Below.refl _ _, hS.hb, hS.seg, hS.dis, fun _ => rfl⟩).mono ?_
  rintro e w' ⟨u, M', rfl, hS', rfl⟩
  exact ⟨rfl, hS'.same rfl⟩
theorem HP.take {f : FuncId} {args : Array Value} {v : Value} {L : Mem} (ht : Rk M L) (h : HP P f args L v) : HP P f args M v :=
  ⟨fun pr base w0 w hS => h.out pr base w0 w (hS.rk ht)⟩
theorem HP.hc {f : FuncId} {args : Array Value} {v : Value} (h : HP P f args M v) : HCp pr P f args M (fun u M' => u = v ∧ M' = M) :=
  ⟨fun base w0 w hS => (h.out pr base w0 w hS).mono fun _ _ ⟨h1, h2⟩ => ⟨v, M, h1, h2 ▸ hS, rfl, rfl⟩⟩
def zipEnv : Nat → List Value → Env
  | _, [] => []
  | n, v :: vs => (n, v) :: zipEnv (n + 1) vs
theorem zipEnv_get : ∀ (vs : List Value) (n i : Nat) (v : Value), (zipEnv n vs).get? i = some v → n ≤ i ∧ vs[i - n]? = some v
  | [], n, i, v, h => by simp [zipEnv, Env.get?] at h
  | u :: vs, n, i, v, h => by
    simp only [zipEnv, Env.get?] at h
    cases hb : Nat.beq n i with
    | true =>
      rw [hb] at h; simp at h
      have := Nat.eq_of_beq_eq_true hb
      subst this; subst h
      exact ⟨Nat.le_refl _, by simp⟩
    | false =>
      rw [hb] at h; simp at h
      obtain ⟨h1, h2⟩ := zipEnv_get vs (n + 1) i v h
      refine ⟨by omega, ?_⟩
      rw [show i - n = (i - (n + 1)) + 1 by omega]
      simpa using h2
def resOf (E : Env) (rs : List ResultVar) : Option Value :=
  let rec go : List ResultVar → Option (List Value)
    | [] => some []
    | .tmp t :: rs => match E.get? t, go rs with
      | some v, some vs => some (v :: vs)
      | _, _ => none
    | .cell _ _ :: _ => none
  match go rs with
  | some [v] => some v
  | some vs => some (.tuple vs.toArray)
  | none => none
def resAt (tmps : Array Value) : ResultVar → Sem Value
  | .tmp t => pure (tmps.getD t undef)
  | .cell a t => do loadVar t (← asAddr (tmps.getD a undef))
theorem mapM_res {a : Act} (h : Ag N E a) (w : World) : ∀ (rs : List ResultVar) (vs : List Value), resOf.go E rs = some vs → (rs.mapM (resAt a.tmps)).run P w = .ok vs w
  | [], vs, hv => by simp [resOf.go] at hv; simp [hv]
  | .tmp t :: rs, vs, hv => by
    simp only [resOf.go] at hv
    split at hv
    · rename_i v vs' h1 h2
      simp at hv
      subst hv
      have h3 := h.val _ _ h1
      rw [List.mapM_cons]
      have h4 := mapM_res h w rs vs' h2
      have h5 : (resAt a.tmps (.tmp t)).run P w = .ok v w := by simp [resAt, Array.getD_eq_getD_getElem?, h3]
      rw [Sem.run_bind, h5, Result.andThen_ok, Sem.run_bind, h4]
      rfl
    · simp at hv
  | .cell _ _ :: rs, vs, hv => by simp [resOf.go] at hv
theorem results_eq (fn : Func) (tmps : Array Value) : results fn tmps = (do let vs ← fn.results.mapM (resAt tmps); pure (if h : vs.size = 1 then vs[0] else .tuple vs)) := rfl
theorem run_results {fn : Func} {a : Act} {v : Value} {w : World} (h : Ag N E a) (hr : resOf E fn.results.toList = some v) : (results fn a.tmps).run P w = .ok v w := by
  unfold resOf at hr
  rw [results_eq]
  have key : ∀ vs, resOf.go E fn.results.toList = some vs → (fn.results.mapM (resAt a.tmps)).run P w = .ok vs.toArray w := by
    intro vs hvs
    rw [Array.mapM_eq_mapM_toList]
    simp only [Sem.run_map, mapM_res h w _ _ hvs]
    rfl
  split at hr
  · rename_i u hu
    simp at hr; subst hr
    rw [Sem.run_bind, key _ hu]
    simp
  · rename_i vs hne hu
    simp at hr; subst hr
    rw [Sem.run_bind, key _ hu]
    have : ¬ vs.length = 1 := by
      intro h1
      match vs, hne, h1 with
      | [u], hne, _ => exact hne u rfl
    simp [this]
  · simp at hr
def Ends (rs : List ResultVar) (R : Value → Mem → Prop) : Post
  | .normal, E, M | .ret, E, M => ∃ v, resOf E rs = some v ∧ R v M
  | _, _, _ => False
theorem HC_of_V {f : FuncId} {fn : Func} {c : Code} {vs : List Value} {R : Value → Mem → Prop} {rs : List ResultVar} {n : Nat} (hf : P.funcs[f]? = some fn) (hb : fn.body = some c) (hN : fn.ntmps = n)
    (hrs : fn.results.toList = rs) (hs : Nat.ble vs.length n = true) (h : V pr P ⟨n, []⟩ c (Ends rs R) (zipEnv 0 vs) M) : HCp pr P f vs.toArray M R := by
  constructor
  intro base w0 w hS
  have hle : vs.length ≤ n := by simpa using hs
  refine calls_of_wp hf hb (wp_mono (h.out base w0 _ w ⟨rfl, by simp [hN]; omega, fun i v hv => ?_⟩ hS) ?_)
  · obtain ⟨h1, h2⟩ := zipEnv_get vs 0 i v hv
    simp only [Nat.sub_zero] at h2
    have hi : i < vs.length := by
      rcases Nat.lt_or_ge i vs.length with h | h
      · exact h
      · simp [List.getElem?_eq_none h] at h2
    rw [Array.getElem?_append_left (by simpa using hi)]
    simpa using h2
  · intro e a w' ⟨E', M', hA', hS', hq⟩
    cases e with
    | normal =>
      obtain ⟨v, hv, hR⟩ := hq
      exact ⟨hA'.defers, v, run_results hA' (by rw [hrs]; exact hv), v, M', rfl, hS', hR⟩
    | ret =>
      obtain ⟨v, hv, hR⟩ := hq
      exact ⟨hA'.defers, v, run_results hA' (by rw [hrs]; exact hv), v, M', rfl, hS', hR⟩
    | _ => exact hq.elim
theorem P_len {x : Operand} {t e : TypeId} {base : Option Addr} {len cap : Nat} (ht : Und P t (.slice e)) (hx : ev E x = some (.slice base len cap)) :
    Pure P N E M (.call { callee := .builtin .len, args := #[x], argTypes := #[t] }) (.int .i64 len) := by
  constructor
  intro pr bs w0 a w hA hS d ty pos after g
  simp [execOp, resolve, invoke, builtin, Builtin.len_, hA.eval hx, ht.run, goInt]
def bnd (E : Env) : Option Operand → Int → Int → Prop
  | none, dflt, z => z = dflt
  | some x, _, z => ∃ k, ev E x = some (.int k z)
theorem P_slice {t e : TypeId} {x : Operand} {lo hi : Option Operand} {b o len cap n : Nat} {l h : Int} (ht : Und P t (.slice e)) (he : Cel P e n) (hn : 0 < n)
    (hx : ev E x = some (.slice (some ⟨b, o, none⟩) len cap)) (hl : bnd E lo 0 l) (hh : bnd E hi len h) (h0 : 0 ≤ l) (h1 : l ≤ h) (h2 : h ≤ cap) (h3 : l < cap) :
    Pure P N E M (.slice t x lo hi none) (.slice (some ⟨b, o + l.toNat * n, none⟩) (h.toNat - l.toNat) (cap - l.toNat)) := by
  constructor
  intro pr bs w0 a w hA hS d ty pos after g
  obtain ⟨I, hI, hs⟩ := size_of he.out hn
  have hadd : (Addr.add ⟨b, o, none⟩ (l.toNat * n)) = ⟨b, o + l.toNat * n, none⟩ := by
    unfold Addr.add; split
    · rename_i h; simp [h]
    · rfl
  have hne : ¬ cap = l.toNat := by omega
  have hlh : (l : Int) ≤ h.toNat := by omega
  have hh0 : 0 ≤ h := by omega
  have hl' : lo.map a.eval = none ∧ l = 0 ∨ ∃ k, lo.map a.eval = some (.int k l) := by
    cases lo with
    | none => exact .inl ⟨rfl, hl⟩
    | some y => obtain ⟨k, hk⟩ := hl; exact .inr ⟨k, by simp [hA.eval hk]⟩
  have hh' : hi.map a.eval = none ∧ h = len ∨ ∃ k, hi.map a.eval = some (.int k h) := by
    cases hi with
    | none => exact .inl ⟨rfl, hh⟩
    | some y => obtain ⟨k, hk⟩ := hh; exact .inr ⟨k, by simp [hA.eval hk]⟩
  have hb : (Instr.sliceBounds true len cap (lo.map a.eval) (hi.map a.eval) none).run P w = .ok (l.toNat, h.toNat, cap) w := by
    rcases hl' with ⟨e1, rfl⟩ | ⟨k1, e1⟩ <;> rcases hh' with ⟨e2, rfl⟩ | ⟨k2, e2⟩ <;>
      simp [Instr.sliceBounds, Instr.sliceBound, e1, e2, asIntOf, h0, hh0, h1, h2, hlh]
    intro hm; omega
  simp [execOp, Instr.sliceAt, Instr.slice, hA.eval hx, ht.run, hb, sizeOf, typeInfo, hI, hs, hne, hadd]
theorem P_slice1 {t e : TypeId} {x : Operand} {lo hi : Option Operand} {b o len cap : Nat} {l h : Int} (ht : Und P t (.slice e)) (he : Cel P e 1)
    (hx : ev E x = some (.slice (some ⟨b, o, none⟩) len cap)) (hl : bnd E lo 0 l) (hh : bnd E hi len h) (h0 : 0 ≤ l) (h1 : l ≤ h) (h2 : h ≤ cap) (h3 : l < cap) :
    Pure P N E M (.slice t x lo hi none) (.slice (some ⟨b, o + l.toNat, none⟩) (h.toNat - l.toNat) (cap - l.toNat)) := by
  have := P_slice (N := N) (M := M) ht he (by omega) hx hl hh h0 h1 h2 h3
  simpa using this
theorem range_map_const (v : Value) (n : Nat) : ((Array.range n).map fun i => [v][i % 1]?.getD default) = Array.replicate n v := by
  apply Array.ext
  · simp
  · intro i h1 h2
    simp [Nat.mod_one]
theorem range_map_zero (f : Nat → Value) : ((Array.range 0).map f) = #[] := by
  apply Array.ext
  · simp
  · intro i h1 h2
    simp at h2
theorem OL_make1 {t e : TypeId} {I : TypeInfo} {x : Operand} {k : IntKind} {z : Int} {v : Value} (ht : Und P t (.slice e)) (hI : P.info? e = some I) (hs : I.size = 1) (hz : I.zero = some v)
    (hv : v.cells = #[v]) (hx : ev E x = some (.int k z)) (h0 : 0 ≤ z) (h1 : (I.bytes : Int) * z ≤ 281474976710656) (h2 : z ≤ 9223372036854775807) (hg : On E ops g) (hd : Nat.blt d N.n = true)
    (h : ∀ b, OL false P N ops Q rest ((d, .slice (some ⟨b, 0, none⟩) z.toNat z.toNat) :: E) (⟨true, b, 0, List.replicate z.toNat v⟩ :: M)) : OL false P N ops Q (⟨some d, .makeSlice t x x, ty, pos, after, g⟩ :: rest) E M := by
  constructor
  intro base w0 a w hA hS
  unfold wpList
  rw [if_pos (On.wanted (o := ⟨some d, .makeSlice t x x, ty, pos, after, g⟩) hg hA)]
  refine .inl ?_
  unfold Oper.wp
  have hw : IntKind.i64.wrap z = z := wrap_id (k := .i64) (by simp [IntKind.min, IntKind.signed, IntKind.bits]; omega) (by simp [IntKind.max, IntKind.signed, IntKind.bits]; omega)
  have hr : (execOp a.eval ⟨some d, .makeSlice t x x, ty, pos, after, g⟩).run P w = .ok (.value (.slice (some ⟨w.heap.size, 0, none⟩) z.toNat z.toNat)) (w.alloc (.cells (Array.replicate z.toNat v) e)) := by
    have c1 : ¬ z < 0 := by omega
    have c2 : ¬ (281474976710656 : Int) < I.bytes * z := by omega
    by_cases hz0 : z.toNat = 0
    · simp [execOp, Instr.makeSlice, hA.eval hx, ht.run, asInt, asIntOf, typeInfo, hI, hw, c1, c2, sizeOf, hs, hz0, newRow]
      rw [range_map_zero]
    · simp [execOp, Instr.makeSlice, hA.eval hx, ht.run, asInt, asIntOf, typeInfo, hI, hw, c1, c2, sizeOf, hs, hz0, newRow, zeroValue, hz, hv, range_map_const]
  rw [hr]
  have := hS.alloc (Array.replicate z.toNat v) e
  simp only [Array.toList_replicate] at this
  exact (h w.heap.size).out base w0 _ _ (hA.put hd _) this
end
end Go.Proofs.Ytcibehgcibojnaa.Vm
