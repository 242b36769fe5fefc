/- Marks go from the first of a key to the last; what the first sorting with marks leaves. No condition. Marks told as names. No condition. The sorted LMS places are put at the ends of their letters' parts. No condition. -/
import Derived.Test.YtcibehgcibojnaaW4x09

namespace Go.Proofs.Ytcibehgcibojnaa.Sais
open Go.Proofs.Ytcibehgcibojnaa.Vm Classical
def FstM (g : Nat → Option Nat) (K : Nat → List Nat) (p x : Nat) : Prop := ∀ p' x', p' < p → g p' = some x' → K x' ≠ K x
def LstM (g : Nat → Option Nat) (K : Nat → List Nat) (p x : Nat) : Prop := ∀ p' x', p < p' → g p' = some x' → K x' ≠ K x
structure Gv (g : Nat → Option Nat) (K : Nat → List Nat) (n : Nat) : Prop where
  lt : ∀ p x, g p = some x → p < n ∧ 2 ≤ x ∧ x < n
  flat : ∀ p r q x z y, p ≤ r → r ≤ q → g p = some x → g r = some z → g q = some y → K x = K y → K z = K y
structure Btw (g : Nat → Option Nat) (K : Nat → List Nat) (n i : Nat) (SA : List Int) : Prop where
  len : SA.length = n
  none : ∀ p, p < n → g p = none → rd SA (p : Int) = 0
  low : ∀ p x, p < i → g p = some x → rd SA (p : Int) = (x : Int) - 1 + mn n (decide (FstM g K p x))
  high : ∀ p x, i ≤ p → g p = some x → rd SA (p : Int) = (x : Int) - 1 + mn n (decide (LstM g K p x))
  bd : ∀ p q x y, p < i → i ≤ q → g p = some x → g q = some y → K x ≠ K y
structure Inn (g : Nat → Option Nat) (K : Nat → List Nat) (n i v j : Nat) (SA : List Int) : Prop where
  len : SA.length = n
  at' : g i = some v
  ji : j ≤ i
  none : ∀ p, p < n → g p = none → rd SA (p : Int) = 0
  low : ∀ p x, p < j → g p = some x → rd SA (p : Int) = (x : Int) - 1 + mn n (decide (FstM g K p x))
  mid : ∀ p x, j ≤ p → p < i → g p = some x → K x = K v ∧ rd SA (p : Int) = (x : Int) - 1
  high : ∀ p x, i ≤ p → g p = some x → rd SA (p : Int) = (x : Int) - 1 + mn n (decide (LstM g K p x))
  bd : ∀ p q x y, p ≤ i → i < q → g p = some x → g q = some y → K x ≠ K y
  exi : ∃ p x, p < j ∧ g p = some x ∧ K x = K v
theorem mn_true (n : Nat) : mn n true = n := rfl
theorem mn_false (n : Nat) : mn n false = 0 := rfl
theorem Btw.step {g : Nat → Option Nat} {K : Nat → List Nat} {n i : Nat} {SA : List Int} (hg : Gv g K n) (h : Btw g K n (i + 1) SA) (hi : i < n) :
    (rd SA i = 0 ∧ Btw g K n i SA) ∨ ((n : Int) < rd SA i ∧ rd SA i < 2 * n ∧ Btw g K n i SA) ∨ (0 < rd SA i ∧ rd SA i < n ∧ ∃ v, Inn g K n i v i (wr SA i (rd SA i + n))) := by
  cases hv : g i with
  | none =>
    refine .inl ⟨h.none i hi hv, h.len, h.none, fun p x hp hx => h.low p x (by omega) hx, fun p x hp hx => ?_, fun p q x y hp hq hx hy => ?_⟩
    · have : p ≠ i := fun e => by subst e; rw [hv] at hx; cases hx
      exact h.high p x (by omega) hx
    · have : q ≠ i := fun e => by subst e; rw [hv] at hy; cases hy
      exact h.bd p q x y (by omega) (by omega) hx hy
  | some v =>
    have hlt := hg.lt i v hv
    have hx := h.low i v (by omega) hv
    have hlst : LstM g K i v := fun p' x' hp' hx' e => h.bd i p' v x' (by omega) (by omega) hv hx' e.symm
    by_cases hf : FstM g K i v
    · rw [decide_eq_true hf, mn_true] at hx
      refine .inr (.inl ⟨by omega, by omega, h.len, h.none, fun p x hp hx => h.low p x (by omega) hx, fun p x hp hx2 => ?_, fun p q x y hp hq hx3 hy => ?_⟩)
      · by_cases e : p = i
        · subst e
          rw [hv] at hx2; cases hx2
          rw [decide_eq_true hlst, mn_true]; exact hx
        · exact h.high p x (by omega) hx2
      · by_cases e : q = i
        · subst e
          rw [hv] at hy; cases hy
          exact hf p x hp hx3
        · exact h.bd p q x y (by omega) (by omega) hx3 hy
    · rw [decide_eq_false hf, mn_false] at hx
      have hr : ∀ p : Nat, rd (wr SA i (rd SA i + n)) (p : Int) = if p = i then rd SA i + n else rd SA p := fun p => rd_wr (by rw [h.len]; exact hi)
      refine .inr (.inr ⟨by omega, by omega, v, by rw [wr_length]; exact h.len, hv, Nat.le_refl _, fun p hp hn => ?_, fun p x hp hx => ?_, fun p x h1 h2 => by omega, fun p x hp hx2 => ?_, fun p q x y hp hq => h.bd p q x y (by omega) (by omega), ?_⟩)
      · rw [hr, if_neg (fun e => by subst e; rw [hv] at hn; cases hn)]; exact h.none p hp hn
      · rw [hr, if_neg (by omega)]; exact h.low p x (by omega) hx
      · rw [hr]
        by_cases e : p = i
        · subst e
          rw [hv] at hx2; cases hx2
          rw [if_pos rfl, decide_eq_true hlst, mn_true]; omega
        · rw [if_neg e]; exact h.high p x (by omega) hx2
      · refine Classical.byContradiction fun hn => hf fun p' x' hp' hx' e => hn ⟨p', x', hp', hx', e⟩
theorem Inn.pos {g : Nat → Option Nat} {K : Nat → List Nat} {n i v j : Nat} {SA : List Int} (h : Inn g K n i v j SA) : 0 < j := by
  obtain ⟨p, _, hp, _⟩ := h.exi
  omega
theorem Inn.step {g : Nat → Option Nat} {K : Nat → List Nat} {n i v j : Nat} {SA : List Int} (hg : Gv g K n) (h : Inn g K n i v (j + 1) SA) :
    (rd SA j < n ∧ Inn g K n i v j SA) ∨ ((n : Int) ≤ rd SA j ∧ rd SA j < 2 * n ∧ Btw g K n j (wr SA j (rd SA j - n))) := by
  have hin := (hg.lt i v h.at').1
  have hji := h.ji
  obtain ⟨p0, x0, e1, e2, e3⟩ := h.exi
  cases hv : g j with
  | none =>
    have hj0 := h.none j (by omega) hv
    refine .inl ⟨by omega, h.len, h.at', by omega, h.none, fun p x hp => h.low p x (by omega), fun p x hp hp2 hx => ?_, h.high, h.bd, p0, x0, ?_, e2, e3⟩
    · have : p ≠ j := fun e => by subst e; rw [hv] at hx; cases hx
      exact h.mid p x (by omega) hp2 hx
    · have : p0 ≠ j := fun e => by subst e; rw [hv] at e2; cases e2
      omega
  | some x =>
    have hx := h.low j x (by omega) hv
    have hlt := hg.lt j x hv
    have hk : K x = K v := hg.flat p0 j i x0 x v (by omega) (by omega) e2 hv h.at' e3
    by_cases hf : FstM g K j x
    · rw [decide_eq_true hf, mn_true] at hx
      have hr : ∀ p : Nat, rd (wr SA j (rd SA j - n)) (p : Int) = if p = j then rd SA j - n else rd SA p := fun p => rd_wr (by rw [h.len]; omega)
      have hnl : ∀ p y, p < i → g p = some y → K y = K v → decide (LstM g K p y) = false := fun p y hp _ hyk => decide_eq_false fun hl => hl i v hp h.at' hyk.symm
      refine .inr ⟨by omega, by omega, by rw [wr_length]; exact h.len, fun p hp hn => ?_, fun p y hp hy => ?_, fun p y hp hy => ?_, fun p q y w hp hq hy hw e => ?_⟩
      · rw [hr, if_neg (fun e => by subst e; rw [hv] at hn; cases hn)]; exact h.none p hp hn
      · rw [hr, if_neg (by omega)]; exact h.low p y (by omega) hy
      · rw [hr]
        by_cases e : p = j
        · subst e
          rw [hv] at hy; cases hy
          rw [if_pos rfl, hnl p x (by omega) hv hk, mn_false]; omega
        · rw [if_neg e]
          by_cases hpi : p < i
          · obtain ⟨m1, m2⟩ := h.mid p y (by omega) hpi hy
            rw [hnl p y hpi hy m1, mn_false, m2]; omega
          · exact h.high p y (by omega) hy
      · by_cases hqi : i < q
        · exact h.bd p q y w (by omega) hqi hy hw e
        · have hwk : K w = K v := by
            by_cases e4 : q = i
            · subst e4; rw [h.at'] at hw; cases hw; rfl
            · by_cases e5 : q = j
              · subst e5; rw [hv] at hw; cases hw; exact hk
              · exact (h.mid q w (by omega) (by omega) hw).1
          exact hf p y hp hy (by rw [e, hwk, hk])
    · rw [decide_eq_false hf, mn_false] at hx
      refine .inl ⟨by omega, h.len, h.at', by omega, h.none, fun p x hp => h.low p x (by omega), fun p y hp hp2 hy => ?_, h.high, h.bd, ?_⟩
      · by_cases e : p = j
        · subst e; rw [hv] at hy; cases hy
          exact ⟨hk, by omega⟩
        · exact h.mid p y (by omega) hp2 hy
      · refine Classical.byContradiction fun hn => hf fun p' x' hp' hx' e => hn ⟨p', x', hp', hx', by rw [e, hk]⟩
noncomputable def gP (T : List Nat) (s : Ms) (p : Nat) : Option Nat := if p < T.length then GH T (fun v => 2 ≤ v ∧ St T (v - 1)) s (T.length - 1 - p) else none
theorem gP_iff {T : List Nat} {s : Ms} {p v : Nat} : gP T s p = some v ↔ p < T.length ∧ s.A p = some v ∧ ¬ St T v ∧ 2 ≤ v ∧ St T (v - 1) := by
  unfold gP
  by_cases h : p < T.length
  · rw [if_pos h, GH_iff, show T.length - 1 - (T.length - 1 - p) = p by omega]
    exact ⟨fun h2 => ⟨h, h2.2⟩, fun h2 => ⟨by omega, h2.2⟩⟩
  · rw [if_neg h]
    constructor
    · intro e; cases e
    · intro e; exact absurd e.1 h
structure Mid2 (T : List Nat) (k z : Nat) (G : Nat → Option Nat) (s : Ms) (d : Nat) (D : List Int) : Prop where
  iv : ∃ W, Iv (ruleL T 1 G) T.length s W ∧ ∃ w ∈ W, w.y + 1 = T.length
  z : ∀ p v, s.A p = some v → z < v
  D : D.length = 2 * k ∧ ∀ t, t < 2 * k → ∃ e : Nat, e ≤ d ∧ rd D (t : Int) = e
theorem Mid2.gv {T : List Nat} {k z d : Nat} {G : Nat → Option Nat} {s : Ms} {D : List Int} (hG : GoodG T G) (hl : ∀ p y, G p = some y → Lms T y) (h : Mid2 T k z G s d D) : Gv (gP T s) (key T) T.length := by
  obtain ⟨W, h1, _⟩ := h.iv
  refine ⟨fun p x hx => ?_, fun p r q x z y h2 h3 hx hz hy e => ?_⟩
  · obtain ⟨a1, a2, _, a4, _⟩ := gP_iff.1 hx
    exact ⟨a1, a4, (h1.part (ruleL_ok T 1 G hG) a2).1⟩
  · obtain ⟨_, a2, a3, _⟩ := gP_iff.1 hx
    obtain ⟨_, b2, b3, _⟩ := gP_iff.1 hz
    obtain ⟨_, c2, c3, _⟩ := gP_iff.1 hy
    have := flatL hG hl h1 p r q x z y h2 h3 a2 b2 c2 (by rw [keyL_not a3, keyL_not c3]; exact e)
    rwa [keyL_not b3, keyL_not c3] at this
theorem RL2.mid {T : List Nat} {k z b c d : Nat} {G : Nat → Option Nat} {SA B D : List Int} (hG : GoodG T G) (hl : ∀ p y, G p = some y → Lms T y) (hz : Lms T z) (h : RL2 T k z G T.length SA B D b c d) :
    ∃ s, Mid2 T k z G s d D ∧ Btw (gP T s) (key T) T.length T.length SA := by
  obtain ⟨s, W, mk, Df, h1, h2, h3, h4, h5, h6, h7⟩ := h
  have hz0 := hz.1
  have hn := fun p (hp : p < T.length) => h3.2 p hp
  have hLs : ∀ p v, s.A p = some v → St T (v - 1) → ¬ St T v := fun p v hv hs => by
    rcases (h1.at' _ _).1 hv with ⟨w, hw, rfl, _⟩ | hg2
    · exact (h1.ty w hw).1
    · exact absurd hs (hl _ _ hg2).2.2
  refine ⟨s, ⟨⟨W, h1, h2⟩, h5, h7.1, fun t ht => ?_⟩, h3.1, fun p hp hg => ?_, fun p x hp hx => ?_, fun p x hp hx => ?_, fun p q x y hp hq hx hy => ?_⟩
  · have : ∃ c b, c < k ∧ tt c b = t := by
      by_cases e : t % 2 = 0
      · exact ⟨t / 2, true, by omega, by unfold tt; rw [if_pos rfl]; omega⟩
      · exact ⟨t / 2, false, by omega, by unfold tt; rw [if_neg (by decide)]; omega⟩
    obtain ⟨c', b', hc', rfl⟩ := this
    refine ⟨Df c' b', ?_, h7.2 c' b' hc'⟩
    rcases h6.hi c' b' with ⟨w, hw, _, _, _, e⟩ | e
    · have := dc_mono (ruleL T 1 G).act s.A mk (h1.le w hw).1
      have := h6.d
      omega
    · omega
  · have hx := hn p hp
    rw [decide_eq_true hp] at hx
    cases hv : s.A p with
    | none => rw [hv] at hx; exact hx
    | some v =>
      rw [hv] at hx
      by_cases hs : St T (v - 1)
      · have := h5 p v hv
        rw [gP_iff.2 ⟨hp, hv, hLs p v hv hs, by omega, hs⟩] at hg
        cases hg
      · simpa only [E2L, if_neg hs, if_true] using hx
  · obtain ⟨_, a2, a3, a4, a5⟩ := gP_iff.1 hx
    have hc := hn p hp
    rw [decide_eq_true hp, a2] at hc
    have hc : rd SA (p : Int) = (x : Int) - 1 + mn T.length (mk p) := by simpa only [E2L, if_pos a5, if_true] using hc
    have hact : (ruleL T 1 G).act x = false := decide_eq_false fun h => h.2 a5
    have he : decide (FstM (gP T s) (key T) p x) = mk p := by
      have h8 := h6.ok p x a2
      have h9 : FstM (gP T s) (key T) p x ↔ mk p = true := by
        rw [h8]
        constructor
        · intro hf p' x' hp' hx' hax e
          have hzx := h5 p' x' hx'
          have hs' : St T (x' - 1) := Classical.byContradiction fun hs => by
            have : (ruleL T 1 G).act x' = true := decide_eq_true ⟨by omega, hs⟩
            rw [this, hact] at hax
            cases hax
          have hL := hLs p' x' hx' hs'
          rw [keyL_not hL, keyL_not a3] at e
          exact hf p' x' hp' (gP_iff.2 ⟨by omega, hx', hL, by omega, hs'⟩) e
        · intro hf p' x' hp' hx' e
          obtain ⟨_, b2, b3, _, b5⟩ := gP_iff.1 hx'
          refine hf p' x' hp' b2 ?_ (by rw [keyL_not b3, keyL_not a3]; exact e)
          rw [hact]
          exact decide_eq_false fun h => h.2 b5
      cases hm : mk p with
      | true => exact decide_eq_true (h9.2 hm)
      | false => exact decide_eq_false fun h => by rw [h9.1 h] at hm; cases hm
    rw [he]; exact hc
  · obtain ⟨a1, _⟩ := gP_iff.1 hx
    omega
  · obtain ⟨a1, _⟩ := gP_iff.1 hy
    omega
structure Sorted2 (T : List Nat) (SA : List Int) : Prop where
  len : SA.length = T.length
  ex : ∃ S : List Int, Sorted1 T S ∧ ∀ u, u < T.length → (rd S (u : Int) = 0 → rd SA (u : Int) = 0) ∧
    ∀ x : Nat, rd S (u : Int) = -1 - (x : Int) → rd SA (u : Int) = -1 - ((x : Int) + mn T.length (decide (∀ w y : Nat, u < w → w < T.length → rd S (w : Int) = -1 - (y : Int) → key T y ≠ key T x)))
theorem ghk {T : List Nat} {k z d : Nat} {G : Nat → Option Nat} {s : Ms} {D : List Int} (hG : GoodG T G) (hl : ∀ p y, G p = some y → Lms T y) (h : Mid2 T k z G s d D) :
    ∀ p q x y, p < q → GH T (fun v => 2 ≤ v ∧ St T (v - 1)) s p = some x → GH T (fun v => 2 ≤ v ∧ St T (v - 1)) s q = some y → key T y ≤ key T x := fun p q a b hp ha hb => by
  obtain ⟨W, h1, _⟩ := h.iv
  obtain ⟨g1, g2, g3, _⟩ := GH_iff.1 ha
  obtain ⟨g4, g5, g6, _⟩ := GH_iff.1 hb
  have := keys_L hG hl h1 (show T.length - 1 - q < T.length - 1 - p by omega) g5 g2
  rwa [keyL_not g3, keyL_not g6] at this
theorem flatS {T : List Nat} {k z d : Nat} {G : Nat → Option Nat} {s : Ms} {D : List Int} (hk : ∀ y, ch T y < k) (hG : GoodG T G) (hl : ∀ p y, G p = some y → Lms T y) (h : Mid2 T k z G s d D)
    (hH : GoodH T (GH T (fun v => 2 ≤ v ∧ St T (v - 1)) s)) {s2 : Ms} {W2 : List Wr} {i : Nat} (h2 : Iv (ruleS T k 1 (GH T (fun v => 2 ≤ v ∧ St T (v - 1)) s)) i s2 W2) : Flat (key T) s2 := by
  intro p r q x z y h3 h4 hx hz hy e
  have hs := fun p q x y (hp : p < q) hx hy (_ : ch T x = ch T y) => ghk hG hl h p q x y hp hx hy
  by_cases e1 : r = q
  · subst e1; rw [hz] at hy; cases hy; rfl
  · by_cases e2 : p = r
    · subst e2; rw [hx] at hz; cases hz; exact e
    · have k1 := keys_S hk hH h2 hs (show p < r by omega) hx hz
      have k2 := keys_S hk hH h2 hs (show r < q by omega) hz hy
      rw [e] at k1
      exact List.le_antisymm k1 k2
theorem Mid2.good {T : List Nat} {k z d : Nat} {G : Nat → Option Nat} {s : Ms} {D : List Int} (hG : GoodG T G) (h : Mid2 T k z G s d D) : GoodH T (GH T (fun v => 2 ≤ v ∧ St T (v - 1)) s) := by
  obtain ⟨W, h1, _⟩ := h.iv
  exact GH_good hG h1
theorem Mid2.turn {T : List Nat} {k z d : Nat} {G : Nat → Option Nat} {s : Ms} {SA D B : List Int} (h : Mid2 T k z G s d D) (hb : Btw (gP T s) (key T) T.length 0 SA) (hB : EndsTo T k k B) {c : Nat} (hc : c < k) :
    RS2 T k z (d + 1) (GH T (fun v => 2 ≤ v ∧ St T (v - 1)) s) 0 SA B D (bst T (c + 1)) c (d + 1) := by
  have hgg : ∀ p v, GH T (fun v => 2 ≤ v ∧ St T (v - 1)) s p = some v → gP T s (T.length - 1 - p) = some v := fun p v hv => by
    have h1 := (GH_iff.1 hv).1
    unfold gP
    rw [if_pos (by omega), show T.length - 1 - (T.length - 1 - p) = p by omega]; exact hv
  have hgn : ∀ p, p < T.length → GH T (fun v => 2 ≤ v ∧ St T (v - 1)) s p = none → gP T s (T.length - 1 - p) = none := fun p hp hv => by
    unfold gP
    rw [if_pos (by omega), show T.length - 1 - (T.length - 1 - p) = p by omega]; exact hv
  have hact : ∀ p v, GH T (fun v => 2 ≤ v ∧ St T (v - 1)) s p = some v → (ruleS T k 1 (GH T (fun v => 2 ≤ v ∧ St T (v - 1)) s)).act v = true := fun p v hv => by
    obtain ⟨_, _, _, h4, h5⟩ := GH_iff.1 hv
    exact decide_eq_true ⟨by omega, h5⟩
  have hDD : ∀ c' b, c' < k → ∃ e : Nat, e ≤ d ∧ rd D (tt c' b : Nat) = e := fun c' b hc' => h.D.2 _ (by unfold tt; split <;> omega)
  refine ⟨_, [], fun p => match GH T (fun v => 2 ≤ v ∧ St T (v - 1)) s p with | some x => decide (LstM (gP T s) (key T) (T.length - 1 - p) x) | none => false, fun c' b => (rd D (tt (k - 1 - c') b : Nat)).toNat, Iv.zero 0, ⟨hb.len, fun p hp => ?_⟩, ptS_start hB hc 1 (GH T (fun v => 2 ≤ v ∧ St T (v - 1)) s), fun p v hv => ?_, ⟨fun p x hx => ?_, rfl, fun w hw => by simp at hw, fun c' b => .inr ?_⟩, h.D.1, fun c' b hc' => ?_⟩
  · rw [decide_eq_false (Nat.not_lt_zero p)]
    show E2S T _ false (GH T _ s p) _
    cases hv : GH T (fun v => 2 ≤ v ∧ St T (v - 1)) s p with
    | none => exact hb.none _ (by omega) (hgn p hp hv)
    | some v =>
      have h5 := (GH_iff.1 hv).2.2.2.2
      simp only [E2S, if_pos h5, Bool.false_eq_true, if_false]
      rw [hv]
      exact hb.high _ v (Nat.zero_le _) (hgg p v hv)
  · exact Nat.le_of_lt (h.z _ v (GH_iff.1 hv).2.1)
  · have hx : GH T (fun v => 2 ≤ v ∧ St T (v - 1)) s p = some x := hx
    dsimp only
    rw [hx]
    dsimp only
    rw [decide_eq_true_iff]
    constructor
    · intro hf p' x' hp' hx' _
      exact hf (T.length - 1 - p') x' (by have := (GH_iff.1 hx).1; have := (GH_iff.1 hx').1; omega) (hgg _ _ hx')
    · intro hf q x' hq hx'
      have h6 := (gP_iff.1 hx').1
      have h7 : GH T (fun v => 2 ≤ v ∧ St T (v - 1)) s (T.length - 1 - q) = some x' := by
        unfold gP at hx'
        rw [if_pos h6] at hx'; exact hx'
      exact hf (T.length - 1 - q) x' (by have := (GH_iff.1 hx).1; omega) h7 (by rw [hact _ _ h7, hact _ _ hx])
  · by_cases hk0 : k = 0
    · omega
    · obtain ⟨e, he1, he2⟩ := hDD (k - 1 - c') b (by omega)
      rw [he2]; omega
  · obtain ⟨e, he1, he2⟩ := hDD c' b hc'
    show rd D (tt c' b : Nat) = (((rd D (tt (k - 1 - (k - 1 - c')) b : Nat)).toNat : Nat) : Int)
    rw [show k - 1 - (k - 1 - c') = c' by omega, he2]; omega
theorem RS2.sorted {T : List Nat} {k z base b c d d0 : Nat} {G : Nat → Option Nat} {s : Ms} {SA B D D0 : List Int} (hT : Txt T k) (hG : Seeds1 T G) (hz : Lms T z) (hm : Mid2 T k z G s d0 D0) (h : RS2 T k z base (GH T (fun v => 2 ≤ v ∧ St T (v - 1)) s) T.length SA B D b c d) : Sorted2 T SA := by
  obtain ⟨s2, W2, mk, Df, h1, h3, h4, h5, h6, h7⟩ := h
  obtain ⟨W, g1, g2⟩ := hm.iv
  have hH := hm.good hG.good
  have hz0 := hz.1
  let S : List Int := (List.range T.length).map fun u => match s2.A (T.length - 1 - u) with | none => 0 | some v => if St T (v - 1) then 0 else -1 - (v : Int)
  have hSl : S.length = T.length := by show ((List.range T.length).map _).length = _; rw [List.length_map, List.length_range]
  have hS : ∀ u, u < T.length → rd S (u : Int) = match s2.A (T.length - 1 - u) with | none => 0 | some v => if St T (v - 1) then 0 else -1 - (v : Int) := fun u hu => by
    rw [rd_getElem (by rw [hSl]; exact hu)]
    show ((List.range T.length).map _)[u] = _
    rw [List.getElem_map, List.getElem_range]
  have hS1 : Sorted1 T S := Fin1.sorted hT hG ⟨s, W, g1, g2, hH, B, b, c, s2, W2, h1, ⟨hSl, fun p hp => by
    rw [decide_eq_true hp]
    show E1S T true (s2.A p) (rd S ((T.length - 1 - p : Nat) : Int))
    rw [hS _ (by omega), show T.length - 1 - (T.length - 1 - p) = p by omega]
    cases hv : s2.A p with
    | none => rfl
    | some v =>
      by_cases hs : St T (v - 1)
      · simp only [E1S, if_pos hs, if_true]
      · simp only [E1S, if_neg hs]⟩, h4, fun p v hv => by have := h5 p v hv; omega⟩
  refine ⟨h3.1, S, hS1, fun u hu => ⟨fun h0 => ?_, fun x hx => ?_⟩⟩
  · have hc := h3.2 (T.length - 1 - u) (by omega)
    rw [decide_eq_true (by omega), show T.length - 1 - (T.length - 1 - u) = u by omega] at hc
    rw [hS u hu] at h0
    cases hv : s2.A (T.length - 1 - u) with
    | none => rw [hv] at hc; exact hc
    | some v =>
      rw [hv] at hc h0
      by_cases hs : St T (v - 1)
      · simpa only [E2S, if_pos hs, if_true] using hc
      · dsimp only at h0; rw [if_neg hs] at h0; omega
  · have hc := h3.2 (T.length - 1 - u) (by omega)
    rw [decide_eq_true (by omega), show T.length - 1 - (T.length - 1 - u) = u by omega] at hc
    have hcell : ∀ w (y : Nat), w < T.length → (rd S (w : Int) = -1 - (y : Int) ↔ s2.A (T.length - 1 - w) = some y ∧ ¬ St T (y - 1)) := fun w y hw => by
      rw [hS w hw]
      cases hv : s2.A (T.length - 1 - w) with
      | none => exact ⟨fun h => by dsimp only at h; omega, fun h => by cases h.1⟩
      | some v =>
        dsimp only
        by_cases hs : St T (v - 1)
        · rw [if_pos hs]
          exact ⟨fun h => by omega, fun h => by cases h.1; exact absurd hs h.2⟩
        · rw [if_neg hs]
          constructor
          · intro h
            obtain rfl : v = y := by omega
            exact ⟨rfl, hs⟩
          · rintro ⟨h, _⟩; cases h; rfl
    obtain ⟨hv, hs⟩ := (hcell u x hu).1 hx
    rw [hv] at hc
    have hc : rd SA (u : Int) = -1 - ((x : Int) + mn T.length (mk (T.length - 1 - u))) := by simpa only [E2S, if_neg hs] using hc
    rw [hc]
    congr 3
    have hact : (ruleS T k 1 (GH T (fun v => 2 ≤ v ∧ St T (v - 1)) s)).act x = false := decide_eq_false fun h => hs h.2
    have h9 : (∀ w y : Nat, u < w → w < T.length → rd S (w : Int) = -1 - (y : Int) → key T y ≠ key T x) ↔ mk (T.length - 1 - u) = true := by
      rw [h6.ok _ x hv]
      constructor
      · intro hf p' x' hp' hx' hax
        have hzx := h5 p' x' hx'
        have hs' : ¬ St T (x' - 1) := fun hs' => by
          have : x' ≠ z := fun e => by subst e; exact hz.2.2 hs'
          have : (ruleS T k 1 (GH T (fun v => 2 ≤ v ∧ St T (v - 1)) s)).act x' = true := decide_eq_true ⟨by omega, hs'⟩
          rw [this, hact] at hax
          cases hax
        exact hf (T.length - 1 - p') x' (by omega) (by omega) ((hcell _ x' (by omega)).2 ⟨by rw [show T.length - 1 - (T.length - 1 - p') = p' by omega]; exact hx', hs'⟩)
      · intro hf w y huw hw hy
        obtain ⟨b1, b2⟩ := (hcell w y hw).1 hy
        exact hf (T.length - 1 - w) y (by omega) b1 (by rw [hact]; exact decide_eq_false fun h => b2 h.2)
    cases hm2 : mk (T.length - 1 - u) with
    | true => exact (decide_eq_true (h9.2 hm2)).symm
    | false => exact (decide_eq_false fun h => by rw [h9.1 h] at hm2; cases hm2).symm
end Go.Proofs.Ytcibehgcibojnaa.Sais

namespace Go.Proofs.Ytcibehgcibojnaa.Sais
open Go.Proofs.Ytcibehgcibojnaa.Vm Classical
def LastK (T L : List Nat) (a : Nat) : Prop := a + 1 < L.length → key T (ch L a) ≠ key T (ch L (a + 1))
noncomputable def mkN (T L : List Nat) (n a : Nat) : Nat := if LastK T L a then n else 0
theorem neg_some {c : Int} {x : Nat} : neg c = some x ↔ c = -1 - (x : Int) := by
  unfold neg
  split
  · constructor
    · intro h; cases h; omega
    · intro h; congr 1; omega
  · constructor
    · intro h; cases h
    · intro h; omega
theorem pk_two {S SA : List Int} {n : Nat} (hl : S.length = n) (hl2 : SA.length = n) (h : ∀ u, u < n → (rd S (u : Int) = 0 ∧ rd SA (u : Int) = 0) ∨ ∃ x y : Nat, rd S (u : Int) = -1 - (x : Int) ∧ rd SA (u : Int) = -1 - (y : Int)) : ∀ i, i ≤ n →
    (pk SA i).length = (pk S i).length ∧ ∀ a, a < (pk S i).length → ∃ u, u < i ∧ (pk S u).length = a ∧ rd S (u : Int) = -1 - (ch (pk S i) a : Int) ∧ rd SA (u : Int) = -1 - (ch (pk SA i) a : Int)
  | 0, _ => ⟨rfl, fun a ha => by simp [pk] at ha⟩
  | i + 1, hi => by
    obtain ⟨ih1, ih2⟩ := pk_two hl hl2 h i (by omega)
    rcases h i (by omega) with ⟨h1, h2⟩ | ⟨x, y, h1, h2⟩
    · have e1 : pk S (i + 1) = pk S i := by rw [pk_succ (by omega), h1]; simp [neg]
      have e2 : pk SA (i + 1) = pk SA i := by rw [pk_succ (by omega), h2]; simp [neg]
      rw [e1, e2]
      exact ⟨ih1, fun a ha => by
        obtain ⟨u, g1, g2⟩ := ih2 a ha
        exact ⟨u, by omega, g2⟩⟩
    · have e1 : pk S (i + 1) = pk S i ++ [x] := by rw [pk_succ (by omega), neg_some.2 h1]; rfl
      have e2 : pk SA (i + 1) = pk SA i ++ [y] := by rw [pk_succ (by omega), neg_some.2 h2]; rfl
      rw [e1, e2, List.length_append, List.length_append]
      refine ⟨by simp [ih1], fun a ha => ?_⟩
      by_cases e : a = (pk S i).length
      · subst e
        refine ⟨i, by omega, rfl, ?_, ?_⟩
        · rw [ch_append_mid]; exact h1
        · rw [← ih1, ch_append_mid]; exact h2
      · simp only [List.length_cons, List.length_nil] at ha
        obtain ⟨u, g1, g2, g3, g4⟩ := ih2 a (by omega)
        exact ⟨u, by omega, g2, by rw [ch_append_left (by omega)]; exact g3, by rw [ch_append_left (by omega)]; exact g4⟩
theorem Srt.le_of {T L : List Nat} (h : Srt T L) {a b c : Nat} (hab : a ≤ b) (hbc : b ≤ c) (hc : c < L.length) (e : key T (ch L a) = key T (ch L c)) : key T (ch L b) = key T (ch L a) := by
  rcases Nat.eq_or_lt_of_le hab with h1 | h1
  · rw [h1]
  · rcases Nat.eq_or_lt_of_le hbc with h2 | h2
    · rw [h2, e]
    · have k1 := (h.at h1 (by omega)).2
      have k2 := (h.at h2 hc).2
      rw [← e] at k2
      exact List.le_antisymm k2 k1
theorem Sorted2.pack {T : List Nat} {SA : List Int} (h : Sorted2 T SA) : ∃ L, Srt T L ∧ (pk SA T.length).length = L.length ∧ ∀ a, a < L.length → ch (pk SA T.length) a = ch L a + mkN T L T.length a := by
  obtain ⟨S, h1, h2⟩ := h.ex
  have hS := h1.srt
  have h3 := pk_two h1.len h.len (fun u hu => by
    rcases h1.cell u hu with h3 | ⟨x, _, h3⟩
    · exact .inl ⟨h3, (h2 u hu).1 h3⟩
    · have h4 := (h2 u hu).2 x h3
      refine .inr ⟨x, x + (if decide (∀ w y : Nat, u < w → w < T.length → rd S (w : Int) = -1 - (y : Int) → key T y ≠ key T x) = true then T.length else 0), h3, ?_⟩
      rw [h4]
      unfold mn
      split <;> simp) T.length (Nat.le_refl _)
  refine ⟨pk S T.length, hS, h3.1, fun a ha => ?_⟩
  obtain ⟨u, g1, g2, g3, g4⟩ := h3.2 a ha
  have h4 := (h2 u g1).2 _ g3
  rw [g4] at h4
  have h5 : (∀ w y : Nat, u < w → w < T.length → rd S (w : Int) = -1 - (y : Int) → key T y ≠ key T (ch (pk S T.length) a)) ↔ LastK T (pk S T.length) a := by
    constructor
    · intro hf ha2 e
      obtain ⟨w, k1, k2, k3, _⟩ := h3.2 (a + 1) ha2
      have huw : u < w := Nat.lt_of_not_le fun hle => by
        have := pk_mono (SA := S) hle (by rw [h1.len]; omega)
        omega
      exact hf w _ huw k1 k3 e.symm
    · intro hf w y huw hw hy e
      have k1 : pk S (w + 1) = pk S w ++ [y] := by rw [pk_succ (by rw [h1.len]; exact hw), neg_some.2 hy]; rfl
      have k2 : ∃ r, pk S T.length = pk S (w + 1) ++ r := by
        refine ⟨(S.drop (w + 1)).filterMap neg, ?_⟩
        unfold pk
        rw [← List.filterMap_append, List.take_append_drop, List.take_of_length_le (by rw [h1.len]; exact Nat.le_refl _)]
      obtain ⟨r, k2⟩ := k2
      have k3 : ch (pk S T.length) (pk S w).length = y := by
        rw [k2, ch_append_left (by rw [k1, List.length_append]; simp), k1, ch_append_mid]
      have k4 := pk_mono (SA := S) (show u + 1 ≤ w from huw) (by rw [h1.len]; omega)
      have k5 : (pk S (u + 1)).length = a + 1 := by rw [pk_succ (by rw [h1.len]; exact g1), neg_some.2 g3, List.length_append, g2]; rfl
      have k6 : (pk S w).length < (pk S T.length).length := by rw [k2, k1, List.length_append, List.length_append]; simp; omega
      have ha2 : a + 1 < (pk S T.length).length := by omega
      have k7 := hS.le_of (show a ≤ a + 1 by omega) (show a + 1 ≤ (pk S w).length by omega) k6 (by rw [k3, e])
      exact hf ha2 k7.symm
  unfold mkN
  by_cases hk : LastK T (pk S T.length) a
  · rw [if_pos hk]
    rw [show decide (∀ w y : Nat, u < w → w < T.length → rd S (w : Int) = -1 - (y : Int) → key T y ≠ key T (ch (pk S T.length) a)) = true from decide_eq_true (h5.2 hk), mn_true] at h4
    omega
  · rw [if_neg hk]
    rw [show decide (∀ w y : Nat, u < w → w < T.length → rd S (w : Int) = -1 - (y : Int) → key T y ≠ key T (ch (pk S T.length) a)) = false from decide_eq_false (mt h5.1 hk), mn_false] at h4
    omega
noncomputable def mc (T L : List Nat) (c : Nat) : Nat := if c < L.length then nmAt T L c - 1 else nmAt T L (L.length - 1)
theorem mc_zero {T L : List Nat} (h : 0 < L.length) : mc T L 0 = 0 := by
  unfold mc
  rw [if_pos h]
  rfl
theorem mc_succ {T L : List Nat} {c : Nat} (hc : c < L.length) : mc T L (c + 1) = mc T L c + if LastK T L c then 1 else 0 := by
  have hp := nmAt_pos T L c
  unfold mc
  rw [if_pos hc]
  by_cases h : c + 1 < L.length
  · rw [if_pos h]
    show nmAt T L c + (if key T (ch L c) = key T (ch L (c + 1)) then 0 else 1) - 1 = _
    by_cases hk : key T (ch L c) = key T (ch L (c + 1))
    · rw [if_pos hk, if_neg (show ¬ LastK T L c from fun hf => hf h hk)]; omega
    · rw [if_neg hk, if_pos (show LastK T L c from fun _ => hk)]; omega
  · rw [if_neg h, if_pos (show LastK T L c from fun h2 => absurd h2 h), show L.length - 1 = c by omega]; omega
theorem mc_le {T L : List Nat} {c : Nat} (h0 : 0 < L.length) (hc : c ≤ L.length) : mc T L c ≤ c := by
  unfold mc
  split
  · have := nmAt_le T L c; omega
  · have := nmAt_le T L (L.length - 1); omega
theorem mc_all {T L : List Nat} : mc T L L.length = nmAt T L (L.length - 1) := by
  unfold mc
  rw [if_neg (Nat.lt_irrefl _)]
def Nz (SA : List Int) (n : Nat) : Prop := SA.length = n ∧ ∀ u, u < n → rd SA (u : Int) = 0 ∨ (rd SA (u : Int) < 0 ∧ -1 - 2 * (n : Int) ≤ rd SA (u : Int))
theorem Sorted2.nz {T : List Nat} {SA : List Int} (h : Sorted2 T SA) : Nz SA T.length := by
  obtain ⟨S, h1, h2⟩ := h.ex
  refine ⟨h.len, fun u hu => ?_⟩
  rcases h1.cell u hu with h3 | ⟨x, hx, h3⟩
  · exact .inl ((h2 u hu).1 h3)
  · have h4 := (h2 u hu).2 x h3
    have h5 := lms_lt hx
    have h6 : ∀ b, 0 ≤ mn T.length b ∧ mn T.length b ≤ T.length := fun b => by unfold mn; split <;> omega
    have h7 := h6 (decide (∀ w y : Nat, u < w → w < T.length → rd S (w : Int) = -1 - (y : Int) → key T y ≠ key T x))
    refine .inr ⟨by omega, by omega⟩
theorem pk_at {SA : List Int} {n i : Nat} (h : Nz SA n) (hi : i < n) (hx : rd SA (i : Int) < 0) : (pk SA i).length < (pk SA n).length ∧ -1 - rd SA (i : Int) = (ch (pk SA n) (pk SA i).length : Nat) := by
  have hl := h.1
  have k1 := pk_neg (SA0 := SA) (i := i) (by omega) rfl hx
  have k2 : pk SA n = pk SA (i + 1) ++ (SA.drop (i + 1)).filterMap neg := by
    unfold pk
    rw [← List.filterMap_append, List.take_append_drop, List.take_of_length_le (by omega)]
  have k3 : ch (pk SA n) (pk SA i).length = (-1 - rd SA (i : Int)).toNat := by
    rw [k2, ch_append_left (by rw [k1, List.length_append]; simp), k1, ch_append_mid]
  refine ⟨by rw [k2, k1, List.length_append, List.length_append]; simp; omega, by rw [k3]; omega⟩
structure Pkd (T L : List Nat) (SA : List Int) : Prop where
  len : SA.length = T.length
  fst : ∀ a, a < L.length → rd SA (a : Int) = (ch L a + mkN T L T.length a : Nat)
  rst : ∀ u, L.length ≤ u → u < T.length → rd SA (u : Int) = 0
theorem Packed.pkd {T L : List Nat} {SA0 SA : List Int} {i : Nat} (h0 : Nz SA0 T.length) (hL : (pk SA0 T.length).length = L.length) (hP : ∀ a, a < L.length → ch (pk SA0 T.length) a = ch L a + mkN T L T.length a) (h : Packed SA0 i SA) (hi : (pk SA0 i).length = L.length) : Pkd T L SA := by
  have hl := h0.1
  have e : pk SA0 i = pk SA0 T.length := by
    rw [← hl]
    exact pk_full (by rw [hl, hL, hi])
  refine ⟨by rw [h.len, hl], fun a ha => ?_, fun u hu1 hu2 => ?_⟩
  · rw [h.fst a (by omega), e, hP a ha]
  · by_cases hui : u < i
    · exact h.mid u (by omega) hui
    · rw [h.rst u (by omega) (by omega)]
      rcases h0.2 u hu2 with h1 | ⟨h1, _⟩
      · exact h1
      · exfalso
        have h2 := (pk_at h0 hu2 h1).1
        have h3 := pk_mono (SA := SA0) (show i ≤ u by omega) (by omega)
        omega
structure Nm2 (T L : List Nat) (i : Nat) (SA : List Int) : Prop where
  len : SA.length = T.length
  fst : ∀ a, a < L.length → rd SA (a : Int) = (ch L a + mkN T L T.length a : Nat)
  new : ∀ a, i ≤ a → a < L.length → rd SA ((L.length + ch L a / 2 : Nat) : Int) = (nmAt T L a : Nat)
  rst : ∀ u, L.length ≤ u → u < T.length → (∀ a, i ≤ a → a < L.length → L.length + ch L a / 2 ≠ u) → rd SA (u : Int) = 0
theorem Pkd.nm {T L : List Nat} {SA : List Int} (h : Pkd T L SA) : Nm2 T L L.length SA := ⟨h.len, h.fst, fun a h1 h2 => by omega, fun u h1 h2 _ => h.rst u h1 h2⟩
theorem Nm2.step {T L : List Nat} {i : Nat} {SA : List Int} (hS : Srt T L) (h2m : 2 * L.length ≤ T.length) (h : Nm2 T L (i + 1) SA) (hi : i < L.length) {x : Int} (hx : x = (nmAt T L i : Nat)) :
    L.length + ch L i / 2 < T.length ∧ Nm2 T L i (wr SA ((L.length + ch L i / 2 : Nat) : Int) x) := by
  have h1 := lms_lt (hS.lms hi)
  have hlt : L.length + ch L i / 2 < T.length := by omega
  have hne : ∀ a, a < L.length → a ≠ i → ch L a / 2 ≠ ch L i / 2 := fun a ha hai => half_ne (hS.lms ha) (hS.lms hi) (by
    rcases Nat.lt_or_gt_of_ne hai with h3 | h3
    · exact (hS.at h3 hi).1
    · exact fun e => (hS.at h3 ha).1 e.symm)
  refine ⟨hlt, ⟨by rw [wr_length]; exact h.len, fun a ha => ?_, fun a ha1 ha2 => ?_, fun u hu1 hu2 hu3 => ?_⟩⟩
  · rw [rd_wr (by rw [h.len]; exact hlt), if_neg (by omega)]; exact h.fst a ha
  · rw [rd_wr (by rw [h.len]; exact hlt)]
    by_cases e : a = i
    · rw [e, if_pos rfl, hx]
    · have := hne a ha2 e
      rw [if_neg (by omega)]; exact h.new a (by omega) ha2
  · have := hu3 i (Nat.le_refl _) hi
    rw [rd_wr (by rw [h.len]; exact hlt), if_neg (by omega)]; exact h.rst u hu1 hu2 fun a h3 h4 => hu3 a (by omega) h4
noncomputable def dN (T L : List Nat) (i : Nat) : Nat := if i < L.length then nmAt T L i else nmAt T L (L.length - 1) + 1
theorem dN_step {T L : List Nat} {i : Nat} (hi : i < L.length) : dN T L (i + 1) = nmAt T L i + if LastK T L i then 1 else 0 := by
  unfold dN
  by_cases h : i + 1 < L.length
  · rw [if_pos h]
    show nmAt T L i + (if key T (ch L i) = key T (ch L (i + 1)) then 0 else 1) = _
    by_cases hk : key T (ch L i) = key T (ch L (i + 1))
    · rw [if_pos hk, if_neg (show ¬ LastK T L i from fun hf => hf h hk)]
    · rw [if_neg hk, if_pos (show LastK T L i from fun _ => hk)]
  · rw [if_neg h, if_pos (show LastK T L i from fun h2 => absurd h2 h), show L.length - 1 = i by omega]
theorem dN_at {T L : List Nat} {i : Nat} (hi : i < L.length) : dN T L i = nmAt T L i := if_pos hi
end Go.Proofs.Ytcibehgcibojnaa.Sais

namespace Go.Proofs.Ytcibehgcibojnaa.Sais
open Go.Proofs.Ytcibehgcibojnaa.Vm Classical
def lcn (T L : List Nat) (c : Nat) : Nat := L.countP fun x => decide (ch T x = c)
theorem lcn_le {T L : List Nat} (h1 : L.Nodup) (h2 : ∀ x ∈ L, Lms T x) (c : Nat) : lcn T L c ≤ bsz T c (sb T) := by
  have h3 : (L.filter fun x => decide (ch T x = c)).length ≤ bsz T c (sb T) := by
    refine nodup_count _ T.length _ (h1.sublist List.filter_sublist) fun y hy => ?_
    have h4 := List.mem_filter.1 hy
    have h5 := h2 y h4.1
    have h6 := lms_lt h5
    have h7 := of_decide_eq_true h4.2
    refine ⟨by omega, ?_⟩
    simp [sb, lb, h5.2.1, h7]
  unfold lcn
  rw [List.countP_eq_length_filter]
  exact h3
structure SrtS (T L : List Nat) : Prop where
  ord : L.Pairwise (Sl T)
  mem : ∀ y, y ∈ L ↔ Lms T y
theorem SrtS.nodup {T L : List Nat} (h : SrtS T L) : L.Nodup := List.nodup_iff_pairwise_ne.2 (h.ord.imp fun h e => by subst e; exact sl_irrefl T _ h)
theorem SrtS.len {T L : List Nat} (h : SrtS T L) : L.length = (lmsF T 0).length := by
  have h2 : (lmsF T 0).Nodup := List.nodup_iff_pairwise_ne.2 ((lmsF_sorted T 0).imp fun h => Nat.ne_of_lt h)
  exact Nat.le_antisymm (nodup_le h.nodup fun x hx => lmsF_mem.2 ⟨Nat.zero_le _, (h.mem x).1 hx⟩) (nodup_le h2 fun x hx => (h.mem x).2 (lmsF_mem.1 hx).2)
theorem SrtS.lms {T L : List Nat} (h : SrtS T L) {i : Nat} (hi : i < L.length) : Lms T (ch L i) := (h.mem _).1 (by
  rw [show ch L i = L[i] by simp [ch, hi]]
  exact List.getElem_mem _)
theorem SrtS.at {T L : List Nat} (h : SrtS T L) {i j : Nat} (hij : i < j) (hj : j < L.length) : Sl T (ch L i) (ch L j) := by
  have := List.pairwise_iff_getElem.1 h.ord i j (by omega) hj hij
  simpa [ch, hj, show i < L.length by omega] using this
theorem SrtS.chle {T L : List Nat} (h : SrtS T L) {i j : Nat} (hij : i ≤ j) (hj : j < L.length) : ch T (ch L i) ≤ ch T (ch L j) := by
  rcases Nat.eq_or_lt_of_le hij with e | hlt
  · rw [e]; exact Nat.le_refl _
  · have h1 := lms_lt (h.lms (show i < L.length by omega))
    have h2 := lms_lt (h.lms hj)
    rcases (sl_iff T (by omega) (by omega)).1 (h.at hlt hj) with h3 | h3 <;> omega
def plc (T L : List Nat) (b : Nat) : Nat := bst T (ch T (ch L b) + 1) - 1 - lcn T (L.drop (b + 1)) (ch T (ch L b))
theorem drop_cons {L : List Nat} {b : Nat} (h : b < L.length) : L.drop b = ch L b :: L.drop (b + 1) := by
  rw [List.drop_eq_getElem_cons h]
  simp [ch, h]
theorem lcn_cons (T : List Nat) (x : Nat) (L : List Nat) (c : Nat) : lcn T (x :: L) c = lcn T L c + if ch T x = c then 1 else 0 := by
  unfold lcn
  rw [List.countP_cons]
  congr 1
  by_cases h : ch T x = c <;> simp [h]
theorem SrtS.room {T L : List Nat} (h : SrtS T L) {b : Nat} (hb : b < L.length) : lcn T (L.drop (b + 1)) (ch T (ch L b)) + 1 ≤ bsz T (ch T (ch L b)) (sb T) := by
  have h1 := lcn_le (T := T) (L := L.drop b) (h.nodup.sublist (List.drop_sublist _ _)) (fun x hx => (h.mem x).1 (List.mem_of_mem_drop hx)) (ch T (ch L b))
  rw [drop_cons hb, lcn_cons, if_pos rfl] at h1
  exact h1
theorem SrtS.plc_in {T L : List Nat} (h : SrtS T L) {b : Nat} (hb : b < L.length) : bst T (ch T (ch L b)) + bsz T (ch T (ch L b)) (lb T) ≤ plc T L b ∧ plc T L b < bst T (ch T (ch L b) + 1) := by
  have h1 := h.room hb
  have h2 := bst_succ T (ch T (ch L b)) (lb T)
  have h3 : bsz T (ch T (ch L b)) (sb T) = bsz T (ch T (ch L b)) fun y => !lb T y := rfl
  unfold plc
  omega
theorem SrtS.plc_lt {T L : List Nat} (h : SrtS T L) {b : Nat} (hb : b < L.length) : plc T L b < T.length := by
  have h1 := (h.plc_in hb).2
  have h2 := bst_le T (ch T (ch L b) + 1)
  omega
theorem SrtS.plc_same {T L : List Nat} (h : SrtS T L) {b : Nat} (hb : b + 1 < L.length) (he : ch T (ch L b) = ch T (ch L (b + 1))) : plc T L b + 1 = plc T L (b + 1) := by
  have h1 := (h.plc_in (show b < L.length by omega))
  have h2 := h.room (show b < L.length by omega)
  have h4 := bst_succ T (ch T (ch L b)) (lb T)
  have h5 : bsz T (ch T (ch L b)) (sb T) = bsz T (ch T (ch L b)) fun y => !lb T y := rfl
  have h3 : lcn T (L.drop (b + 1)) (ch T (ch L b)) = lcn T (L.drop (b + 1 + 1)) (ch T (ch L b)) + 1 := by rw [drop_cons hb, lcn_cons, if_pos he.symm]
  unfold plc
  rw [← he]
  omega
theorem SrtS.plc_top {T L : List Nat} (h : SrtS T L) {b : Nat} (hb : b < L.length) (he : b + 1 < L.length → ch T (ch L b) ≠ ch T (ch L (b + 1))) : plc T L b + 1 = bst T (ch T (ch L b) + 1) := by
  have h1 := h.plc_in hb
  have h2 : lcn T (L.drop (b + 1)) (ch T (ch L b)) = 0 := by
    unfold lcn
    rw [List.countP_eq_zero]
    intro x hx
    obtain ⟨i, hi, e⟩ := List.mem_iff_getElem.1 hx
    rw [List.length_drop] at hi
    rw [List.getElem_drop] at e
    have hx2 : ch L (b + 1 + i) = x := by simp [ch, show b + 1 + i < L.length by omega, e]
    have h3 := he (by omega)
    have h4 := h.chle (show b ≤ b + 1 by omega) (show b + 1 < L.length by omega)
    have h5 := h.chle (show b + 1 ≤ b + 1 + i by omega) (show b + 1 + i < L.length by omega)
    rw [hx2] at h5
    simp only [decide_eq_true_eq]
    omega
  unfold plc at *
  rw [h2] at *
  omega
theorem SrtS.plc_step {T L : List Nat} (h : SrtS T L) {b : Nat} (hb : b + 1 < L.length) : plc T L b < plc T L (b + 1) := by
  by_cases he : ch T (ch L b) = ch T (ch L (b + 1))
  · have := h.plc_same hb he; omega
  · have h1 := h.plc_in (show b < L.length by omega)
    have h2 := h.plc_in hb
    have h3 := h.chle (show b ≤ b + 1 by omega) hb
    have hG : bst T (ch T (ch L b) + 1) ≤ bst T (ch T (ch L (b + 1))) := by
      have hle : ch T (ch L b) + 1 ≤ ch T (ch L (b + 1)) := by omega
      generalize ch T (ch L (b + 1)) = d at hle
      induction hle with
      | refl => exact Nat.le_refl _
      | step _ ih => exact Nat.le_trans ih (by rw [bst_cnt]; omega)
    omega
theorem SrtS.plc_mono {T L : List Nat} (h : SrtS T L) {b : Nat} : ∀ (d : Nat), b + d + 1 < L.length → plc T L b < plc T L (b + d + 1)
  | 0, hd => h.plc_step hd
  | d + 1, hd => Nat.lt_trans (h.plc_mono d (by omega)) (h.plc_step (b := b + d + 1) hd)
theorem SrtS.plc_mono' {T L : List Nat} (h : SrtS T L) {b b' : Nat} (hb : b < b') (hb' : b' < L.length) : plc T L b < plc T L b' := by
  have := h.plc_mono (b := b) (b' - b - 1) (by omega)
  rwa [show b + (b' - b - 1) + 1 = b' by omega] at this
theorem SrtS.plc_ge {T L : List Nat} (h : SrtS T L) : ∀ (b : Nat), b < L.length → b ≤ plc T L b
  | 0, _ => Nat.zero_le _
  | b + 1, hb => by
    have := h.plc_ge b (by omega)
    have := h.plc_step hb
    omega
theorem bst_mono (T : List Nat) {c d : Nat} (h : c ≤ d) : bst T c ≤ bst T d := by
  induction h with
  | refl => exact Nat.le_refl _
  | step _ ih => exact Nat.le_trans ih (by rw [bst_cnt]; omega)
structure Pls (T L : List Nat) (a j : Nat) (SA : List Int) : Prop where
  len : SA.length = T.length
  am : a ≤ L.length
  jn : j ≤ T.length
  low : ∀ b, b < a → rd SA (b : Int) = (ch L b : Nat)
  lowj : ∀ b, b < a → plc T L b < j
  highj : ∀ b, a ≤ b → b < L.length → j ≤ plc T L b
  hit : ∀ b, a ≤ b → b < L.length → rd SA (plc T L b : Int) = (ch L b : Nat)
  miss : ∀ p, j ≤ p → p < T.length → (∀ b, a ≤ b → b < L.length → plc T L b ≠ p) → rd SA (p : Int) = 0
theorem Pls.zero {T L : List Nat} {a j : Nat} {SA : List Int} (hS : SrtS T L) (h : Pls T L a (j + 1) SA) (hj : ∀ b, b < a → plc T L b < j) : Pls T L a j (wr SA (j : Int) 0) := by
  have hl := h.len
  have hjn := h.jn
  have haj : a ≤ j := by
    by_cases h0 : a = 0
    · omega
    · have h1 := hj (a - 1) (by omega)
      have h2 := hS.plc_ge (a - 1) (by have := h.am; omega)
      omega
  have hr : ∀ p : Nat, rd (wr SA (j : Int) 0) (p : Int) = if p = j then 0 else rd SA p := fun p => rd_wr (by omega)
  refine ⟨by rw [wr_length]; exact hl, h.am, by omega, fun b hb => ?_, hj, fun b h1 h2 => by have := h.highj b h1 h2; omega, fun b h1 h2 => ?_, fun p h1 h2 h3 => ?_⟩
  · rw [hr, if_neg (by omega)]; exact h.low b hb
  · have := h.highj b h1 h2
    rw [hr, if_neg (by omega)]; exact h.hit b h1 h2
  · rw [hr]
    by_cases e : p = j
    · rw [if_pos e]
    · rw [if_neg e]; exact h.miss p (by omega) h2 h3
theorem Pls.put {T L : List Nat} {a j : Nat} {SA : List Int} (hS : SrtS T L) (h : Pls T L (a + 1) (j + 1) SA) (hj : plc T L a = j) : Pls T L a j (wr SA (j : Int) (ch L a : Nat)) := by
  have hl := h.len
  have hjn := h.jn
  have ham := h.am
  have haj := hS.plc_ge a (by omega)
  have hr : ∀ p : Nat, rd (wr SA (j : Int) (ch L a : Nat)) (p : Int) = if p = j then ((ch L a : Nat) : Int) else rd SA p := fun p => rd_wr (by omega)
  refine ⟨by rw [wr_length]; exact hl, by omega, by omega, fun b hb => ?_, fun b hb => ?_, fun b h1 h2 => ?_, fun b h1 h2 => ?_, fun p h1 h2 h3 => ?_⟩
  · rw [hr, if_neg (by omega)]; exact h.low b (by omega)
  · have := hS.plc_mono' hb (by omega)
    omega
  · by_cases e : b = a
    · rw [e, hj]; exact Nat.le_refl _
    · have := h.highj b (by omega) h2; omega
  · by_cases e : b = a
    · rw [e, hj, hr, if_pos rfl]
    · have := h.highj b (by omega) h2
      rw [hr, if_neg (by omega)]; exact h.hit b (by omega) h2
  · have := h3 a (Nat.le_refl _) (by omega)
    rw [hr, if_neg (by omega)]
    exact h.miss p (by omega) h2 fun b h4 h5 => h3 b (by omega) h5
theorem Pls.start {T L : List Nat} {SA : List Int} (hS : SrtS T L) (hl : SA.length = T.length) (h : ∀ a, a < L.length → rd SA (a : Int) = (ch L a : Nat)) : Pls T L L.length T.length SA :=
  ⟨hl, Nat.le_refl _, Nat.le_refl _, h, fun b hb => hS.plc_lt hb, fun b h1 h2 => by omega, fun b h1 h2 => by omega, fun p h1 h2 => by omega⟩
theorem Pls.seeds {T L : List Nat} {SA : List Int} (hS : SrtS T L) (h : Pls T L 0 0 SA) : ∃ G, Seeds T G ∧ Cel0 T E3L G SA := by
  refine ⟨fun p => if h : ∃ b, b < L.length ∧ plc T L b = p then some (ch L (Classical.choose h)) else none, ?_⟩
  have hG : ∀ p y, (if h : ∃ b, b < L.length ∧ plc T L b = p then some (ch L (Classical.choose h)) else none) = some y ↔ ∃ b, b < L.length ∧ plc T L b = p ∧ ch L b = y := fun p y => by
    by_cases hp : ∃ b, b < L.length ∧ plc T L b = p
    · rw [dif_pos hp]
      obtain ⟨h1, h2⟩ := Classical.choose_spec hp
      constructor
      · intro e; exact ⟨_, h1, h2, Option.some.inj e⟩
      · rintro ⟨b, g1, g2, rfl⟩
        have : Classical.choose hp = b := by
          rcases Nat.lt_trichotomy (Classical.choose hp) b with k | k | k
          · have := hS.plc_mono' k g1; omega
          · exact k
          · have := hS.plc_mono' k h1; omega
        rw [this]
    · rw [dif_neg hp]
      constructor
      · intro e; cases e
      · rintro ⟨b, g1, g2, _⟩; exact absurd ⟨b, g1, g2⟩ hp
  have hidx : ∀ y, Lms T y → ∃ i, i < L.length ∧ ch L i = y := fun y hy => by
    obtain ⟨i, hi, e⟩ := List.mem_iff_getElem.1 ((hS.mem y).2 hy)
    exact ⟨i, hi, by simp [ch, hi, e]⟩
  have hinj : ∀ b b', b < L.length → b' < L.length → ch L b = ch L b' → b = b' := fun b b' h1 h2 e => by
    rcases Nat.lt_trichotomy b b' with k | k | k
    · have := hS.at k h2; rw [e] at this; exact absurd this (sl_irrefl T _)
    · exact k
    · have := hS.at k h1; rw [e] at this; exact absurd this (sl_irrefl T _)
  refine ⟨⟨⟨fun p y hy => ?_, fun p q y hp hq => ?_⟩, fun p y hy => ?_, fun y hy => ?_, fun p q x y hpq hx hy => ?_⟩, h.len, fun p hp => ?_⟩
  · obtain ⟨b, g1, g2, rfl⟩ := (hG p y).1 hy
    have := hS.plc_in g1
    rw [g2] at this
    exact ⟨(hS.lms g1).2.1, this⟩
  · obtain ⟨b, g1, g2, g3⟩ := (hG p y).1 hp
    obtain ⟨b', g4, g5, g6⟩ := (hG q y).1 hq
    have := hinj b b' g1 g4 (by rw [g3, g6])
    subst this
    omega
  · obtain ⟨b, g1, _, rfl⟩ := (hG p y).1 hy
    exact hS.lms g1
  · obtain ⟨i, hi, e⟩ := hidx y hy
    exact ⟨plc T L i, (hG _ _).2 ⟨i, hi, rfl, e⟩⟩
  · obtain ⟨b, g1, g2, rfl⟩ := (hG p x).1 hx
    obtain ⟨b', g4, g5, rfl⟩ := (hG q y).1 hy
    refine hS.at (Nat.lt_of_not_le fun hle => ?_) g4
    rcases Nat.eq_or_lt_of_le hle with e | hlt
    · subst e; omega
    · have := hS.plc_mono' hlt g1; omega
  · dsimp only
    cases hg : (if h : ∃ b, b < L.length ∧ plc T L b = p then some (ch L (Classical.choose h)) else none : Option Nat) with
    | none =>
      show rd SA (p : Int) = if false = true then -1 else 0
      rw [if_neg (by decide)]
      refine h.miss p (Nat.zero_le _) hp fun b _ h2 e => ?_
      rw [(hG p (ch L b)).2 ⟨b, h2, e, rfl⟩] at hg
      cases hg
    | some y =>
      obtain ⟨b, g1, g2, rfl⟩ := (hG p y).1 hg
      have h1 := h.hit b (Nat.zero_le _) g1
      rw [g2] at h1
      simp only [E3L, if_neg (show ¬ (0 < ch L b ∧ St T (ch L b - 1)) from fun h => (hS.lms g1).2.2 h.2), Bool.false_eq_true, if_false]
      exact h1
theorem Named.all {T : List Nat} {m name : Nat} {SA : List Int} (h : Named T m SA name) (hm : name = m) (hm0 : 0 < m) : ∃ L, SrtS T L ∧ L.length = m ∧ SA.length = T.length ∧ ∀ a, a < m → rd SA (a : Int) = (ch L a : Nat) := by
  obtain ⟨L, h1, h2, h3, h4, h5, _⟩ := h
  have hne : ∀ i, i + 1 < L.length → nmAt T L i + 1 ≤ nmAt T L (i + 1) := by
    have hup : ∀ d i, i + d < L.length → nmAt T L (i + d) ≤ nmAt T L i + d := fun d i => by
      induction d with
      | zero => intro _; exact Nat.le_refl _
      | succ d ih =>
        intro hd
        have := ih (by omega)
        show nmAt T L (i + d) + (if _ then 0 else 1) ≤ _
        split <;> omega
    intro i hi
    have k1 := hup (L.length - 1 - (i + 1)) (i + 1) (by omega)
    rw [show i + 1 + (L.length - 1 - (i + 1)) = L.length - 1 by omega] at k1
    have k2 := nmAt_le T L i
    rw [← h2] at h5 hm
    omega
  refine ⟨L, ⟨?_, h1.mem⟩, h2, h3, h4 hm⟩
  rw [List.pairwise_iff_getElem]
  intro i j hi hj hij
  have k1 : nmAt T L i < nmAt T L j := Nat.lt_of_lt_of_le (hne i (by omega)) (nmAt_mono T L (show i + 1 ≤ j from hij))
  have k2 := key_sl T _ _ _ (Nat.le_refl _) (nmAt_lt h1 hi hj k1)
  simpa [ch, hi, hj] using k2
end Go.Proofs.Ytcibehgcibojnaa.Sais
