/- How the passes begin, and what leads from the first to the second. No condition. Pointers to numbers held against each other. No condition. induceSA: the suffixes in their order. Conditions: the text's letters are less than k; the cells tell what is given at first. The last passes put every suffix at its place. No condition. -/
import Derived.Test.YtcibehgcibojnaaW4x02
import Derived.Test.YtcibehgcibojnaaW4x06

namespace Go.Proofs.Ytcibehgcibojnaa.Sais
open Go.Proofs.Ytcibehgcibojnaa.Vm Classical
def Cel0 (T : List Nat) (E : List Nat → Bool → Option Nat → Int → Prop) (G : Nat → Option Nat) (SA : List Int) : Prop := SA.length = T.length ∧ ∀ p, p < T.length → E T false (G p) (rd SA (p : Int))
theorem not_st_end {T : List Nat} (h : 0 < T.length) : ¬ St T (T.length - 1) := st_last T (by omega)
theorem seedL {T : List Nat} {lo k : Nat} {G : Nat → Option Nat} (hT : Txt T k) (hG : GoodG T G) {B SA : List Int} {E : List Nat → Bool → Option Nat → Int → Prop} (hB : BeginsTo T k k B) (h0 : Cel0 T E G SA) :
    bst T (ch T (T.length - 1)) < T.length ∧ ∀ x : Int, E T false (some (T.length - 1)) x → ∃ s W, Iv (ruleL T lo G) 0 s W ∧ (∃ w ∈ W, w.y + 1 = T.length) ∧ Cel T.length id (E T) 0 s (wr SA (bst T (ch T (T.length - 1)) : Nat) x) ∧
      PtL s.P k B (bst T (ch T (T.length - 1)) + 1) (ch T (T.length - 1)) ∧ ∀ p v, s.A p = some v → v + 1 = T.length ∨ G p = some v := by
  have hR := ruleL_ok T lo G hG
  have hn := hT.n0
  have hI := Iv.seed hR 0 (T.length - 1) (show T.length - 1 + 1 = T.length by omega) (not_st_end hn)
  have hA : (put (ruleL T lo G).l ⟨G, (ruleL T lo G).bs, 0⟩ (T.length - 1)).A (bst T (ch T (T.length - 1))) = some (T.length - 1) := by
    show (if bst T (ch T (T.length - 1)) = bst T (ch T (T.length - 1)) then some (T.length - 1) else G _) = _
    rw [if_pos rfl]
  have h3 := (hI.part hR hA).2.2.1
  have h3 : bst T (ch T (T.length - 1)) < bst T (ch T (T.length - 1) + 1) := h3
  have h4 := bst_le T (ch T (T.length - 1) + 1)
  refine ⟨by omega, fun x hx => ⟨_, _, hI, ⟨_, List.mem_singleton.2 rfl, by show T.length - 1 + 1 = _; omega⟩, ⟨by rw [wr_length]; exact h0.1, fun p hp => ?_⟩, ⟨hB.1, hT.lt _, ?_, fun d hd hne => ?_⟩, fun p v hv => ?_⟩⟩
  · rw [decide_eq_false (Nat.not_lt_zero p)]
    show E T false (if p = bst T (ch T (T.length - 1)) then some (T.length - 1) else G p) (rd (wr SA _ x) (p : Int))
    rw [rd_wr (by rw [h0.1]; omega)]
    by_cases e : p = bst T (ch T (T.length - 1))
    · rw [if_pos e, if_pos e]; exact hx
    · rw [if_neg e, if_neg e]; exact h0.2 p hp
  · show (if ch T (T.length - 1) = ch T (T.length - 1) then bst T _ + 1 else _) = _
    rw [if_pos rfl]
  · show rd B d = ((if d = ch T (T.length - 1) then bst T d + 1 else bst T d : Nat) : Int)
    rw [if_neg hne]
    exact hB.2 d hd
  · have hv : (if p = bst T (ch T (T.length - 1)) then some (T.length - 1) else G p) = some v := hv
    split at hv
    · cases hv; exact .inl (by omega)
    · exact .inr hv
theorem RL1.start {T : List Nat} {k : Nat} {G : Nat → Option Nat} (hT : Txt T k) (hn : 2 ≤ T.length) (hG : GoodG T G) (hpos : ∀ p v, G p = some v → 1 ≤ v) {B SA : List Int} (hB : BeginsTo T k k B) (h0 : Cel0 T E1L G SA) :
    bst T (ch T (T.length - 1)) < T.length ∧ ∀ x : Int, x = (if ch T (T.length - 2) < ch T (T.length - 1) then -1 - ((T.length : Int) - 1 - 1) else (T.length : Int) - 1 - 1) →
      RL1 T k G 0 (wr SA (bst T (ch T (T.length - 1)) : Nat) x) B (bst T (ch T (T.length - 1)) + 1) (ch T (T.length - 1)) := by
  obtain ⟨h1, h2⟩ := seedL (lo := 1) hT hG hB h0
  refine ⟨h1, fun x hx => ?_⟩
  obtain ⟨s, W, g1, g2, g3, g4, g5⟩ := h2 x (by
    have := st_of_L (not_st_end hT.n0) (by omega) (show T.length - 1 < T.length by omega)
    rw [show T.length - 1 - 1 = T.length - 2 by omega] at this
    rw [hx]
    by_cases hs : St T (T.length - 2)
    · rw [if_pos (this.1 hs)]
      simp only [E1L, show T.length - 1 - 1 = T.length - 2 by omega, if_pos hs, Bool.false_eq_true, if_false]
      omega
    · rw [if_neg (mt this.2 hs)]
      simp only [E1L, show T.length - 1 - 1 = T.length - 2 by omega, if_neg hs, Bool.false_eq_true, if_false]
      omega)
  refine ⟨s, W, g1, g2, g3, g4, fun p v hv => ?_⟩
  rcases g5 p v hv with h | h
  · omega
  · exact hpos p v h
theorem RL3.start {T : List Nat} {k : Nat} {G : Nat → Option Nat} (hT : Txt T k) (hG : GoodG T G) {B SA : List Int} (hB : BeginsTo T k k B) (h0 : Cel0 T E3L G SA) :
    bst T (ch T (T.length - 1)) < T.length ∧ ∀ x : Int, x = (if 0 < T.length - 1 ∧ ch T (T.length - 2) < ch T (T.length - 1) then -1 - ((T.length : Int) - 1) else (T.length : Int) - 1) →
      RL3 T k G 0 (wr SA (bst T (ch T (T.length - 1)) : Nat) x) B (bst T (ch T (T.length - 1)) + 1) (ch T (T.length - 1)) := by
  obtain ⟨h1, h2⟩ := seedL (lo := 0) hT hG hB h0
  have hn := hT.n0
  refine ⟨h1, fun x hx => ?_⟩
  obtain ⟨s, W, g1, g2, g3, g4, g5⟩ := h2 x (by
    rw [hx]
    by_cases hp : 0 < T.length - 1
    · have := st_of_L (not_st_end hT.n0) hp (show T.length - 1 < T.length by omega)
      rw [show T.length - 1 - 1 = T.length - 2 by omega] at this
      by_cases hs : St T (T.length - 2)
      · rw [if_pos ⟨hp, this.1 hs⟩]
        simp only [E3L, show T.length - 1 - 1 = T.length - 2 by omega, if_pos (And.intro hp hs), Bool.false_eq_true, if_false]
        omega
      · rw [if_neg (fun h => hs (this.2 h.2))]
        simp only [E3L, show T.length - 1 - 1 = T.length - 2 by omega, if_neg (show ¬ (0 < T.length - 1 ∧ St T (T.length - 2)) from fun h => hs h.2), Bool.false_eq_true, if_false]
        omega
    · rw [if_neg (fun h => hp h.1)]
      simp only [E3L, if_neg (show ¬ (0 < T.length - 1 ∧ St T (T.length - 1 - 1)) from fun h => hp h.1), Bool.false_eq_true, if_false]
      omega)
  exact ⟨s, W, g1, g2, g3, g4⟩
noncomputable def GH (T : List Nat) (q : Nat → Prop) (s : Ms) (p : Nat) : Option Nat := if p < T.length then (match s.A (T.length - 1 - p) with | some v => if ¬ St T v ∧ q v then some v else none | none => none) else none
theorem GH_iff {T : List Nat} {q : Nat → Prop} {s : Ms} {p v : Nat} : GH T q s p = some v ↔ p < T.length ∧ s.A (T.length - 1 - p) = some v ∧ ¬ St T v ∧ q v := by
  unfold GH
  by_cases h : p < T.length
  · rw [if_pos h]
    cases hv : s.A (T.length - 1 - p) with
    | none => simp [h]
    | some u =>
      dsimp only
      by_cases hu : ¬ St T u ∧ q u
      · rw [if_pos hu]
        constructor
        · intro e; cases e; exact ⟨h, rfl, hu⟩
        · rintro ⟨_, e, _⟩; exact e
      · rw [if_neg hu]
        constructor
        · intro e; cases e
        · rintro ⟨_, e, h1⟩; cases e; exact absurd h1 hu
  · rw [if_neg h]
    constructor
    · intro e; cases e
    · intro e; exact absurd e.1 h
theorem GH_good {T : List Nat} {lo : Nat} {G : Nat → Option Nat} (hG : GoodG T G) {q : Nat → Prop} {s : Ms} {W : List Wr} {i : Nat} (h : Iv (ruleL T lo G) i s W) : GoodH T (GH T q s) where
  st p y hy := by
    obtain ⟨h1, h2, h3, h4⟩ := GH_iff.1 hy
    have hR := ruleL_ok T lo G hG
    obtain ⟨g1, _, _, g4, _⟩ := h.part hR h2
    obtain ⟨w, hw, e1, e2⟩ := g4 h3
    have g5 := h.rng w hw
    have g6 := h.cap hR (ch T w.y)
    have g5 : bst T (ch T w.y) ≤ w.p ∧ w.p < bst T (ch T w.y) + (ofL (ruleL T lo G) W (ch T w.y)).length := g5
    have g6 : (ofL (ruleL T lo G) W (ch T w.y)).length ≤ bsz T (ch T w.y) (lb T) := g6
    rw [e1] at g5 g6
    exact ⟨h3, g1, T.length - 1 - p, by omega, by omega, by omega⟩
  inj p q' y hp hq := by
    obtain ⟨h1, h2, _⟩ := GH_iff.1 hp
    obtain ⟨h3, h4, _⟩ := GH_iff.1 hq
    have := h.inj (ruleL_ok T lo G hG) h2 h4
    omega
theorem ptS_start {T : List Nat} {k c : Nat} {B : List Int} (hB : EndsTo T k k B) (hc : c < k) (lo : Nat) (G : Nat → Option Nat) : PtS T.length (ruleS T k lo G).bs k B (bst T (c + 1)) c := by
  have key : ∀ d, d < k → bst T (d + 1) + (ruleS T k lo G).bs (k - 1 - d) = T.length := fun d hd => by
    show bst T (d + 1) + (T.length - bst T (k - (k - 1 - d))) = T.length
    have := bst_le T (d + 1)
    rw [show k - (k - 1 - d) = d + 1 by omega]
    omega
  refine ⟨hB.1, hc, key c hc, fun d hd _ => ?_⟩
  rw [hB.2 d hd]
  have := key d hd
  omega
theorem RL1.turn {T : List Nat} {k b c : Nat} {G : Nat → Option Nat} {SA B : List Int} (hG : GoodG T G) (hl : ∀ p y, G p = some y → Lms T y) (h : RL1 T k G T.length SA B b c) :
    ∃ s W, Iv (ruleL T 1 G) T.length s W ∧ (∃ w ∈ W, w.y + 1 = T.length) ∧ GoodH T (GH T (fun v => 2 ≤ v ∧ St T (v - 1)) s) ∧ ∀ B' c', EndsTo T k k B' → c' < k → RS1 T k (GH T (fun v => 2 ≤ v ∧ St T (v - 1)) s) 0 SA B' (bst T (c' + 1)) c' := by
  obtain ⟨s, W, h1, h2, h3, h4, h5⟩ := h
  refine ⟨s, W, h1, h2, GH_good hG h1, fun B' c' hB' hc' => ⟨_, [], Iv.zero 0, ⟨h3.1, fun p hp => ?_⟩, ptS_start hB' hc' 1 (GH T (fun v => 2 ≤ v ∧ St T (v - 1)) s), fun p v hv => ?_⟩⟩
  · rw [decide_eq_false (Nat.not_lt_zero p)]
    show E1S T false (GH T _ s p) (rd SA ((T.length - 1 - p : Nat) : Int))
    have hx : E1L T (decide (T.length - 1 - p < T.length)) (s.A (T.length - 1 - p)) (rd SA ((T.length - 1 - p : Nat) : Int)) := h3.2 (T.length - 1 - p) (by omega)
    rw [decide_eq_true (by omega)] at hx
    cases hg : GH T (fun v => 2 ≤ v ∧ St T (v - 1)) s p with
    | some v =>
      obtain ⟨_, g2, g3, g4, g5⟩ := GH_iff.1 hg
      rw [g2] at hx
      have hx : rd SA ((T.length - 1 - p : Nat) : Int) = (v : Int) - 1 := by simpa only [E1L, if_pos g5, if_true] using hx
      simp only [E1S, if_pos g5, Bool.false_eq_true, if_false]
      exact hx
    | none =>
      show rd SA ((T.length - 1 - p : Nat) : Int) = 0
      cases hv : s.A (T.length - 1 - p) with
      | none => rw [hv] at hx; exact hx
      | some v =>
        rw [hv] at hx
        by_cases hs : St T (v - 1)
        · have hx : rd SA ((T.length - 1 - p : Nat) : Int) = (v : Int) - 1 := by simpa only [E1L, if_pos hs, if_true] using hx
          have hv1 := h5 _ v hv
          by_cases h2v : 2 ≤ v
          · exfalso
            have hnl : ¬ St T v := by
              rcases (h1.at' _ _).1 hv with ⟨w, hw, rfl, _⟩ | hg2
              · exact (h1.ty w hw).1
              · exact absurd hs (hl _ _ hg2).2.2
            rw [GH_iff.2 ⟨hp, hv, hnl, h2v, hs⟩] at hg
            cases hg
          · rw [hx]; omega
        · simpa only [E1L, if_neg hs, if_true] using hx
  · obtain ⟨_, _, _, g4, _⟩ := GH_iff.1 hv
    omega
def Fin1 (T : List Nat) (k : Nat) (G : Nat → Option Nat) (SA : List Int) : Prop :=
  ∃ s W, Iv (ruleL T 1 G) T.length s W ∧ (∃ w ∈ W, w.y + 1 = T.length) ∧ GoodH T (GH T (fun v => 2 ≤ v ∧ St T (v - 1)) s) ∧ ∃ B b c, RS1 T k (GH T (fun v => 2 ≤ v ∧ St T (v - 1)) s) T.length SA B b c
def Fin3 (T : List Nat) (k : Nat) (G : Nat → Option Nat) (SA : List Int) : Prop :=
  ∃ s W, Iv (ruleL T 0 G) T.length s W ∧ (∃ w ∈ W, w.y + 1 = T.length) ∧ GoodH T (GH T (fun _ => True) s) ∧ ∃ B b c, RS3 T k (GH T (fun _ => True) s) T.length SA B b c
theorem RL3.turn {T : List Nat} {k b c : Nat} {G : Nat → Option Nat} {SA B : List Int} (hG : GoodG T G) (hl : ∀ p y, G p = some y → Lms T y) (h : RL3 T k G T.length SA B b c) :
    ∃ s W, Iv (ruleL T 0 G) T.length s W ∧ (∃ w ∈ W, w.y + 1 = T.length) ∧ GoodH T (GH T (fun _ => True) s) ∧ ∀ B' c', EndsTo T k k B' → c' < k → RS3 T k (GH T (fun _ => True) s) 0 SA B' (bst T (c' + 1)) c' := by
  obtain ⟨s, W, h1, h2, h3, h4⟩ := h
  have hR := ruleL_ok T 0 G hG
  refine ⟨s, W, h1, h2, GH_good hG h1, fun B' c' hB' hc' => ⟨_, [], Iv.zero 0, ⟨h3.1, fun p hp => ?_⟩, ptS_start hB' hc' 0 (GH T (fun _ => True) s)⟩⟩
  rw [decide_eq_false (Nat.not_lt_zero p)]
  show E3S T false (GH T _ s p) (rd SA ((T.length - 1 - p : Nat) : Int))
  have hx : E3L T (decide (T.length - 1 - p < T.length)) (s.A (T.length - 1 - p)) (rd SA ((T.length - 1 - p : Nat) : Int)) := h3.2 (T.length - 1 - p) (by omega)
  rw [decide_eq_true (by omega)] at hx
  cases hg : GH T (fun _ => True) s p with
  | some v =>
    obtain ⟨_, g2, g3, _⟩ := GH_iff.1 hg
    rw [g2] at hx
    by_cases hs : 0 < v ∧ St T (v - 1)
    · have hx : rd SA ((T.length - 1 - p : Nat) : Int) = (v : Int) := by simpa only [E3L, if_pos hs, if_true] using hx
      simp only [E3S, if_pos hs, Bool.false_eq_true, if_false]
      exact hx
    · have hx : rd SA ((T.length - 1 - p : Nat) : Int) = -1 - (v : Int) := by simpa only [E3L, if_neg hs, if_true] using hx
      simp only [E3S, if_neg hs, Bool.false_eq_true, if_false]
      exact hx
  | none =>
    show (if false = true then True else -(T.length : Int) - 1 ≤ rd SA ((T.length - 1 - p : Nat) : Int) ∧ rd SA ((T.length - 1 - p : Nat) : Int) ≤ 0)
    rw [if_neg (by decide)]
    cases hv : s.A (T.length - 1 - p) with
    | none =>
      rw [hv] at hx
      have hx : rd SA ((T.length - 1 - p : Nat) : Int) = -1 := hx
      omega
    | some v =>
      rw [hv] at hx
      have hvn : v < T.length := (h1.part hR hv).1
      have hsv : St T v := by
        refine Classical.byContradiction fun hn => ?_
        rw [GH_iff.2 ⟨hp, hv, hn, trivial⟩] at hg
        cases hg
      have hL : Lms T v := by
        rcases (h1.at' _ _).1 hv with ⟨w, hw, rfl, _⟩ | hg2
        · exact absurd hsv (h1.ty w hw).1
        · exact hl _ _ hg2
      have hx : rd SA ((T.length - 1 - p : Nat) : Int) = -1 - (v : Int) := by simpa only [E3L, if_neg (show ¬ (0 < v ∧ St T (v - 1)) from fun h => hL.2.2 h.2), if_true] using hx
      omega
theorem RL1.len {T : List Nat} {k i b c : Nat} {G : Nat → Option Nat} {SA B : List Int} (h : RL1 T k G i SA B b c) : SA.length = T.length ∧ B.length = k ∧ c < k := by
  obtain ⟨s, W, _, _, h3, h4, _⟩ := h
  exact ⟨h3.1, h4.1, h4.2.1⟩
theorem RL3.len {T : List Nat} {k i b c : Nat} {G : Nat → Option Nat} {SA B : List Int} (h : RL3 T k G i SA B b c) : SA.length = T.length ∧ B.length = k ∧ c < k := by
  obtain ⟨s, W, _, _, h3, h4⟩ := h
  exact ⟨h3.1, h4.1, h4.2.1⟩
theorem RS1.len {T : List Nat} {k i b c : Nat} {G : Nat → Option Nat} {SA B : List Int} (h : RS1 T k G i SA B b c) : SA.length = T.length ∧ B.length = k ∧ c < k ∧ b ≤ T.length := by
  obtain ⟨s, W, _, h3, h4, _⟩ := h
  have := h4.2.2.1
  exact ⟨h3.1, h4.1, h4.2.1, by omega⟩
theorem RS3.len {T : List Nat} {k i b c : Nat} {G : Nat → Option Nat} {SA B : List Int} (h : RS3 T k G i SA B b c) : SA.length = T.length ∧ B.length = k ∧ c < k ∧ b ≤ T.length := by
  obtain ⟨s, W, _, h3, h4⟩ := h
  have := h4.2.2.1
  exact ⟨h3.1, h4.1, h4.2.1, by omega⟩
end Go.Proofs.Ytcibehgcibojnaa.Sais

namespace Go.Proofs.Ytcibehgcibojnaa.Sai
open Go Go.RowKit Go.Proofs.Ytcibehgcibojnaa.Vm
theorem und42 : Und Try.prog 42 (.pointer 3) := ⟨Try.underlying42⟩
theorem info3 : (Try.prog.info? 3).map (fun i => (i.size, i.bytes, i.zero)) = some (1, 8, some (.int .i64 0)) := by kernel_rfl
theorem P_peq3 {N : Fm} {E : Env} {M : Mem} {t2 : TypeId} {x y : Operand} {b b' o o' : Nat} {l l' : List Value} (hx : ev E x = some (.pointer (some ⟨b, o, none⟩))) (hy : ev E y = some (.pointer (some ⟨b', o', none⟩)))
    {q q' : Nat} (hm : (⟨true, b, q, l⟩ : Sg) ∈ M) (hm' : (⟨true, b', q', l'⟩ : Sg) ∈ M) (hne : b ≠ b') : Pure Try.prog N E M (.binOp .eql 42 x y t2) (.bool false) := by
  have h := info3
  cases hI : Try.prog.info? 3 with
  | none => rw [hI] at h; cases h
  | some I =>
    rw [hI] at h
    simp only [Option.map_some, Option.some.injEq, Prod.mk.injEq] at h
    exact P_peq und42 hI (by rw [h.1]; decide) hx hy hm hm' hne
end Go.Proofs.Ytcibehgcibojnaa.Sai

namespace Go.Proofs.Ytcibehgcibojnaa.Saib
open Go Go.RowKit Go.Proofs.Ytcibehgcibojnaa.Vm Go.Proofs.Ytcibehgcibojnaa.Sais
set_option maxHeartbeats 8000000 in
theorem induceSA_c (T : List Nat) (k : Nat) (hT : Txt T k) (G : Nat → Option Nat) (hG : GoodG T G) (hl : ∀ p y, G p = some y → Lms T y) (SA C B : List Int) (h0 : Cel0 T E3L G SA) (hC : Cnt T T.length k C) (hB : B.length = k)
    (own : Bool) (bT oT lT cT bS oS lS cS bB oB lB cB bC oC lC cC : Nat) (F : Mem) (hlT : T.length ≤ lT) (hlS : T.length ≤ lS) (hlB : k ≤ lB) (hlC : k ≤ lC) (hne : bC ≠ bB) :
    HC Try.prog 20 #[.slice (some ⟨bT, oT, none⟩) lT cT, .slice (some ⟨bS, oS, none⟩) lS cS, .slice (some ⟨bC, oC, none⟩) lC cC, .slice (some ⟨bB, oB, none⟩) lB cB, .int .i64 T.length, .int .i64 k]
      (⟨own, bT, oT, ints .u8 (T.map Nat.cast)⟩ :: ⟨true, bS, oS, ints .i64 SA⟩ :: ⟨true, bC, oC, ints .i64 C⟩ :: ⟨true, bB, oB, ints .i64 B⟩ :: F)
      (fun v M' => v = .tuple #[] ∧ ∃ SA' B', Fin3 T k G SA' ∧ SA'.length = T.length ∧ B'.length = k ∧ M' = ⟨own, bT, oT, ints .u8 (T.map Nat.cast)⟩ :: ⟨true, bS, oS, ints .i64 SA'⟩ :: ⟨true, bC, oC, ints .i64 C⟩ :: ⟨true, bB, oB, ints .i64 B'⟩ :: F) := by
  have hn1 := hT.n1
  have hk1 := hT.k1
  have hlt := hT.lt
  have hk0 := hT.k0
  have hlen : (T.map (Nat.cast : Nat → Int)).length = T.length := List.length_map _
  refine HC_of_W (fn := Try.f20) Try.func20 rfl rfl rfl rfl ?_
  repeat' (first|(refine isO ?_;first|refine oo (Pc rfl) ?_|refine oo (Pa rfl (by omega) (by omega)) ?_|(refine ob rfl ?_ ?_<;>intro hq<;>try (exfalso;omega))|refine oo (Pi rfl (by first|omega|(simp only [wr_length];omega))) ?_|refine oo (Pz rfl (by omega) (by omega)) ?_|refine oo (Pl rfl) ?_|refine oo (Px rfl rfl) ?_|refine oo (Pj rfl (by omega) (by omega)) ?_|refine oo (Pk rfl (by omega) (by omega)) ?_|refine oo (Pf rfl) ?_|refine oo (Pv rfl (by omega) (by omega)) ?_|refine oo (Pn rfl) ?_|refine oo (Ph rfl) ?_|refine oo (Pg rfl (by omega) (by omega)) ?_|refine oo (Pe rfl (by omega) (by omega)) ?_|refine oo (Po rfl (by omega) (by omega)) ?_|refine oo (Pm rfl) ?_|refine os rfl rfl ?_|refine ot rfl (by first|omega|(simp only [wr_length];omega)) ?_|refine O_nil ?_)|refine wo rfl ?_|refine wc rfl ?_|refine wg rfl ?_|refine go rfl ?_|refine gc rfl ?_|refine gg rfl ?_)
  (refine W_region_still Tb.mixed (by kernel_rfl) ?_; (repeat' (first | (refine isS ?_; first | refine ss (Pc rfl) ?_ | refine ss (Pa rfl (by omega) (by omega)) ?_ | (refine sb rfl ?_ ?_ <;> intro hq <;> try (exfalso; omega)) | refine ss (Pi rfl (by first | omega | (simp only [wr_length]; omega))) ?_ | refine ss (Pz rfl (by omega) (by omega)) ?_ | refine ss (Pl rfl) ?_ | refine ss (Px rfl rfl) ?_ | refine ss (Pj rfl (by omega) (by omega)) ?_ | refine ss (Pk rfl (by omega) (by omega)) ?_ | refine ss (Pf rfl) ?_ | refine ss (Pv rfl (by omega) (by omega)) ?_ | refine ss (Pn rfl) ?_ | refine ss (Ph rfl) ?_ | refine ss (Pg rfl (by omega) (by omega)) ?_ | refine ss (Pe rfl (by omega) (by omega)) ?_ | refine ss (Po rfl (by omega) (by omega)) ?_ | refine ss (Pm rfl) ?_ | refine OS_nil ?_))); refine OS_pure (Sai.P_peq3 rfl rfl (.tail _ (.tail _ (.head _))) (.tail _ (.tail _ (.tail _ (.head _)))) hne) trivial rfl ?_; (repeat' (first | (refine isS ?_; first | refine ss (Pc rfl) ?_ | refine ss (Pa rfl (by omega) (by omega)) ?_ | (refine sb rfl ?_ ?_ <;> intro hq <;> try (exfalso; omega)) | refine ss (Pi rfl (by first | omega | (simp only [wr_length]; omega))) ?_ | refine ss (Pz rfl (by omega) (by omega)) ?_ | refine ss (Pl rfl) ?_ | refine ss (Px rfl rfl) ?_ | refine ss (Pj rfl (by omega) (by omega)) ?_ | refine ss (Pk rfl (by omega) (by omega)) ?_ | refine ss (Pf rfl) ?_ | refine ss (Pv rfl (by omega) (by omega)) ?_ | refine ss (Pn rfl) ?_ | refine ss (Ph rfl) ?_ | refine ss (Pg rfl (by omega) (by omega)) ?_ | refine ss (Pe rfl (by omega) (by omega)) ?_ | refine ss (Po rfl (by omega) (by omega)) ?_ | refine ss (Pm rfl) ?_ | refine OS_nil ?_))))
  repeat' (first|(refine isO ?_;first|refine oo (Pc rfl) ?_|refine oo (Pa rfl (by omega) (by omega)) ?_|(refine ob rfl ?_ ?_<;>intro hq<;>try (exfalso;omega))|refine oo (Pi rfl (by first|omega|(simp only [wr_length];omega))) ?_|refine oo (Pz rfl (by omega) (by omega)) ?_|refine oo (Pl rfl) ?_|refine oo (Px rfl rfl) ?_|refine oo (Pj rfl (by omega) (by omega)) ?_|refine oo (Pk rfl (by omega) (by omega)) ?_|refine oo (Pf rfl) ?_|refine oo (Pv rfl (by omega) (by omega)) ?_|refine oo (Pn rfl) ?_|refine oo (Ph rfl) ?_|refine oo (Pg rfl (by omega) (by omega)) ?_|refine oo (Pe rfl (by omega) (by omega)) ?_|refine oo (Po rfl (by omega) (by omega)) ?_|refine oo (Pm rfl) ?_|refine os rfl rfl ?_|refine ot rfl (by first|omega|(simp only [wr_length];omega)) ?_|refine O_nil ?_)|refine wo rfl ?_|refine wc rfl ?_|refine wg rfl ?_|refine go rfl ?_|refine gc rfl ?_|refine gg rfl ?_)
  refine O_weak (M' := ⟨true, bC, oC, ints .i64 C⟩ :: ⟨true, bB, oB, ints .i64 B⟩ :: ⟨own, bT, oT, ints .u8 (T.map Nat.cast)⟩ :: ⟨true, bS, oS, ints .i64 SA⟩ :: F) (by repeat (first | exact .rfl | exact .nil | (apply Rk.cons; (· exact TakeI.out)) | refine .drop ?_)) ?_
  refine O_call rfl rfl Tb.k14 trivial rfl (begins_c T k hT C B bB oB lB cB bC oC lC cC _ hlB hlC hC hB) ?_
  rintro _ _ ⟨rfl, B1, hB1, rfl⟩
  obtain ⟨hb0, hst⟩ := RL3.start hT hG hB1 h0
  have hSl := h0.1
  have hB1l := hB1.1
  have e1 : rd (T.map Nat.cast) ((T.length : Int) - 1) = (ch T (T.length - 1) : Nat) := by rw [rd_ch', show ((T.length : Int) - 1).toNat = T.length - 1 by omega]
  have e2 : rd B1 (rd (T.map Nat.cast) ((T.length : Int) - 1)) = (bst T (ch T (T.length - 1)) : Nat) := by rw [e1]; exact hB1.2 _ (hlt _)
  have e3 : rd (T.map Nat.cast) ((T.length : Int) - 1 - 1) = (ch T (T.length - 2) : Nat) := by rw [rd_ch', show ((T.length : Int) - 1 - 1).toNat = T.length - 2 by omega]
  have c1 := hlt (T.length - 1)
  have c2 := hlt (T.length - 2)
  have hn0 := hT.n0
  have hcmp : (0 < T.length - 1 ∧ ch T (T.length - 2) < ch T (T.length - 1)) ∨ ¬ (0 < T.length - 1 ∧ ch T (T.length - 2) < ch T (T.length - 1)) := Decidable.em _
  rcases hcmp with hcmp | hcmp
  all_goals
    repeat' (first|(refine isO ?_;first|refine oo (Pc rfl) ?_|refine oo (Pa rfl (by omega) (by omega)) ?_|(refine ob rfl ?_ ?_<;>intro hq<;>try (exfalso;omega))|refine oo (Pi rfl (by first|omega|(simp only [wr_length];omega))) ?_|refine oo (Pz rfl (by omega) (by omega)) ?_|refine oo (Pl rfl) ?_|refine oo (Px rfl rfl) ?_|refine oo (Pj rfl (by omega) (by omega)) ?_|refine oo (Pk rfl (by omega) (by omega)) ?_|refine oo (Pf rfl) ?_|refine oo (Pv rfl (by omega) (by omega)) ?_|refine oo (Pn rfl) ?_|refine oo (Ph rfl) ?_|refine oo (Pg rfl (by omega) (by omega)) ?_|refine oo (Pe rfl (by omega) (by omega)) ?_|refine oo (Po rfl (by omega) (by omega)) ?_|refine oo (Pm rfl) ?_|refine os rfl rfl ?_|refine ot rfl (by first|omega|(simp only [wr_length];omega)) ?_|refine O_nil ?_)|refine wo rfl ?_|refine wc rfl ?_|refine wg rfl ?_|refine go rfl ?_|refine gc rfl ?_|refine gg rfl ?_)
  all_goals
    rw [e2, e1]
    refine W_loop (α := Nat × List Int × List Int × Nat × Nat) (fun x => [(0, .slice (some ⟨bT, oT, none⟩) lT cT), (1, .slice (some ⟨bS, oS, none⟩) lS cS), (2, .slice (some ⟨bC, oC, none⟩) lC cC), (3, .slice (some ⟨bB, oB, none⟩) lB cB), (4, .int .i64 T.length), (5, .int .i64 k), (12, .int .i64 x.2.2.2.1), (13, .int .i64 x.1), (16, .int .i64 x.2.2.2.2)])
      (fun x => ⟨own, bT, oT, ints .u8 (T.map Nat.cast)⟩ :: ⟨true, bS, oS, ints .i64 x.2.1⟩ :: ⟨true, bC, oC, ints .i64 C⟩ :: ⟨true, bB, oB, ints .i64 x.2.2.1⟩ :: F) (fun x => x.1 ≤ T.length ∧ RL3 T k G x.1 x.2.1 x.2.2.1 x.2.2.2.1 x.2.2.2.2) (fun x => T.length - x.1)
      (0, _, B1, bst T (ch T (T.length - 1)) + 1, ch T (T.length - 1)) ⟨by omega, hst _ (by first | exact (if_pos hcmp).symm | exact (if_neg hcmp).symm)⟩ ⟨rfl, rfl, rfl, rfl, rfl, rfl, rfl, rfl, rfl, trivial⟩ (by repeat (first | exact .rfl | exact .nil | (apply Rk.cons; (· exact TakeI.out)) | refine .drop ?_)) ?_
    clear hst e1 e2 e3 c1 c2 hcmp hb0 h0 hSl hB1 hB1l hB
    rintro ⟨i, SA1, B2, b, c⟩ ⟨hi, hr⟩
    dsimp only at hi hr ⊢
    obtain ⟨hl1, hl2, hl3⟩ := hr.len
    by_cases hin : i < T.length
    · rcases hr.step hG hlt hin with ⟨hx, hx2, hr'⟩ | ⟨j, q, hx, hx0, hjn, hqn, hiq, hq, hr'⟩
      · repeat' (first|(refine isO ?_;first|refine oo (Pc rfl) ?_|refine oo (Pa rfl (by omega) (by omega)) ?_|(refine ob rfl ?_ ?_<;>intro hq<;>try (exfalso;omega))|refine oo (Pi rfl (by first|omega|(simp only [wr_length];omega))) ?_|refine oo (Pz rfl (by omega) (by omega)) ?_|refine oo (Pl rfl) ?_|refine oo (Px rfl rfl) ?_|refine oo (Pj rfl (by omega) (by omega)) ?_|refine oo (Pk rfl (by omega) (by omega)) ?_|refine oo (Pf rfl) ?_|refine oo (Pv rfl (by omega) (by omega)) ?_|refine oo (Pn rfl) ?_|refine oo (Ph rfl) ?_|refine oo (Pg rfl (by omega) (by omega)) ?_|refine oo (Pe rfl (by omega) (by omega)) ?_|refine oo (Po rfl (by omega) (by omega)) ?_|refine oo (Pm rfl) ?_|refine os rfl rfl ?_|refine ot rfl (by first|omega|(simp only [wr_length];omega)) ?_|refine O_nil ?_)|refine wo rfl ?_|refine wc rfl ?_|refine wg rfl ?_|refine go rfl ?_|refine gc rfl ?_|refine gg rfl ?_)
        exact G_stop ⟨(i + 1, _, B2, b, c), ⟨by dsimp only; omega, hr'⟩, by dsimp only; omega, ⟨rfl, rfl, rfl, rfl, rfl, rfl, rfl, rfl, rfl, trivial⟩, .rfl⟩
      · have e4 : rd (T.map Nat.cast) (rd SA1 i - 1) = (ch T j : Nat) := by rw [hx]; exact rd_ch _ _
        have e6 : rd (T.map Nat.cast) (rd SA1 i - 1 - 1) = (ch T (j - 1) : Nat) := by rw [hx, rd_ch', show ((j : Int) - 1).toNat = j - 1 by omega]
        have c1 := hlt j
        have c2 := hlt (j - 1)
        have hcmp : (0 < j ∧ ch T (j - 1) < ch T j) ∨ ¬ (0 < j ∧ ch T (j - 1) < ch T j) := Decidable.em _
        rcases hq with ⟨hq1, hq2⟩ | ⟨hq1, hq2⟩
        · subst hq2
          rw [if_pos hq1] at hr'
          rcases hcmp with hcmp | hcmp
          all_goals
            repeat' (first|(refine isO ?_;first|refine oo (Pc rfl) ?_|refine oo (Pa rfl (by omega) (by omega)) ?_|(refine ob rfl ?_ ?_<;>intro hq<;>try (exfalso;omega))|refine oo (Pi rfl (by first|omega|(simp only [wr_length];omega))) ?_|refine oo (Pz rfl (by omega) (by omega)) ?_|refine oo (Pl rfl) ?_|refine oo (Px rfl rfl) ?_|refine oo (Pj rfl (by omega) (by omega)) ?_|refine oo (Pk rfl (by omega) (by omega)) ?_|refine oo (Pf rfl) ?_|refine oo (Pv rfl (by omega) (by omega)) ?_|refine oo (Pn rfl) ?_|refine oo (Ph rfl) ?_|refine oo (Pg rfl (by omega) (by omega)) ?_|refine oo (Pe rfl (by omega) (by omega)) ?_|refine oo (Po rfl (by omega) (by omega)) ?_|refine oo (Pm rfl) ?_|refine os rfl rfl ?_|refine ot rfl (by first|omega|(simp only [wr_length];omega)) ?_|refine O_nil ?_)|refine wo rfl ?_|refine wc rfl ?_|refine wg rfl ?_|refine go rfl ?_|refine gc rfl ?_|refine gg rfl ?_)
          all_goals
            rw [hx]
            exact G_stop ⟨(i + 1, _, B2, q + 1, ch T j), ⟨by dsimp only; omega, hr' _ (by first | exact (if_pos hcmp).symm | exact (if_neg hcmp).symm)⟩, by dsimp only; omega, ⟨rfl, rfl, rfl, rfl, rfl, rfl, rfl, rfl, by rw [hq1]; rfl, trivial⟩, .rfl⟩
        · have e5 : rd (wr B2 c b) (rd (T.map Nat.cast) (rd SA1 i - 1)) = q := by rw [e4]; exact hq2
          rw [if_neg hq1] at hr'
          rcases hcmp with hcmp | hcmp
          all_goals
            repeat' (first|(refine isO ?_;first|refine oo (Pc rfl) ?_|refine oo (Pa rfl (by omega) (by omega)) ?_|(refine ob rfl ?_ ?_<;>intro hq<;>try (exfalso;omega))|refine oo (Pi rfl (by first|omega|(simp only [wr_length];omega))) ?_|refine oo (Pz rfl (by omega) (by omega)) ?_|refine oo (Pl rfl) ?_|refine oo (Px rfl rfl) ?_|refine oo (Pj rfl (by omega) (by omega)) ?_|refine oo (Pk rfl (by omega) (by omega)) ?_|refine oo (Pf rfl) ?_|refine oo (Pv rfl (by omega) (by omega)) ?_|refine oo (Pn rfl) ?_|refine oo (Ph rfl) ?_|refine oo (Pg rfl (by omega) (by omega)) ?_|refine oo (Pe rfl (by omega) (by omega)) ?_|refine oo (Po rfl (by omega) (by omega)) ?_|refine oo (Pm rfl) ?_|refine os rfl rfl ?_|refine ot rfl (by first|omega|(simp only [wr_length];omega)) ?_|refine O_nil ?_)|refine wo rfl ?_|refine wc rfl ?_|refine wg rfl ?_|refine go rfl ?_|refine gc rfl ?_|refine gg rfl ?_)
          all_goals
            rw [e5, e4, hx]
            exact G_stop ⟨(i + 1, _, _, q + 1, ch T j), ⟨by dsimp only; omega, hr' _ (by first | exact (if_pos hcmp).symm | exact (if_neg hcmp).symm)⟩, by dsimp only; omega, ⟨rfl, rfl, rfl, rfl, rfl, rfl, rfl, rfl, rfl, trivial⟩, .rfl⟩
    · obtain rfl : i = T.length := by omega
      obtain ⟨s, W, f1, f2, f3, f4⟩ := hr.turn hG hl
      repeat' (first|(refine isO ?_;first|refine oo (Pc rfl) ?_|refine oo (Pa rfl (by omega) (by omega)) ?_|(refine ob rfl ?_ ?_<;>intro hq<;>try (exfalso;omega))|refine oo (Pi rfl (by first|omega|(simp only [wr_length];omega))) ?_|refine oo (Pz rfl (by omega) (by omega)) ?_|refine oo (Pl rfl) ?_|refine oo (Px rfl rfl) ?_|refine oo (Pj rfl (by omega) (by omega)) ?_|refine oo (Pk rfl (by omega) (by omega)) ?_|refine oo (Pf rfl) ?_|refine oo (Pv rfl (by omega) (by omega)) ?_|refine oo (Pn rfl) ?_|refine oo (Ph rfl) ?_|refine oo (Pg rfl (by omega) (by omega)) ?_|refine oo (Pe rfl (by omega) (by omega)) ?_|refine oo (Po rfl (by omega) (by omega)) ?_|refine oo (Pm rfl) ?_|refine os rfl rfl ?_|refine ot rfl (by first|omega|(simp only [wr_length];omega)) ?_|refine O_nil ?_)|refine wo rfl ?_|refine wc rfl ?_|refine wg rfl ?_|refine go rfl ?_|refine gc rfl ?_|refine gg rfl ?_)
      (refine W_region_still Tb.mixed (by kernel_rfl) ?_; (repeat' (first | (refine isS ?_; first | refine ss (Pc rfl) ?_ | refine ss (Pa rfl (by omega) (by omega)) ?_ | (refine sb rfl ?_ ?_ <;> intro hq <;> try (exfalso; omega)) | refine ss (Pi rfl (by first | omega | (simp only [wr_length]; omega))) ?_ | refine ss (Pz rfl (by omega) (by omega)) ?_ | refine ss (Pl rfl) ?_ | refine ss (Px rfl rfl) ?_ | refine ss (Pj rfl (by omega) (by omega)) ?_ | refine ss (Pk rfl (by omega) (by omega)) ?_ | refine ss (Pf rfl) ?_ | refine ss (Pv rfl (by omega) (by omega)) ?_ | refine ss (Pn rfl) ?_ | refine ss (Ph rfl) ?_ | refine ss (Pg rfl (by omega) (by omega)) ?_ | refine ss (Pe rfl (by omega) (by omega)) ?_ | refine ss (Po rfl (by omega) (by omega)) ?_ | refine ss (Pm rfl) ?_ | refine OS_nil ?_))); refine OS_pure (Sai.P_peq3 rfl rfl (.tail _ (.tail _ (.head _))) (.tail _ (.tail _ (.tail _ (.head _)))) hne) trivial rfl ?_; (repeat' (first | (refine isS ?_; first | refine ss (Pc rfl) ?_ | refine ss (Pa rfl (by omega) (by omega)) ?_ | (refine sb rfl ?_ ?_ <;> intro hq <;> try (exfalso; omega)) | refine ss (Pi rfl (by first | omega | (simp only [wr_length]; omega))) ?_ | refine ss (Pz rfl (by omega) (by omega)) ?_ | refine ss (Pl rfl) ?_ | refine ss (Px rfl rfl) ?_ | refine ss (Pj rfl (by omega) (by omega)) ?_ | refine ss (Pk rfl (by omega) (by omega)) ?_ | refine ss (Pf rfl) ?_ | refine ss (Pv rfl (by omega) (by omega)) ?_ | refine ss (Pn rfl) ?_ | refine ss (Ph rfl) ?_ | refine ss (Pg rfl (by omega) (by omega)) ?_ | refine ss (Pe rfl (by omega) (by omega)) ?_ | refine ss (Po rfl (by omega) (by omega)) ?_ | refine ss (Pm rfl) ?_ | refine OS_nil ?_))))
      repeat' (first|(refine isO ?_;first|refine oo (Pc rfl) ?_|refine oo (Pa rfl (by omega) (by omega)) ?_|(refine ob rfl ?_ ?_<;>intro hq<;>try (exfalso;omega))|refine oo (Pi rfl (by first|omega|(simp only [wr_length];omega))) ?_|refine oo (Pz rfl (by omega) (by omega)) ?_|refine oo (Pl rfl) ?_|refine oo (Px rfl rfl) ?_|refine oo (Pj rfl (by omega) (by omega)) ?_|refine oo (Pk rfl (by omega) (by omega)) ?_|refine oo (Pf rfl) ?_|refine oo (Pv rfl (by omega) (by omega)) ?_|refine oo (Pn rfl) ?_|refine oo (Ph rfl) ?_|refine oo (Pg rfl (by omega) (by omega)) ?_|refine oo (Pe rfl (by omega) (by omega)) ?_|refine oo (Po rfl (by omega) (by omega)) ?_|refine oo (Pm rfl) ?_|refine os rfl rfl ?_|refine ot rfl (by first|omega|(simp only [wr_length];omega)) ?_|refine O_nil ?_)|refine wo rfl ?_|refine wc rfl ?_|refine wg rfl ?_|refine go rfl ?_|refine gc rfl ?_|refine gg rfl ?_)
      refine O_weak (M' := ⟨true, bC, oC, ints .i64 C⟩ :: ⟨true, bB, oB, ints .i64 B2⟩ :: ⟨own, bT, oT, ints .u8 (T.map Nat.cast)⟩ :: ⟨true, bS, oS, ints .i64 SA1⟩ :: F) (by repeat (first | exact .rfl | exact .nil | (apply Rk.cons; (· exact TakeI.out)) | refine .drop ?_)) ?_
      refine O_call rfl rfl Tb.k14 trivial rfl (ends_c T k hT C B2 bB oB lB cB bC oC lC cC _ hlB hlC hC hl2) ?_
      rintro _ _ ⟨rfl, B3, hB3, rfl⟩
      have hB3l := hB3.1
      have e7 : rd B3 0 = (bst T (0 + 1) : Nat) := hB3.2 0 hk0
      have f5 := f4 B3 0 hB3 hk0
      have hb1 := bst_le T (0 + 1)
      repeat' (first|(refine isO ?_;first|refine oo (Pc rfl) ?_|refine oo (Pa rfl (by omega) (by omega)) ?_|(refine ob rfl ?_ ?_<;>intro hq<;>try (exfalso;omega))|refine oo (Pi rfl (by first|omega|(simp only [wr_length];omega))) ?_|refine oo (Pz rfl (by omega) (by omega)) ?_|refine oo (Pl rfl) ?_|refine oo (Px rfl rfl) ?_|refine oo (Pj rfl (by omega) (by omega)) ?_|refine oo (Pk rfl (by omega) (by omega)) ?_|refine oo (Pf rfl) ?_|refine oo (Pv rfl (by omega) (by omega)) ?_|refine oo (Pn rfl) ?_|refine oo (Ph rfl) ?_|refine oo (Pg rfl (by omega) (by omega)) ?_|refine oo (Pe rfl (by omega) (by omega)) ?_|refine oo (Po rfl (by omega) (by omega)) ?_|refine oo (Pm rfl) ?_|refine os rfl rfl ?_|refine ot rfl (by first|omega|(simp only [wr_length];omega)) ?_|refine O_nil ?_)|refine wo rfl ?_|refine wc rfl ?_|refine wg rfl ?_|refine go rfl ?_|refine gc rfl ?_|refine gg rfl ?_)
      rw [e7]
      generalize bst T (0 + 1) = b0 at *
      clear f4 e7 hr hi hin hl1 hl2 hl3 hB3
      refine W_loop (α := Nat × List Int × List Int × Nat × Nat) (fun x => [(0, .slice (some ⟨bT, oT, none⟩) lT cT), (1, .slice (some ⟨bS, oS, none⟩) lS cS), (2, .slice (some ⟨bC, oC, none⟩) lC cC), (3, .slice (some ⟨bB, oB, none⟩) lB cB), (4, .int .i64 T.length), (5, .int .i64 k), (12, .int .i64 x.2.2.2.1), (13, .int .i64 ((x.1 : Int) - 1)), (16, .int .i64 x.2.2.2.2)])
        (fun x => ⟨own, bT, oT, ints .u8 (T.map Nat.cast)⟩ :: ⟨true, bS, oS, ints .i64 x.2.1⟩ :: ⟨true, bC, oC, ints .i64 C⟩ :: ⟨true, bB, oB, ints .i64 x.2.2.1⟩ :: F) (fun x => x.1 ≤ T.length ∧ RS3 T k (GH T (fun _ => True) s) (T.length - x.1) x.2.1 x.2.2.1 x.2.2.2.1 x.2.2.2.2) (fun x => x.1)
        (T.length, SA1, B3, b0, 0) ⟨Nat.le_refl _, by dsimp only; rw [Nat.sub_self]; exact f5⟩ ⟨rfl, rfl, rfl, rfl, rfl, rfl, rfl, rfl, rfl, trivial⟩ (by repeat (first | exact .rfl | exact .nil | (apply Rk.cons; (· exact TakeI.out)) | refine .drop ?_)) ?_
      clear f5 hb1 hB3l
      rintro ⟨r, SA1, B2, b, c⟩ ⟨hi, hr⟩
      dsimp only at hi hr ⊢
      obtain ⟨hl1, hl2, hl3, hl5⟩ := hr.len
      cases r with
      | zero =>
        repeat' (first|(refine isO ?_;first|refine oo (Pc rfl) ?_|refine oo (Pa rfl (by omega) (by omega)) ?_|(refine ob rfl ?_ ?_<;>intro hq<;>try (exfalso;omega))|refine oo (Pi rfl (by first|omega|(simp only [wr_length];omega))) ?_|refine oo (Pz rfl (by omega) (by omega)) ?_|refine oo (Pl rfl) ?_|refine oo (Px rfl rfl) ?_|refine oo (Pj rfl (by omega) (by omega)) ?_|refine oo (Pk rfl (by omega) (by omega)) ?_|refine oo (Pf rfl) ?_|refine oo (Pv rfl (by omega) (by omega)) ?_|refine oo (Pn rfl) ?_|refine oo (Ph rfl) ?_|refine oo (Pg rfl (by omega) (by omega)) ?_|refine oo (Pe rfl (by omega) (by omega)) ?_|refine oo (Po rfl (by omega) (by omega)) ?_|refine oo (Pm rfl) ?_|refine os rfl rfl ?_|refine ot rfl (by first|omega|(simp only [wr_length];omega)) ?_|refine O_nil ?_)|refine wo rfl ?_|refine wc rfl ?_|refine wg rfl ?_|refine go rfl ?_|refine gc rfl ?_|refine gg rfl ?_)
        exact G_fin ⟨_, rfl, rfl, SA1, B2, ⟨s, W, f1, f2, f3, B2, b, c, hr⟩, hl1, hl2, rfl⟩
      | succ u =>
        have hst := hr.step f3 hlt (u := u) (by omega)
        rw [show T.length - (u + 1) + 1 = T.length - u by omega] at hst
        rw [show (((u + 1 : Nat) : Int) - 1) = (u : Int) by omega]
        rcases hst with ⟨hx, hx2, hr'⟩ | ⟨j, q, hx, hx0, hjn, hqu, hq, hr'⟩
        · repeat' (first|(refine isO ?_;first|refine oo (Pc rfl) ?_|refine oo (Pa rfl (by omega) (by omega)) ?_|(refine ob rfl ?_ ?_<;>intro hq<;>try (exfalso;omega))|refine oo (Pi rfl (by first|omega|(simp only [wr_length];omega))) ?_|refine oo (Pz rfl (by omega) (by omega)) ?_|refine oo (Pl rfl) ?_|refine oo (Px rfl rfl) ?_|refine oo (Pj rfl (by omega) (by omega)) ?_|refine oo (Pk rfl (by omega) (by omega)) ?_|refine oo (Pf rfl) ?_|refine oo (Pv rfl (by omega) (by omega)) ?_|refine oo (Pn rfl) ?_|refine oo (Ph rfl) ?_|refine oo (Pg rfl (by omega) (by omega)) ?_|refine oo (Pe rfl (by omega) (by omega)) ?_|refine oo (Po rfl (by omega) (by omega)) ?_|refine oo (Pm rfl) ?_|refine os rfl rfl ?_|refine ot rfl (by first|omega|(simp only [wr_length];omega)) ?_|refine O_nil ?_)|refine wo rfl ?_|refine wc rfl ?_|refine wg rfl ?_|refine go rfl ?_|refine gc rfl ?_|refine gg rfl ?_)
          exact G_stop ⟨(u, _, B2, b, c), ⟨by dsimp only; omega, hr'⟩, by dsimp only; omega, ⟨rfl, rfl, rfl, rfl, rfl, rfl, rfl, rfl, rfl, trivial⟩, .rfl⟩
        · have e4 : rd (T.map Nat.cast) (rd SA1 u - 1) = (ch T j : Nat) := by rw [hx]; exact rd_ch _ _
          have e6 : rd (T.map Nat.cast) (rd SA1 u - 1 - 1) = (ch T (j - 1) : Nat) := by rw [hx, rd_ch', show ((j : Int) - 1).toNat = j - 1 by omega]
          have c1 := hlt j
          have c2 := hlt (j - 1)
          have hcmp : (j = 0 ∨ ch T j < ch T (j - 1)) ∨ ¬ (j = 0 ∨ ch T j < ch T (j - 1)) := Decidable.em _
          rcases hq with ⟨hq1, hq2⟩ | ⟨hq1, hq2⟩
          · have e8 : (b : Int) - 1 = q := by omega
            rw [if_pos hq1] at hr'
            rcases hcmp with hcmp | hcmp
            all_goals
              repeat' (first|(refine isO ?_;first|refine oo (Pc rfl) ?_|refine oo (Pa rfl (by omega) (by omega)) ?_|(refine ob rfl ?_ ?_<;>intro hq<;>try (exfalso;omega))|refine oo (Pi rfl (by first|omega|(simp only [wr_length];omega))) ?_|refine oo (Pz rfl (by omega) (by omega)) ?_|refine oo (Pl rfl) ?_|refine oo (Px rfl rfl) ?_|refine oo (Pj rfl (by omega) (by omega)) ?_|refine oo (Pk rfl (by omega) (by omega)) ?_|refine oo (Pf rfl) ?_|refine oo (Pv rfl (by omega) (by omega)) ?_|refine oo (Pn rfl) ?_|refine oo (Ph rfl) ?_|refine oo (Pg rfl (by omega) (by omega)) ?_|refine oo (Pe rfl (by omega) (by omega)) ?_|refine oo (Po rfl (by omega) (by omega)) ?_|refine oo (Pm rfl) ?_|refine os rfl rfl ?_|refine ot rfl (by first|omega|(simp only [wr_length];omega)) ?_|refine O_nil ?_)|refine wo rfl ?_|refine wc rfl ?_|refine wg rfl ?_|refine go rfl ?_|refine gc rfl ?_|refine gg rfl ?_)
            all_goals
              rw [e8, hx]
              exact G_stop ⟨(u, _, B2, q, ch T j), ⟨by dsimp only; omega, hr' _ (by first | exact (if_pos hcmp).symm | exact (if_neg hcmp).symm)⟩, by dsimp only; omega, ⟨rfl, rfl, rfl, rfl, rfl, rfl, rfl, rfl, by rw [hq1]; rfl, trivial⟩, .rfl⟩
          · have e5 : rd (wr B2 c b) (rd (T.map Nat.cast) (rd SA1 u - 1)) = (q + 1 : Nat) := by rw [e4]; exact hq2
            have e8 : ((q + 1 : Nat) : Int) - 1 = q := by omega
            rw [if_neg hq1] at hr'
            rcases hcmp with hcmp | hcmp
            all_goals
              repeat' (first|(refine isO ?_;first|refine oo (Pc rfl) ?_|refine oo (Pa rfl (by omega) (by omega)) ?_|(refine ob rfl ?_ ?_<;>intro hq<;>try (exfalso;omega))|refine oo (Pi rfl (by first|omega|(simp only [wr_length];omega))) ?_|refine oo (Pz rfl (by omega) (by omega)) ?_|refine oo (Pl rfl) ?_|refine oo (Px rfl rfl) ?_|refine oo (Pj rfl (by omega) (by omega)) ?_|refine oo (Pk rfl (by omega) (by omega)) ?_|refine oo (Pf rfl) ?_|refine oo (Pv rfl (by omega) (by omega)) ?_|refine oo (Pn rfl) ?_|refine oo (Ph rfl) ?_|refine oo (Pg rfl (by omega) (by omega)) ?_|refine oo (Pe rfl (by omega) (by omega)) ?_|refine oo (Po rfl (by omega) (by omega)) ?_|refine oo (Pm rfl) ?_|refine os rfl rfl ?_|refine ot rfl (by first|omega|(simp only [wr_length];omega)) ?_|refine O_nil ?_)|refine wo rfl ?_|refine wc rfl ?_|refine wg rfl ?_|refine go rfl ?_|refine gc rfl ?_|refine gg rfl ?_)
            all_goals
              rw [e5, e8, e4, hx]
              exact G_stop ⟨(u, _, _, q, ch T j), ⟨by dsimp only; omega, hr' _ (by first | exact (if_pos hcmp).symm | exact (if_neg hcmp).symm)⟩, by dsimp only; omega, ⟨rfl, rfl, rfl, rfl, rfl, rfl, rfl, rfl, rfl, trivial⟩, .rfl⟩
end Go.Proofs.Ytcibehgcibojnaa.Saib

namespace Go.Proofs.Ytcibehgcibojnaa.Sais
open Go.Proofs.Ytcibehgcibojnaa.Vm Classical
theorem all_of_nodup {n : Nat} {L : List Nat} (h : L.Nodup) (h1 : ∀ x ∈ L, x < n) (h2 : n ≤ L.length) {q : Nat} (hq : q < n) : q ∈ L := by
  refine Classical.byContradiction fun hn => ?_
  have h3 := nodup_count (fun y => decide (y ≠ q)) n L h fun y hy => ⟨h1 y hy, by
    have : y ≠ q := fun e => hn (e ▸ hy)
    simpa using this⟩
  have h4 : (List.range n).countP (fun y => decide (y ≠ q)) + (List.range n).countP (fun y => decide (y = q)) = n := by
    have := countP_or (fun _ => true) (fun y => decide (y ≠ q)) (fun y => decide (y = q)) (fun y => by by_cases h : y = q <;> simp [h]) (fun y => by simp) (List.range n)
    rw [← this, List.countP_true, List.length_range]
  have h5 : 0 < (List.range n).countP (fun y => decide (y = q)) := List.countP_pos_iff.2 ⟨q, List.mem_range.2 hq, by simp⟩
  omega
structure SufA (T : List Nat) (L : List Int) : Prop where
  at' : ∀ i, i < T.length → ∃ v : Nat, v < T.length ∧ rd L (i : Int) = v
  ord : ∀ i j, i < j → j < T.length → ∀ x y : Nat, rd L (i : Int) = x → rd L (j : Int) = y → Sl T x y
theorem rch_all {T : List Nat} {G : Nat → Option Nat} (hl : ∀ y, Lms T y → ∃ p, G p = some y) : ∀ (m y : Nat), T.length - y ≤ m → y < T.length → ¬ St T y → Rch T 0 G y
  | 0, y, hm, hy, _ => by omega
  | m + 1, y, hm, hy, hs => by
    by_cases h1 : y + 1 = T.length
    · exact .last h1
    · by_cases h2 : St T (y + 1)
      · obtain ⟨p, hp⟩ := hl (y + 1) ⟨Nat.succ_pos y, h2, by rw [Nat.add_sub_cancel]; exact hs⟩
        exact .given hs (Nat.zero_le _) hp
      · exact .next hs (Nat.zero_le _) (rch_all hl m (y + 1) (by omega) (by omega) h2)
theorem rchS_all {T : List Nat} {G : Nat → Option Nat} (hl : ∀ y, y < T.length → ¬ St T y → ∃ p, G p = some y) : ∀ (m y : Nat), T.length - y ≤ m → St T y → RchS T 0 G y
  | 0, y, hm, hs => absurd hs (st_last T (by omega))
  | m + 1, y, hm, hs => by
    have h1 : y + 1 < T.length := Nat.lt_of_not_le fun h => st_last T h hs
    by_cases h2 : St T (y + 1)
    · exact .next hs (Nat.zero_le _) (rchS_all hl m (y + 1) (by omega) h2)
    · obtain ⟨p, hp⟩ := hl (y + 1) h1 h2
      exact .given hs (Nat.zero_le _) hp
structure Seeds (T : List Nat) (G : Nat → Option Nat) : Prop where
  good : GoodG T G
  lms : ∀ p y, G p = some y → Lms T y
  all : ∀ y, Lms T y → ∃ p, G p = some y
  ord : ∀ p q x y, p < q → G p = some x → G q = some y → Sl T x y
theorem sl_le {T : List Nat} {x y : Nat} (hx : x < T.length) (hy : y < T.length) (h : ¬ Sl T y x) (hne : x ≠ y) : Sl T x y := (sl_total T (Nat.le_of_lt hx) (Nat.le_of_lt hy) hne).resolve_right h
theorem Fin3.suf {T : List Nat} {k : Nat} (hT : Txt T k) {G : Nat → Option Nat} (hG : Seeds T G) {SA : List Int} (h : Fin3 T k G SA) : SufA T SA := by
  obtain ⟨s, W, h1, h2, h3, B, b, c, s2, W2, h4, h5, _⟩ := h
  have hR := ruleL_ok T 0 G hG.good
  have hR2 := ruleS_ok T k 0 hT.lt _ h3
  have hL : ∀ y, y < T.length → ¬ St T y → ∃ p, p < T.length ∧ s.A p = some y := fun y hy hs => by
    obtain ⟨w, hw, e⟩ := full_L hG.good h1 h2 (rch_all hG.all _ y (Nat.le_refl _) hy hs)
    have ha := (h1.at' w.p y).2 (.inl ⟨w, hw, e, rfl⟩)
    have := (h1.part hR ha).2.2.1
    exact ⟨w.p, Nat.lt_of_lt_of_le this (bst_le T _), ha⟩
  have hGH : ∀ y, y < T.length → ¬ St T y → ∃ p, GH T (fun _ => True) s p = some y := fun y hy hs => by
    obtain ⟨p, hp, ha⟩ := hL y hy hs
    exact ⟨T.length - 1 - p, GH_iff.2 ⟨by omega, by rw [show T.length - 1 - (T.length - 1 - p) = p by omega]; exact ha, hs, trivial⟩⟩
  have hA : ∀ y, y < T.length → ∃ p, p < T.length ∧ s2.A p = some y := fun y hy => by
    by_cases hs : St T y
    · obtain ⟨w, hw, e⟩ := full_S hT.lt h3 h4 (rchS_all hGH _ y (Nat.le_refl _) hs)
      have ha := (h4.at' w.p y).2 (.inl ⟨w, hw, e, rfl⟩)
      have := (h4.part hR2 ha).2.2.1
      exact ⟨w.p, Nat.lt_of_lt_of_le this (Nat.sub_le _ _), ha⟩
    · obtain ⟨p, hp⟩ := hGH y hy hs
      exact ⟨p, (GH_iff.1 hp).1, (h4.at' p y).2 (.inr hp)⟩
  have hfull : ∀ q, q < T.length → ∃ y, y < T.length ∧ s2.A q = some y := fun q hq => by
    have hch := fun y : Nat => Classical.propDecidable (∃ p, p < T.length ∧ s2.A p = some y)
    let f : Nat → Nat := fun y => if h : y < T.length then Classical.choose (hA y h) else 0
    have hf : ∀ y, y < T.length → f y < T.length ∧ s2.A (f y) = some y := fun y hy => by
      show (if h : y < T.length then Classical.choose (hA y h) else 0) < _ ∧ s2.A (if h : y < T.length then Classical.choose (hA y h) else 0) = _
      rw [dif_pos hy]
      exact Classical.choose_spec (hA y hy)
    have hnd : ((List.range T.length).map f).Nodup := by
      rw [List.nodup_iff_pairwise_ne, List.pairwise_map]
      refine List.Pairwise.imp_of_mem ?_ (List.nodup_iff_pairwise_ne.1 List.nodup_range)
      intro a b ha hb hab e
      have h6 := (hf a (List.mem_range.1 ha)).2
      have h7 := (hf b (List.mem_range.1 hb)).2
      rw [e, h7] at h6
      exact hab (Option.some.inj h6).symm
    have hq2 := all_of_nodup hnd (fun x hx => by
      obtain ⟨y, hy, rfl⟩ := List.mem_map.1 hx
      exact (hf y (List.mem_range.1 hy)).1) (by rw [List.length_map, List.length_range]; exact Nat.le_refl _) hq
    obtain ⟨y, hy, e⟩ := List.mem_map.1 hq2
    have hy := List.mem_range.1 hy
    exact ⟨y, hy, by rw [← e]; exact (hf y hy).2⟩
  have hcell : ∀ i, i < T.length → ∃ v, v < T.length ∧ s2.A (T.length - 1 - i) = some v ∧ rd SA (i : Int) = (v : Int) := fun i hi => by
    obtain ⟨v, hv, ha⟩ := hfull (T.length - 1 - i) (by omega)
    have h6 : E3S T (decide (T.length - 1 - i < T.length)) (s2.A (T.length - 1 - i)) (rd SA ((T.length - 1 - (T.length - 1 - i) : Nat) : Int)) := h5.2 (T.length - 1 - i) (by omega)
    rw [decide_eq_true (by omega), ha, show T.length - 1 - (T.length - 1 - i) = i by omega] at h6
    exact ⟨v, hv, ha, h6⟩
  have hordL : ∀ p q x y, p < q → s.A p = some x → s.A q = some y → ¬ Sl T y x := fun p q x y hpq hx hy hs =>
    sl_asymm (sorted_L hG.good h1 (fun p q x y hp hx hy hc => hG.ord p q x y hp hx hy) hpq hx hy) hs
  have hordS : ∀ p q x y, p < q → s2.A p = some x → s2.A q = some y → Sl T y x := fun p q x y hpq hx hy =>
    sorted_S hT.lt h3 h4 (fun p q x y hp hx hy hc => by
      obtain ⟨g1, g2, g3, _⟩ := GH_iff.1 hx
      obtain ⟨g4, g5, g6, _⟩ := GH_iff.1 hy
      have h8 := hordL (T.length - 1 - q) (T.length - 1 - p) y x (by omega) g5 g2
      have h9 := (h1.part hR g2).1
      have h10 := (h1.part hR g5).1
      refine sl_le h10 h9 h8 fun e => ?_
      subst e
      have := h1.inj hR g2 g5
      omega) hpq hx hy
  refine ⟨fun i hi => ?_, fun i j hij hj x y hx hy => ?_⟩
  · obtain ⟨v, hv, _, h6⟩ := hcell i hi
    exact ⟨v, hv, h6⟩
  · obtain ⟨v, hv, h6, h7⟩ := hcell i (by omega)
    obtain ⟨w, hw, h8, h9⟩ := hcell j hj
    obtain rfl : v = x := by omega
    obtain rfl : w = y := by omega
    exact hordS _ _ _ _ (by omega) h8 h6
end Go.Proofs.Ytcibehgcibojnaa.Sais
