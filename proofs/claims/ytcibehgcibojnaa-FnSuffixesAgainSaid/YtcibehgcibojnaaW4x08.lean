/- The first sorting: all LMS places stand in the order of their keys. No condition. To look for the LMS places from the right. No condition. The sorted LMS places, packed ahead of all else. No condition. Names: two LMS substrings are the same just when the program finds them so. No condition. Names as they are told in cells. No condition. -/
import Derived.Test.YtcibehgcibojnaaW4x07

namespace Go.Proofs.Ytcibehgcibojnaa.Sais
open Go.Proofs.Ytcibehgcibojnaa.Vm Classical
structure Seeds1 (T : List Nat) (G : Nat → Option Nat) : Prop where
  good : GoodG T G
  lms : ∀ p y, G p = some y → Lms T y
  all : ∀ y z, Lms T y → Lms T z → z < y → ∃ p, G p = some y
theorem rch_one {T : List Nat} {G : Nat → Option Nat} (hG : Seeds1 T G) {z : Nat} (hz : Lms T z) : ∀ (m y : Nat), T.length - y ≤ m → z < y → y < T.length → ¬ St T y → Rch T 1 G y
  | 0, y, hm, _, hy, _ => by omega
  | m + 1, y, hm, hzy, hy, hs => by
    by_cases h1 : y + 1 = T.length
    · exact .last h1
    · by_cases h2 : St T (y + 1)
      · obtain ⟨p, hp⟩ := hG.all (y + 1) z ⟨Nat.succ_pos y, h2, by rw [Nat.add_sub_cancel]; exact hs⟩ hz (by omega)
        exact .given hs (by omega) hp
      · exact .next hs (by omega) (rch_one hG hz m (y + 1) (by omega) (by omega) (by omega) h2)
theorem rchS_one {T : List Nat} {G : Nat → Option Nat} {z : Nat} (hz : 0 < z) (hl : ∀ y, z ≤ y → y + 1 < T.length → St T y → ¬ St T (y + 1) → ∃ p, G p = some (y + 1)) : ∀ (m y : Nat), T.length - y ≤ m → z ≤ y → St T y → RchS T 1 G y
  | 0, y, hm, _, hs => absurd hs (st_last T (by omega))
  | m + 1, y, hm, hzy, hs => by
    have h1 : y + 1 < T.length := Nat.lt_of_not_le fun h => st_last T h hs
    by_cases h2 : St T (y + 1)
    · exact .next hs (by omega) (rchS_one hz hl m (y + 1) (by omega) (by omega) h2)
    · obtain ⟨p, hp⟩ := hl y hzy h1 hs h2
      exact .given hs (by omega) hp
structure Sorted1 (T : List Nat) (SA : List Int) : Prop where
  len : SA.length = T.length
  cell : ∀ u, u < T.length → rd SA (u : Int) = 0 ∨ ∃ x : Nat, Lms T x ∧ rd SA (u : Int) = -1 - (x : Int)
  all : ∀ x, Lms T x → ∃ u, u < T.length ∧ rd SA (u : Int) = -1 - (x : Int)
  ord : ∀ u w x y : Nat, u < w → w < T.length → rd SA (u : Int) = -1 - (x : Int) → rd SA (w : Int) = -1 - (y : Int) → x ≠ y ∧ key T x ≤ key T y
theorem keyL_not {T : List Nat} {x : Nat} (h : ¬ St T x) : keyL T x = key T x := by
  unfold keyL
  rw [if_neg (fun h2 => h h2.2.1)]
theorem Fin1.sorted {T : List Nat} {k : Nat} (hT : Txt T k) {G : Nat → Option Nat} (hG : Seeds1 T G) {SA : List Int} (h : Fin1 T k G SA) : Sorted1 T SA := by
  obtain ⟨s, W, h1, h2, h3, B, b, c, s2, W2, h4, h5, _, h6⟩ := h
  have hR := ruleL_ok T 1 G hG.good
  have hR2 := ruleS_ok T k 1 hT.lt _ h3
  have hGL : ∀ p x, s2.A p = some x → (St T x ∧ ∃ w ∈ W2, w.y = x ∧ w.p = p) ∨ (GH T (fun v => 2 ≤ v ∧ St T (v - 1)) s p = some x) := fun p x hx => by
    rcases (h4.at' p x).1 hx with ⟨w, hw, e1, e2⟩ | hg
    · exact .inl ⟨e1 ▸ (h4.ty w hw).1, w, hw, e1, e2⟩
    · exact .inr hg
  have hcell : ∀ u, u < T.length → (rd SA (u : Int) = 0 ∧ ∀ x, s2.A (T.length - 1 - u) = some x → St T (x - 1)) ∨ ∃ x : Nat, Lms T x ∧ s2.A (T.length - 1 - u) = some x ∧ rd SA (u : Int) = -1 - (x : Int) := fun u hu => by
    have hx : E1S T (decide (T.length - 1 - u < T.length)) (s2.A (T.length - 1 - u)) (rd SA ((T.length - 1 - (T.length - 1 - u) : Nat) : Int)) := h5.2 (T.length - 1 - u) (by omega)
    rw [decide_eq_true (by omega), show T.length - 1 - (T.length - 1 - u) = u by omega] at hx
    cases hv : s2.A (T.length - 1 - u) with
    | none => rw [hv] at hx; exact .inl ⟨hx, fun x h => by cases h⟩
    | some x =>
      rw [hv] at hx
      by_cases hs : St T (x - 1)
      · have hx : rd SA (u : Int) = 0 := by simpa only [E1S, if_pos hs, if_true] using hx
        exact .inl ⟨hx, fun y hy => by cases hy; exact hs⟩
      · have hx : rd SA (u : Int) = -1 - (x : Int) := by simpa only [E1S, if_neg hs] using hx
        refine .inr ⟨x, ?_, rfl, hx⟩
        rcases hGL _ x hv with ⟨h7, _⟩ | hg
        · exact ⟨h6 _ x hv, h7, hs⟩
        · exact absurd (GH_iff.1 hg).2.2.2.2 hs
  refine ⟨h5.1, fun u hu => ?_, fun x hx => ?_, fun u w x y huw hw hx hy => ?_⟩
  · rcases hcell u hu with ⟨h7, _⟩ | ⟨x, h7, _, h8⟩
    · exact .inl h7
    · exact .inr ⟨x, h7, h8⟩
  · obtain ⟨w, hw, e⟩ := full_S hT.lt h3 h4 (rchS_one (z := x) hx.1 (fun y hy1 hy2 hy3 hy4 => by
      obtain ⟨w, hw, e⟩ := full_L hG.good h1 h2 (rch_one hG hx _ (y + 1) (Nat.le_refl _) (by omega) hy2 hy4)
      have ha := (h1.at' w.p (y + 1)).2 (.inl ⟨w, hw, e, rfl⟩)
      have h7 := (h1.part hR ha).2.2.1
      have h7 : w.p < bst T (ch T (y + 1) + 1) := h7
      have h8 := bst_le T (ch T (y + 1) + 1)
      have := hx.1
      exact ⟨T.length - 1 - w.p, GH_iff.2 ⟨by omega, by rw [show T.length - 1 - (T.length - 1 - w.p) = w.p by omega]; exact ha, hy4, by omega, by rw [Nat.add_sub_cancel]; exact hy3⟩⟩) _ x (Nat.le_refl _) (Nat.le_refl _) hx.2.1)
    have ha := (h4.at' w.p x).2 (.inl ⟨w, hw, e, rfl⟩)
    have h7 : w.p < T.length := Nat.lt_of_lt_of_le (h4.part hR2 ha).2.2.1 (Nat.sub_le _ _)
    refine ⟨T.length - 1 - w.p, by omega, ?_⟩
    rcases hcell (T.length - 1 - w.p) (by omega) with ⟨_, h8⟩ | ⟨y, _, h8, h9⟩
    · rw [show T.length - 1 - (T.length - 1 - w.p) = w.p by omega] at h8
      exact absurd (h8 x ha) hx.2.2
    · rw [show T.length - 1 - (T.length - 1 - w.p) = w.p by omega, ha] at h8
      cases h8
      exact h9
  · rcases hcell u (by omega) with ⟨h7, _⟩ | ⟨x', h7, h8, h9⟩
    · omega
    rcases hcell w hw with ⟨h10, _⟩ | ⟨y', h10, h11, h12⟩
    · omega
    obtain rfl : x' = x := by omega
    obtain rfl : y' = y := by omega
    refine ⟨fun e => ?_, ?_⟩
    · subst e
      have := h4.inj hR2 h8 h11
      omega
    · exact keys_S hT.lt h3 h4 (fun p q a b hp ha hb hc => by
        obtain ⟨g1, g2, g3, _⟩ := GH_iff.1 ha
        obtain ⟨g4, g5, g6, _⟩ := GH_iff.1 hb
        have := keys_L hG.good hG.lms h1 (show T.length - 1 - q < T.length - 1 - p by omega) g5 g2
        rwa [keyL_not g3, keyL_not g6] at this) (show T.length - 1 - w < T.length - 1 - u by omega) h11 h8
end Go.Proofs.Ytcibehgcibojnaa.Sais

namespace Go.Proofs.Ytcibehgcibojnaa.Sais
open Classical
def LIn (T : List Nat) (i0 r : Nat) : Prop := r ≤ i0 ∧ ∀ p, r ≤ p → p ≤ i0 → ¬ St T p
def SIn (T : List Nat) (i0 r : Nat) : Prop := r ≤ i0 ∧ ∀ p, r ≤ p → p ≤ i0 → St T p
def LSc (T : List Nat) (i0 e : Nat) : Prop := LIn T i0 e ∧ (0 < e → St T (e - 1))
def SSc (T : List Nat) (i0 e : Nat) : Prop := SIn T i0 e ∧ (0 < e → ¬ St T (e - 1))
theorem LIn.start {T : List Nat} {i0 : Nat} (h : ¬ St T i0) : LIn T i0 i0 := ⟨Nat.le_refl _, fun p h1 h2 => by rw [show p = i0 by omega]; exact h⟩
theorem SIn.start {T : List Nat} {i0 : Nat} (h : St T i0) : SIn T i0 i0 := ⟨Nat.le_refl _, fun p h1 h2 => by rw [show p = i0 by omega]; exact h⟩
theorem LIn.stop {T : List Nat} {i0 u : Nat} (h : LIn T i0 (u + 1)) (hi : i0 < T.length) (hc : ch T u < ch T (u + 1)) : LSc T i0 (u + 1) :=
  ⟨h, fun _ => (st_iff T (by have := h.1; omega)).2 (.inl hc)⟩
theorem LIn.on {T : List Nat} {i0 u : Nat} (h : LIn T i0 (u + 1)) (hi : i0 < T.length) (hc : ¬ ch T u < ch T (u + 1)) : LIn T i0 u := by
  have h1 := h.2 (u + 1) (Nat.le_refl _) h.1
  have hu : ¬ St T u := fun hs => by
    rcases (st_iff T (by have := h.1; omega)).1 hs with h2 | h2
    · exact hc h2
    · exact h1 h2.2
  exact ⟨by have := h.1; omega, fun p hp1 hp2 => by
    by_cases e : p = u
    · rw [e]; exact hu
    · exact h.2 p (by omega) hp2⟩
theorem SIn.stop {T : List Nat} {i0 u : Nat} (h : SIn T i0 (u + 1)) (hi : i0 < T.length) (hc : ch T (u + 1) < ch T u) : SSc T i0 (u + 1) :=
  ⟨h, fun _ hs => by rcases (st_iff T (i := u) (by have := h.1; omega)).1 hs with h2 | h2 <;> omega⟩
theorem SIn.on {T : List Nat} {i0 u : Nat} (h : SIn T i0 (u + 1)) (hi : i0 < T.length) (hc : ¬ ch T (u + 1) < ch T u) : SIn T i0 u := by
  have h1 := h.2 (u + 1) (Nat.le_refl _) h.1
  have hu : St T u := (st_iff T (by have := h.1; omega)).2 (by
    by_cases e : ch T u = ch T (u + 1)
    · exact .inr ⟨e, h1⟩
    · exact .inl (by omega))
  exact ⟨by have := h.1; omega, fun p hp1 hp2 => by
    by_cases e : p = u
    · rw [e]; exact hu
    · exact h.2 p (by omega) hp2⟩
noncomputable def lmsF (T : List Nat) (f : Nat) : List Nat := (List.range' f (T.length - f)).filter fun p => decide (Lms T p)
theorem lmsF_mem {T : List Nat} {f y : Nat} : y ∈ lmsF T f ↔ f ≤ y ∧ Lms T y := by
  unfold lmsF
  rw [List.mem_filter, List.mem_range'_1, decide_eq_true_iff]
  constructor
  · intro h; exact ⟨h.1.1, h.2⟩
  · intro h
    have := lms_lt h.2
    exact ⟨⟨h.1, by omega⟩, h.2⟩
theorem lmsF_sorted (T : List Nat) (f : Nat) : (lmsF T f).Pairwise (· < ·) := List.Pairwise.filter _ (by
  rw [List.pairwise_iff_getElem]
  intro i j hi hj hij
  rw [List.getElem_range', List.getElem_range']
  omega)
theorem lmsF_skip {T : List Nat} {f : Nat} (h : ¬ Lms T f) : lmsF T f = lmsF T (f + 1) := by
  unfold lmsF
  by_cases hf : f < T.length
  · rw [show T.length - f = (T.length - (f + 1)) + 1 by omega, List.range'_succ, List.filter_cons_of_neg (by simpa using h)]
  · rw [show T.length - f = 0 by omega, show T.length - (f + 1) = 0 by omega]; rfl
theorem lmsF_cons {T : List Nat} {f : Nat} (h : Lms T f) : lmsF T f = f :: lmsF T (f + 1) := by
  unfold lmsF
  have := lms_lt h
  rw [show T.length - f = (T.length - (f + 1)) + 1 by omega, List.range'_succ, List.filter_cons_of_pos (by simpa using h)]
theorem lmsF_skips {T : List Nat} {e : Nat} : ∀ (d : Nat), (∀ p, e ≤ p → p < e + d → ¬ Lms T p) → lmsF T e = lmsF T (e + d)
  | 0, _ => rfl
  | d + 1, h => by
    rw [lmsF_skips d fun p h1 h2 => h p h1 (by omega), lmsF_skip (h (e + d) (by omega) (by omega))]
    rfl
theorem lmsF_end (T : List Nat) : lmsF T (T.length - 1) = [] := by
  rw [List.eq_nil_iff_forall_not_mem]
  intro y hy
  obtain ⟨h1, h2⟩ := lmsF_mem.1 hy
  have := lms_lt h2
  omega
theorem LSc.lms {T : List Nat} {i0 e : Nat} (h : LIn T i0 e) : lmsF T e = lmsF T (i0 + 1) := by
  have := h.1
  rw [lmsF_skips (e := e) (i0 + 1 - e) fun p h1 h2 hl => h.2 p h1 (by omega) hl.2.1, show e + (i0 + 1 - e) = i0 + 1 by omega]
theorem SSc.lms {T : List Nat} {i0 e : Nat} (h : SSc T i0 e) (h0 : 0 < e) : lmsF T e = e :: lmsF T (i0 + 1) ∧ Lms T e := by
  have h1 := h.1.1
  have hl : Lms T e := ⟨h0, h.1.2 e (Nat.le_refl _) h1, h.2 h0⟩
  refine ⟨?_, hl⟩
  rw [lmsF_cons hl, lmsF_skips (e := e + 1) (i0 - e) fun p h2 h3 hp => hp.2.2 (h.1.2 (p - 1) (by omega) (by omega)), show e + 1 + (i0 - e) = i0 + 1 by omega]
theorem SSc.none {T : List Nat} {i0 : Nat} (h : SSc T i0 0) : lmsF T 0 = lmsF T (i0 + 1) := by
  have := lmsF_skips (T := T) (e := 0) (i0 + 1) fun p h2 h3 hp => hp.2.2 (h.1.2 (p - 1) (by omega) (by omega))
  rwa [Nat.zero_add] at this
theorem lmsF_le (T : List Nat) : ∀ (m f : Nat), T.length - f ≤ m → 2 * (lmsF T f).length ≤ T.length - f
  | 0, f, hm => by
    unfold lmsF
    rw [show T.length - f = 0 by omega]
    simp
  | m + 1, f, hm => by
    by_cases h0 : T.length - f = 0
    · unfold lmsF; rw [h0]; simp
    · by_cases h : Lms T f
      · have h2 := lms_lt h
        rw [lmsF_cons h, lmsF_skip (lms_apart h), List.length_cons]
        have := lmsF_le T m (f + 1 + 1) (by omega)
        omega
      · rw [lmsF_skip h]
        have := lmsF_le T m (f + 1) (by omega)
        omega
end Go.Proofs.Ytcibehgcibojnaa.Sais

namespace Go.Proofs.Ytcibehgcibojnaa.Sais
open Go.Proofs.Ytcibehgcibojnaa.Vm Classical
def neg (c : Int) : Option Nat := if c < 0 then some (-1 - c).toNat else none
def pk (SA : List Int) (i : Nat) : List Nat := (SA.take i).filterMap neg
theorem rd_getElem {l : List Int} {i : Nat} (h : i < l.length) : rd l (i : Int) = l[i] := by
  unfold rd
  simp [h]
theorem pk_succ {SA : List Int} {i : Nat} (hi : i < SA.length) : pk SA (i + 1) = pk SA i ++ (neg (rd SA i)).toList := by
  unfold pk
  rw [List.take_succ_eq_append_getElem hi, List.filterMap_append, rd_getElem hi]
  cases h : neg SA[i] <;> simp [h]
theorem pk_mono {SA : List Int} {i j : Nat} (h : i ≤ j) (hj : j ≤ SA.length) : (pk SA i).length ≤ (pk SA j).length := by
  induction h with
  | refl => exact Nat.le_refl _
  | step _ ih =>
    rw [pk_succ (by omega), List.length_append]
    have := ih (by omega)
    omega
structure Packed (SA0 : List Int) (i : Nat) (SA : List Int) : Prop where
  len : SA.length = SA0.length
  le : i ≤ SA0.length
  fst : ∀ u, u < (pk SA0 i).length → rd SA (u : Int) = (ch (pk SA0 i) u : Nat)
  mid : ∀ u, (pk SA0 i).length ≤ u → u < i → rd SA (u : Int) = 0
  rst : ∀ u, i ≤ u → u < SA0.length → rd SA (u : Int) = rd SA0 (u : Int)
theorem Packed.zero (SA0 : List Int) : Packed SA0 0 SA0 := ⟨rfl, Nat.zero_le _, fun u h => by simp [pk] at h, fun u _ h => by omega, fun _ _ _ => rfl⟩
theorem ch_append_left {a b : List Nat} {u : Nat} (h : u < a.length) : ch (a ++ b) u = ch a u := by
  unfold ch
  rw [List.getD_eq_getElem?_getD, List.getD_eq_getElem?_getD, List.getElem?_append_left h]
theorem ch_append_mid {a : List Nat} {x : Nat} : ch (a ++ [x]) a.length = x := by
  unfold ch
  simp
theorem pk_neg {SA0 : List Int} {i : Nat} (hi : i < SA0.length) {x : Int} (hx : rd SA0 (i : Int) = x) (h : x < 0) : pk SA0 (i + 1) = pk SA0 i ++ [(-1 - x).toNat] := by
  rw [pk_succ hi, hx]
  unfold neg
  rw [if_pos h]
  rfl
theorem Packed.pass {SA0 SA : List Int} {i : Nat} (h : Packed SA0 i SA) (hi : i < SA0.length) (hx : rd SA (i : Int) = 0) : Packed SA0 (i + 1) SA ∧ pk SA0 (i + 1) = pk SA0 i := by
  have hx0 := h.rst i (Nat.le_refl _) hi
  have e : pk SA0 (i + 1) = pk SA0 i := by
    rw [pk_succ hi, ← hx0, hx]
    simp [neg]
  refine ⟨⟨h.len, hi, ?_, ?_, fun u h1 h2 => h.rst u (by omega) h2⟩, e⟩
  · rw [e]; exact h.fst
  · rw [e]
    intro u h1 h2
    by_cases e2 : u = i
    · rw [e2]; exact hx
    · exact h.mid u h1 (by omega)
theorem Packed.one {SA0 SA : List Int} {i : Nat} (h : Packed SA0 i SA) (hi : i < SA0.length) (hp : (pk SA0 i).length = i) (hx : rd SA (i : Int) < 0) : Packed SA0 (i + 1) (wr SA i (-1 - rd SA i)) ∧ (pk SA0 (i + 1)).length = i + 1 := by
  have hx0 := h.rst i (Nat.le_refl _) hi
  have e := pk_neg hi hx0.symm hx
  have hl : (pk SA0 (i + 1)).length = i + 1 := by rw [e, List.length_append, hp]; rfl
  refine ⟨⟨by rw [wr_length]; exact h.len, hi, fun u hu => ?_, fun u h1 h2 => by omega, fun u h1 h2 => ?_⟩, hl⟩
  · rw [hl] at hu
    rw [rd_wr (by rw [h.len]; exact hi), e]
    by_cases e2 : u = i
    · rw [if_pos e2, e2]
      have := ch_append_mid (a := pk SA0 i) (x := (-1 - rd SA (i : Int)).toNat)
      rw [hp] at this
      rw [this]
      omega
    · rw [if_neg e2, ch_append_left (by omega)]
      exact h.fst u (by omega)
  · rw [rd_wr (by rw [h.len]; exact hi), if_neg (by omega)]
    exact h.rst u (by omega) h2
theorem Packed.two {SA0 SA : List Int} {i j : Nat} (h : Packed SA0 i SA) (hi : i < SA0.length) (hp : (pk SA0 i).length = j) (hj : j < i) (hx : rd SA (i : Int) < 0) : Packed SA0 (i + 1) (wr (wr SA j (-1 - rd SA i)) i 0) ∧ (pk SA0 (i + 1)).length = j + 1 := by
  have hx0 := h.rst i (Nat.le_refl _) hi
  have e := pk_neg hi hx0.symm hx
  have hl : (pk SA0 (i + 1)).length = j + 1 := by rw [e, List.length_append, hp]; rfl
  have hr : ∀ u : Nat, rd (wr (wr SA j (-1 - rd SA i)) i 0) (u : Int) = if u = i then 0 else if u = j then -1 - rd SA i else rd SA u := fun u => by
    rw [rd_wr (by rw [wr_length, h.len]; exact hi), rd_wr (by rw [h.len]; omega)]
  refine ⟨⟨by rw [wr_length, wr_length]; exact h.len, hi, fun u hu => ?_, fun u h1 h2 => ?_, fun u h1 h2 => ?_⟩, hl⟩
  · rw [hl] at hu
    rw [hr, if_neg (by omega), e]
    by_cases e2 : u = j
    · rw [if_pos e2, e2, ← hp, ch_append_mid]
      omega
    · rw [if_neg e2, ch_append_left (by omega)]
      exact h.fst u (by omega)
  · rw [hl] at h1
    rw [hr]
    by_cases e2 : u = i
    · rw [if_pos e2]
    · rw [if_neg e2, if_neg (by omega)]
      exact h.mid u (by omega) (by omega)
  · rw [hr, if_neg (by omega), if_neg (by omega)]
    exact h.rst u (by omega) h2
theorem nodup_le : ∀ {A B : List Nat}, A.Nodup → (∀ x ∈ A, x ∈ B) → A.length ≤ B.length
  | [], _, _, _ => by simp
  | a :: A, B, h, h2 => by
    have h3 := List.nodup_cons.1 h
    have ha := h2 a List.mem_cons_self
    have := nodup_le (B := B.erase a) h3.2 fun x hx => (List.mem_erase_of_ne (fun e : x = a => h3.1 (e ▸ hx))).2 (h2 x (List.mem_cons_of_mem _ hx))
    rw [List.length_erase_of_mem ha] at this
    have h4 := List.length_pos_of_mem ha
    rw [List.length_cons]
    omega
structure Srt (T : List Nat) (L : List Nat) : Prop where
  ord : L.Pairwise fun x y => x ≠ y ∧ key T x ≤ key T y
  mem : ∀ y, y ∈ L ↔ Lms T y
theorem Srt.len {T L : List Nat} (h : Srt T L) : L.length = (lmsF T 0).length := by
  have h1 : L.Nodup := List.nodup_iff_pairwise_ne.2 (h.ord.imp fun h => h.1)
  have h2 : (lmsF T 0).Nodup := List.nodup_iff_pairwise_ne.2 ((lmsF_sorted T 0).imp fun h => Nat.ne_of_lt h)
  exact Nat.le_antisymm (nodup_le h1 fun x hx => lmsF_mem.2 ⟨Nat.zero_le _, (h.mem x).1 hx⟩) (nodup_le h2 fun x hx => (h.mem x).2 (lmsF_mem.1 hx).2)
theorem Sorted1.srt {T : List Nat} {SA : List Int} (h : Sorted1 T SA) : Srt T (pk SA T.length) := by
  have ht : SA.take T.length = SA := List.take_of_length_le (by rw [h.len]; exact Nat.le_refl _)
  have hn : ∀ c x, neg c = some x → c = -1 - (x : Int) := fun c x hc => by
    unfold neg at hc
    split at hc
    · cases hc; omega
    · cases hc
  unfold pk
  rw [ht]
  refine ⟨?_, fun y => ?_⟩
  · rw [List.pairwise_filterMap, List.pairwise_iff_getElem]
    intro i j hi hj hij x hx y hy
    have h1 := hn _ _ hx
    have h2 := hn _ _ hy
    rw [← rd_getElem hi] at h1
    rw [← rd_getElem hj] at h2
    exact h.ord i j x y hij (by rw [h.len] at hj; exact hj) h1 h2
  · rw [List.mem_filterMap]
    constructor
    · rintro ⟨c, hc, hy⟩
      obtain ⟨i, hi, rfl⟩ := List.mem_iff_getElem.1 hc
      have h1 := hn _ _ hy
      rw [← rd_getElem hi] at h1
      rcases h.cell i (by rw [h.len] at hi; exact hi) with h2 | ⟨x, h2, h3⟩
      · omega
      · obtain rfl : x = y := by omega
        exact h2
    · intro hy
      obtain ⟨u, hu, h1⟩ := h.all y hy
      refine ⟨rd SA u, ?_, ?_⟩
      · rw [rd_getElem (by rw [h.len]; exact hu)]
        exact List.getElem_mem _
      · unfold neg
        rw [if_pos (by omega)]
        congr 1
        omega
end Go.Proofs.Ytcibehgcibojnaa.Sais

namespace Go.Proofs.Ytcibehgcibojnaa.Sais
open Classical
noncomputable def plen (T : List Nat) (x : Nat) : Nat := match lmsF T (x + 1) with
  | [] => T.length - x
  | y :: _ => y - x + 1
theorem plen_cases (T : List Nat) (x : Nat) : (plen T x = T.length - x ∧ ∀ y, x < y → ¬ Lms T y) ∨ ∃ y, x < y ∧ Lms T y ∧ (∀ z, x < z → z < y → ¬ Lms T z) ∧ plen T x = y - x + 1 := by
  unfold plen
  have hs := lmsF_sorted T (x + 1)
  have hm := fun y => lmsF_mem (T := T) (f := x + 1) (y := y)
  cases h : lmsF T (x + 1) with
  | nil =>
    refine .inl ⟨rfl, fun y hy hl => ?_⟩
    have := (hm y).2 ⟨hy, hl⟩
    rw [h] at this
    simp at this
  | cons y r =>
    rw [h] at hs hm
    have h1 := (hm y).1 List.mem_cons_self
    refine .inr ⟨y, h1.1, h1.2, fun z hz1 hz2 hl => ?_, rfl⟩
    rcases List.mem_cons.1 ((hm z).2 ⟨hz1, hl⟩) with h2 | h2
    · omega
    · have := (List.pairwise_cons.1 hs).1 z h2
      omega
theorem st_same {T : List Nat} {x y : Nat} (hx : x + 1 < T.length) (hy : y + 1 < T.length) (h : ch T x = ch T y) (h1 : ch T (x + 1) = ch T (y + 1)) (hs : St T (x + 1) → St T (y + 1)) : St T x → St T y := by
  rw [st_iff T hx, st_iff T hy, h, h1]
  exact fun h2 => h2.imp id fun h3 => ⟨h3.1, hs h3.2⟩
theorem st_run {T : List Nat} {x y : Nat} : ∀ (d : Nat), x + d < T.length → y + d < T.length → (∀ e, e ≤ d → ch T (x + e) = ch T (y + e)) → (St T (x + d) → St T (y + d)) → ∀ e, e ≤ d → St T (x + e) → St T (y + e)
  | 0, _, _, _, hs, e, he => by rw [show e = 0 by omega]; exact hs
  | d + 1, hx, hy, h, hs, e, he => by
    by_cases h1 : e = d + 1
    · rw [h1]; exact hs
    · exact st_run d (by omega) (by omega) (fun e he => h e (by omega)) (st_same (by omega) (by omega) (h d (by omega)) (h (d + 1) (by omega)) hs) e (by omega)
theorem cd2_le {T : List Nat} {x y : Nat} (h : ch T x = ch T y) (hs : St T x → St T y) : cd2 T x ≤ cd2 T y ∧ (cd2 T x = cd2 T y → (St T x ↔ St T y)) := by
  unfold cd2
  by_cases h1 : St T x
  · rw [if_pos h1, if_pos (hs h1), h]; exact ⟨Nat.le_refl _, fun _ => ⟨hs, fun _ => h1⟩⟩
  · rw [if_neg h1, h]
    by_cases h2 : St T y
    · rw [if_pos h2]; exact ⟨by omega, fun e => by omega⟩
    · rw [if_neg h2]; exact ⟨Nat.le_refl _, fun _ => ⟨fun h => absurd h h1, fun h => absurd h h2⟩⟩
theorem key_same {T : List Nat} : ∀ (d x y : Nat), 1 ≤ d → x + d < T.length → y + d < T.length → Lms T (x + d) → Lms T (y + d) → (∀ e, 1 ≤ e → e < d → ¬ Lms T (x + e) ∧ ¬ Lms T (y + e)) → (∀ e, e ≤ d → cd2 T (x + e) = cd2 T (y + e)) → key T x = key T y
  | 0, _, _, h, _, _, _, _, _, _ => by omega
  | d + 1, x, y, _, hx, hy, l1, l2, hb, hc => by
    rw [key_cons T (by omega), key_cons T (by omega)]
    have h0 := hc 0 (by omega)
    have h1 := hc 1 (by omega)
    rw [Nat.add_zero, Nat.add_zero] at h0
    by_cases hd : d = 0
    · subst hd
      rw [show keyL T (x + 1) = [cd2 T (x + 1)] from if_pos l1, show keyL T (y + 1) = [cd2 T (y + 1)] from if_pos l2, h0, h1]
    · have hb1 := hb 1 (by omega) (by omega)
      rw [show keyL T (x + 1) = key T (x + 1) from if_neg hb1.1, show keyL T (y + 1) = key T (y + 1) from if_neg hb1.2, h0]
      congr 1
      refine key_same d (x + 1) (y + 1) (by omega) (by omega) (by omega) (by rw [show x + 1 + d = x + (d + 1) by omega]; exact l1) (by rw [show y + 1 + d = y + (d + 1) by omega]; exact l2) (fun e h1 h2 => ?_) (fun e he => ?_)
      · rw [show x + 1 + e = x + (e + 1) by omega, show y + 1 + e = y + (e + 1) by omega]; exact hb (e + 1) (by omega) (by omega)
      · rw [show x + 1 + e = x + (e + 1) by omega, show y + 1 + e = y + (e + 1) by omega]; exact hc (e + 1) (by omega)
theorem key_last {T : List Nat} : ∀ (d x y : Nat), 1 ≤ d → x + d < T.length → y + d < T.length → ¬ Lms T (x + d) → ¬ St T (x + d) → Lms T (y + d) → (∀ e, 1 ≤ e → e < d → ¬ Lms T (x + e) ∧ ¬ Lms T (y + e)) →
    (∀ e, e ≤ d → ch T (x + e) = ch T (y + e)) → (∀ e, e ≤ d → St T (x + e) → St T (y + e)) → key T x < key T y
  | 0, _, _, h, _, _, _, _, _, _, _, _ => by omega
  | d + 1, x, y, _, hx, hy, n1, n2, l2, hb, hc, hs => by
    rw [key_cons T (by omega), key_cons T (by omega), List.cons_lt_cons_iff]
    have h0 := cd2_le (hc 0 (by omega)) (hs 0 (by omega))
    rw [Nat.add_zero, Nat.add_zero] at h0
    rcases Nat.lt_or_ge (cd2 T x) (cd2 T y) with h3 | h3
    · exact .inl h3
    · refine .inr ⟨by omega, ?_⟩
      by_cases hd : d = 0
      · subst hd
        rw [show keyL T (x + 1) = key T (x + 1) from if_neg n1, show keyL T (y + 1) = [cd2 T (y + 1)] from if_pos l2, key_cons T (by omega), List.cons_lt_cons_iff]
        refine .inl ?_
        have h1 := cd2_le (hc 1 (by omega)) (hs 1 (by omega))
        rcases Nat.lt_or_ge (cd2 T (x + 1)) (cd2 T (y + 1)) with h4 | h4
        · exact h4
        · exact absurd ((h1.2 (by omega)).2 l2.2.1) n2
      · have hb1 := hb 1 (by omega) (by omega)
        rw [show keyL T (x + 1) = key T (x + 1) from if_neg hb1.1, show keyL T (y + 1) = key T (y + 1) from if_neg hb1.2]
        refine key_last d (x + 1) (y + 1) (by omega) (by omega) (by omega) (by rw [show x + 1 + d = x + (d + 1) by omega]; exact n1) (by rw [show x + 1 + d = x + (d + 1) by omega]; exact n2) (by rw [show y + 1 + d = y + (d + 1) by omega]; exact l2)
          (fun e h1 h2 => ?_) (fun e he => ?_) (fun e he => ?_)
        · rw [show x + 1 + e = x + (e + 1) by omega, show y + 1 + e = y + (e + 1) by omega]; exact hb (e + 1) (by omega) (by omega)
        · rw [show x + 1 + e = x + (e + 1) by omega, show y + 1 + e = y + (e + 1) by omega]; exact hc (e + 1) (by omega)
        · rw [show x + 1 + e = x + (e + 1) by omega, show y + 1 + e = y + (e + 1) by omega]; exact hs (e + 1) (by omega)
theorem same_iff {T : List Nat} {x y : Nat} (hx : Lms T x) (hy : Lms T y) (hne : x ≠ y) (hle : key T y ≤ key T x) :
    key T x = key T y ↔ (plen T x = plen T y ∧ y + plen T x < T.length ∧ ∀ j, j < plen T x → ch T (x + j) = ch T (y + j)) := by
  have hx1 := lms_lt hx
  have hy1 := lms_lt hy
  constructor
  · intro h
    obtain ⟨d, d1, d2, d3, d4, d5⟩ := key_eq T _ x y (Nat.le_refl _) (by omega) (by omega) hne h
    have p1 : plen T x = d + 1 := by
      rcases plen_cases T x with ⟨_, h2⟩ | ⟨z, z1, z2, z3, z4⟩
      · exact absurd d2 (h2 _ (by omega))
      · rcases Nat.lt_trichotomy z (x + d) with h3 | h3 | h3
        · exact absurd (show Lms T (x + (z - x)) by rw [show x + (z - x) = z by omega]; exact z2) (d4 (z - x) (by omega) (by omega)).1
        · omega
        · exact absurd d2 (z3 _ (by omega) h3)
    have p2 : plen T y = d + 1 := by
      rcases plen_cases T y with ⟨_, h2⟩ | ⟨z, z1, z2, z3, z4⟩
      · exact absurd d3 (h2 _ (by omega))
      · rcases Nat.lt_trichotomy z (y + d) with h3 | h3 | h3
        · exact absurd (show Lms T (y + (z - y)) by rw [show y + (z - y) = z by omega]; exact z2) (d4 (z - y) (by omega) (by omega)).2
        · omega
        · exact absurd d3 (z3 _ (by omega) h3)
    have := lms_lt d3
    exact ⟨by omega, by omega, fun j hj => d5 j (by omega)⟩
  · rintro ⟨h1, h2, h3⟩
    rcases plen_cases T y with ⟨h4, _⟩ | ⟨z, z1, z2, z3, z4⟩
    · omega
    · obtain ⟨d, rfl⟩ : ∃ d, z = y + d := ⟨z - y, by omega⟩
      have hd : plen T x = d + 1 := by omega
      rw [hd] at h2 h3
      rcases plen_cases T x with ⟨h4, h5⟩ | ⟨w, w1, w2, w3, w4⟩
      · exfalso
        have hl := key_last d x y (by omega) (by omega) (by omega) (h5 _ (by omega)) (st_last T (by omega)) z2 (fun e e1 e2 => ⟨h5 _ (by omega), z3 _ (by omega) (by omega)⟩) (fun e he => h3 e (by omega))
          (st_run d (by omega) (by omega) (fun e he => h3 e (by omega)) fun _ => z2.2.1)
        exact hle hl
      · obtain rfl : w = x + d := by omega
        have hw := lms_lt w2
        have hz := lms_lt z2
        have hs1 := st_run (T := T) (x := x) (y := y) d (by omega) (by omega) (fun e he => h3 e (by omega)) fun _ => z2.2.1
        have hs2 := st_run (T := T) (x := y) (y := x) d (by omega) (by omega) (fun e he => (h3 e (by omega)).symm) fun _ => w2.2.1
        refine key_same d x y (by omega) (by omega) (by omega) w2 z2 (fun e e1 e2 => ⟨w3 _ (by omega) (by omega), z3 _ (by omega) (by omega)⟩) fun e he => ?_
        have k1 := (cd2_le (h3 e (by omega)) (hs1 e he)).1
        have k2 := (cd2_le (h3 e (by omega)).symm (hs2 e he)).1
        omega
end Go.Proofs.Ytcibehgcibojnaa.Sais

namespace Go.Proofs.Ytcibehgcibojnaa.Sais
open Go.Proofs.Ytcibehgcibojnaa.Vm Classical
noncomputable def nmAt (T L : List Nat) : Nat → Nat
  | 0 => 1
  | i + 1 => nmAt T L i + if key T (ch L i) = key T (ch L (i + 1)) then 0 else 1
theorem nmAt_mono (T L : List Nat) {i j : Nat} (h : i ≤ j) : nmAt T L i ≤ nmAt T L j := by
  induction h with
  | refl => exact Nat.le_refl _
  | step _ ih =>
    show _ ≤ nmAt T L _ + _
    omega
theorem nmAt_le (T L : List Nat) : ∀ i, nmAt T L i ≤ i + 1
  | 0 => Nat.le_refl _
  | i + 1 => by
    have := nmAt_le T L i
    show nmAt T L i + (if _ then 0 else 1) ≤ _
    split <;> omega
theorem nmAt_pos (T L : List Nat) (i : Nat) : 1 ≤ nmAt T L i := nmAt_mono T L (Nat.zero_le i)
theorem Srt.at {T L : List Nat} (h : Srt T L) {i j : Nat} (hij : i < j) (hj : j < L.length) : ch L i ≠ ch L j ∧ key T (ch L i) ≤ key T (ch L j) := by
  have := List.pairwise_iff_getElem.1 h.ord i j (by omega) hj hij
  simpa [ch, hj, show i < L.length by omega] using this
theorem Srt.lms {T L : List Nat} (h : Srt T L) {i : Nat} (hi : i < L.length) : Lms T (ch L i) := (h.mem _).1 (by
  rw [show ch L i = L[i] by simp [ch, hi]]
  exact List.getElem_mem _)
theorem Srt.idx {T L : List Nat} (h : Srt T L) {x : Nat} (hx : Lms T x) : ∃ i, i < L.length ∧ ch L i = x := by
  obtain ⟨i, hi, e⟩ := List.mem_iff_getElem.1 ((h.mem x).2 hx)
  exact ⟨i, hi, by simp [ch, hi, e]⟩
theorem nmAt_eq {T L : List Nat} (h : Srt T L) : ∀ {i : Nat} (d : Nat), i + d < L.length → (nmAt T L i = nmAt T L (i + d) ↔ key T (ch L i) = key T (ch L (i + d)))
  | i, 0, _ => ⟨fun _ => rfl, fun _ => rfl⟩
  | i, d + 1, hd => by
    have ih := nmAt_eq h (i := i) d (by omega)
    have h1 := nmAt_mono T L (show i ≤ i + d by omega)
    have h2 : nmAt T L (i + (d + 1)) = nmAt T L (i + d) + if key T (ch L (i + d)) = key T (ch L (i + d + 1)) then 0 else 1 := rfl
    have h3 := h.at (show i + d < i + d + 1 by omega) hd
    rw [show i + (d + 1) = i + d + 1 by omega] at h2 ⊢
    constructor
    · intro e
      by_cases hk : key T (ch L (i + d)) = key T (ch L (i + d + 1))
      · rw [if_pos hk] at h2
        rw [← hk]
        exact ih.1 (by omega)
      · rw [if_neg hk] at h2; omega
    · intro e
      have hk : key T (ch L (i + d)) = key T (ch L (i + d + 1)) := by
        rcases Nat.eq_zero_or_pos d with h4 | h4
        · subst h4; exact e
        · have h5 := (h.at (show i < i + d by omega) (by omega)).2
          rw [e] at h5
          exact List.le_antisymm h3.2 h5
      rw [h2, if_pos hk]
      exact ih.2 (by rw [hk]; exact e)
theorem nmAt_lt {T L : List Nat} (h : Srt T L) {i j : Nat} (hi : i < L.length) (hj : j < L.length) (hlt : nmAt T L i < nmAt T L j) : key T (ch L i) < key T (ch L j) := by
  have hij : i < j := Nat.lt_of_not_le fun h => by
    have := nmAt_mono T L h
    omega
  rcases List.le_iff_lt_or_eq.1 (h.at hij hj).2 with h1 | h1
  · exact h1
  · have := (nmAt_eq h (i := i) (j - i) (by omega)).2 (by rw [show i + (j - i) = j by omega]; exact h1)
    rw [show i + (j - i) = j by omega] at this
    omega
theorem half_ne {T : List Nat} {x y : Nat} (hx : Lms T x) (hy : Lms T y) (h : x ≠ y) : x / 2 ≠ y / 2 := fun e => by
  by_cases h1 : y = x + 1
  · subst h1; exact lms_apart hx hy
  · by_cases h2 : x = y + 1
    · subst h2; exact lms_apart hy hx
    · omega
noncomputable def nxt (T : List Nat) (f : Nat) : Nat := match lmsF T f with
  | [] => T.length - 1
  | y :: _ => y
theorem plen_nxt {T : List Nat} {e f : Nat} (he : e < T.length) (h : lmsF T (e + 1) = lmsF T f) : plen T e + e = nxt T f + 1 := by
  unfold plen nxt
  rw [h]
  cases hf : lmsF T f with
  | nil => dsimp only; omega
  | cons y r =>
    dsimp only
    have := (lmsF_mem.1 (show y ∈ lmsF T (e + 1) by rw [h, hf]; exact List.mem_cons_self)).1
    omega
theorem nxt_le (T : List Nat) (f : Nat) (h : 0 < T.length) : nxt T f < T.length := by
  unfold nxt
  cases hf : lmsF T f with
  | nil => dsimp only; omega
  | cons y r =>
    have := lms_lt (lmsF_mem.1 (show y ∈ lmsF T f by rw [hf]; exact List.mem_cons_self)).2
    dsimp only; omega
theorem plen_le {T : List Nat} {x : Nat} (hx : Lms T x) : 2 ≤ plen T x ∧ x + plen T x ≤ T.length := by
  have := lms_lt hx
  rcases plen_cases T x with ⟨h, _⟩ | ⟨y, h1, h2, _, h3⟩
  · omega
  · have := lms_lt h2
    omega
theorem nxt_congr {T : List Nat} {f f' : Nat} (h : lmsF T f = lmsF T f') : nxt T f = nxt T f' := by
  unfold nxt
  rw [h]
theorem nxt_end (T : List Nat) : nxt T (T.length - 1) = T.length - 1 := by
  unfold nxt
  rw [lmsF_end]
theorem nxt_head {T : List Nat} {e : Nat} {r : List Nat} (h : lmsF T e = e :: r) : nxt T e = e := by
  unfold nxt
  rw [h]
theorem lmsF_tail {T : List Nat} {e : Nat} {r : List Nat} (he : Lms T e) (h : lmsF T e = e :: r) : lmsF T (e + 1) = r := by
  rw [lmsF_cons he] at h
  exact (List.cons.inj h).2
structure Lens (T : List Nat) (m f : Nat) (L : List Nat) (SA : List Int) : Prop where
  len : SA.length = T.length
  fst : ∀ a, a < m → rd SA (a : Int) = (ch L a : Nat)
  at' : ∀ x, x ∈ lmsF T f → rd SA ((m + x / 2 : Nat) : Int) = (plen T x : Nat)
  rst : ∀ u, m ≤ u → u < T.length → (∀ x, x ∈ lmsF T f → m + x / 2 ≠ u) → rd SA (u : Int) = 0
theorem Lens.step {T L : List Nat} {m f e : Nat} {SA : List Int} (h : Lens T m f L SA) (h2m : 2 * m ≤ T.length) (he : Lms T e) (hf : lmsF T e = e :: lmsF T f) {x : Int} (hx : x = (plen T e : Nat)) :
    m + e / 2 < T.length ∧ Lens T m e L (wr SA ((m + e / 2 : Nat) : Int) x) := by
  have h1 := lms_lt he
  have hlt : m + e / 2 < T.length := by omega
  refine ⟨hlt, ⟨by rw [wr_length]; exact h.len, fun a ha => ?_, fun y hy => ?_, fun u hu1 hu2 hu3 => ?_⟩⟩
  · rw [rd_wr (by rw [h.len]; exact hlt), if_neg (by omega)]
    exact h.fst a ha
  · rw [rd_wr (by rw [h.len]; exact hlt)]
    rw [hf] at hy
    by_cases e2 : y = e
    · rw [e2, if_pos rfl, hx]
    · rcases List.mem_cons.1 hy with h3 | h3
      · exact absurd h3 e2
      · have := half_ne (lmsF_mem.1 h3).2 he e2
        rw [if_neg (by omega)]
        exact h.at' y h3
  · rw [hf] at hu3
    rw [rd_wr (by rw [h.len]; exact hlt), if_neg (fun e2 => hu3 e List.mem_cons_self e2.symm)]
    exact h.rst u hu1 hu2 fun y hy => hu3 y (List.mem_cons_of_mem _ hy)
theorem pk_full {SA : List Int} {i : Nat} (h : (pk SA i).length = (pk SA SA.length).length) : pk SA i = pk SA SA.length := by
  have e : pk SA SA.length = pk SA i ++ (SA.drop i).filterMap neg := by
    unfold pk
    rw [← List.filterMap_append, List.take_append_drop, List.take_length]
  rw [e, List.length_append] at h
  have : (SA.drop i).filterMap neg = [] := List.eq_nil_of_length_eq_zero (by omega)
  rw [e, this, List.append_nil]
theorem Packed.lens {T L : List Nat} {SA0 SA : List Int} {i m : Nat} (h0 : Sorted1 T SA0) (hL : pk SA0 T.length = L) (hm : L.length = m) (h : Packed SA0 i SA) (hi : (pk SA0 i).length = m) : Lens T m (T.length - 1) L SA := by
  have hl := h0.len
  have e : pk SA0 i = L := by
    rw [← hL, ← hl]
    exact pk_full (by rw [hl, hL, hm, hi])
  refine ⟨by rw [h.len, hl], fun a ha => ?_, fun x hx => ?_, fun u hu1 hu2 _ => ?_⟩
  · rw [h.fst a (by omega), e]
  · rw [lmsF_end] at hx; simp at hx
  · by_cases hui : u < i
    · exact h.mid u (by omega) hui
    · rw [h.rst u (by omega) (by omega)]
      rcases h0.cell u hu2 with h1 | ⟨x, _, h1⟩
      · exact h1
      · exfalso
        have h2 := pk_neg (SA0 := SA0) (i := u) (by omega) h1 (by omega)
        have h3 := pk_mono (SA := SA0) (show i ≤ u by omega) (by omega)
        have h4 := pk_mono (SA := SA0) (show u + 1 ≤ SA0.length by omega) (Nat.le_refl _)
        rw [h2, List.length_append, hl, hL, hm] at h4
        simp only [List.length_cons, List.length_nil] at h4
        omega
theorem Lens.same {T L : List Nat} {m f f' : Nat} {SA : List Int} (h : Lens T m f L SA) (hf : lmsF T f' = lmsF T f) : Lens T m f' L SA := ⟨h.len, h.fst, by rw [hf]; exact h.at', by rw [hf]; exact h.rst⟩
structure Nms (T : List Nat) (m i : Nat) (L : List Nat) (SA : List Int) : Prop where
  len : SA.length = T.length
  fst : ∀ a, a < m → rd SA (a : Int) = (ch L a : Nat)
  old : ∀ a, i ≤ a → a < m → rd SA ((m + ch L a / 2 : Nat) : Int) = (plen T (ch L a) : Nat)
  new : ∀ a, a < i → a < m → rd SA ((m + ch L a / 2 : Nat) : Int) = (nmAt T L a : Nat)
  rst : ∀ u, m ≤ u → u < T.length → (∀ a, a < m → m + ch L a / 2 ≠ u) → rd SA (u : Int) = 0
theorem Lens.nms {T L : List Nat} {SA : List Int} (hS : Srt T L) (h : Lens T L.length 0 L SA) : Nms T L.length 0 L SA := by
  refine ⟨h.len, h.fst, fun a _ ha => h.at' _ (lmsF_mem.2 ⟨Nat.zero_le _, hS.lms ha⟩), fun a ha => by omega, fun u h1 h2 h3 => h.rst u h1 h2 fun x hx => ?_⟩
  obtain ⟨i, hi, e⟩ := hS.idx (lmsF_mem.1 hx).2
  rw [← e]
  exact h3 i hi
theorem Nms.step {T L : List Nat} {i : Nat} {SA : List Int} (hS : Srt T L) (h2m : 2 * L.length ≤ T.length) (h : Nms T L.length i L SA) (hi : i < L.length) {x : Int} (hx : x = (nmAt T L i : Nat)) :
    L.length + ch L i / 2 < T.length ∧ Nms T L.length (i + 1) L (wr SA ((L.length + ch L i / 2 : Nat) : Int) x) := by
  have h1 := lms_lt (hS.lms hi)
  have hlt : L.length + ch L i / 2 < T.length := by omega
  have hne : ∀ a, a < L.length → a ≠ i → ch L a / 2 ≠ ch L i / 2 := fun a ha hai => half_ne (hS.lms ha) (hS.lms hi) (by
    rcases Nat.lt_or_gt_of_ne hai with h3 | h3
    · exact (hS.at h3 hi).1
    · exact fun e => (hS.at h3 ha).1 e.symm)
  refine ⟨hlt, ⟨by rw [wr_length]; exact h.len, fun a ha => ?_, fun a ha1 ha2 => ?_, fun a ha1 ha2 => ?_, fun u hu1 hu2 hu3 => ?_⟩⟩
  · rw [rd_wr (by rw [h.len]; exact hlt), if_neg (by omega)]; exact h.fst a ha
  · have := hne a ha2 (by omega)
    rw [rd_wr (by rw [h.len]; exact hlt), if_neg (by omega)]; exact h.old a (by omega) ha2
  · rw [rd_wr (by rw [h.len]; exact hlt)]
    by_cases e : a = i
    · rw [e, if_pos rfl, hx]
    · have := hne a ha2 e
      rw [if_neg (by omega)]; exact h.new a (by omega) ha2
  · have := hu3 i hi
    rw [rd_wr (by rw [h.len]; exact hlt), if_neg (by omega)]; exact h.rst u hu1 hu2 hu3
def Named (T : List Nat) (m : Nat) (SA : List Int) (name : Nat) : Prop :=
  ∃ L, Srt T L ∧ L.length = m ∧ SA.length = T.length ∧ (name = m → ∀ a, a < m → rd SA (a : Int) = (ch L a : Nat)) ∧ name = nmAt T L (m - 1) ∧
    (name < m → (∀ a, a < m → rd SA ((m + ch L a / 2 : Nat) : Int) = (nmAt T L a : Nat)) ∧ ∀ u, m ≤ u → u < T.length → (∀ a, a < m → m + ch L a / 2 ≠ u) → rd SA (u : Int) = 0)
def Lead (T L : List Nat) (i q ql name : Nat) : Prop := (i = 0 ∧ q = T.length ∧ ql = 0 ∧ name = 0) ∨ ∃ r, r < i ∧ q = ch L r ∧ ql = plen T q ∧ key T (ch L r) = key T (ch L (i - 1)) ∧ name = nmAt T L (i - 1)
theorem Lead.le {T L : List Nat} (hS : Srt T L) {i q ql name : Nat} (h : Lead T L i q ql name) (hi : i ≤ L.length) : q ≤ T.length ∧ ql ≤ T.length ∧ name ≤ i := by
  rcases h with ⟨rfl, rfl, rfl, rfl⟩ | ⟨r, hr, rfl, rfl, _, rfl⟩
  · omega
  · have h1 := hS.lms (show r < L.length by omega)
    have h2 := plen_le h1
    have h3 := nmAt_le T L (i - 1)
    omega
theorem Lead.step {T L : List Nat} (hS : Srt T L) {i q ql name : Nat} (h : Lead T L i q ql name) (hi : i < L.length) :
    ((plen T (ch L i) = ql ∧ q + plen T (ch L i) < T.length ∧ ∀ j, j < plen T (ch L i) → ch T (ch L i + j) = ch T (q + j)) → name = nmAt T L i ∧ Lead T L (i + 1) q ql name) ∧
    (¬ (plen T (ch L i) = ql ∧ q + plen T (ch L i) < T.length ∧ ∀ j, j < plen T (ch L i) → ch T (ch L i + j) = ch T (q + j)) → name + 1 = nmAt T L i ∧ Lead T L (i + 1) (ch L i) (plen T (ch L i)) (name + 1)) := by
  rcases h with ⟨rfl, rfl, rfl, rfl⟩ | ⟨r, hr, rfl, rfl, hk, rfl⟩
  · have := plen_le (hS.lms hi)
    exact ⟨fun h => by omega, fun _ => ⟨rfl, .inr ⟨0, by omega, rfl, rfl, rfl, rfl⟩⟩⟩
  · have h1 := hS.at hr hi
    have h2 := same_iff (hS.lms hi) (hS.lms (show r < L.length by omega)) (fun e => h1.1 e.symm) h1.2
    have h3 : nmAt T L i = nmAt T L (i - 1) + if key T (ch L (i - 1)) = key T (ch L i) then 0 else 1 := by
      obtain ⟨u, rfl⟩ : ∃ u, i = u + 1 := ⟨i - 1, by omega⟩
      rfl
    refine ⟨fun h => ?_, fun h => ?_⟩
    · have h4 := h2.2 h
      rw [if_pos (by rw [← hk, h4])] at h3
      exact ⟨h3.symm, .inr ⟨r, by omega, rfl, rfl, by rw [Nat.add_sub_cancel, h4], by rw [Nat.add_sub_cancel]; exact h3.symm⟩⟩
    · have h4 := mt h2.1 h
      rw [if_neg (by rw [← hk]; exact fun e => h4 e.symm)] at h3
      exact ⟨h3.symm, .inr ⟨i, by omega, rfl, rfl, by rw [Nat.add_sub_cancel], by rw [Nat.add_sub_cancel]; exact h3.symm⟩⟩
end Go.Proofs.Ytcibehgcibojnaa.Sais
