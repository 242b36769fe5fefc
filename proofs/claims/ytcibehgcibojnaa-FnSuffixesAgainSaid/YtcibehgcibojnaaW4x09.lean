/- Marks: what is the first of its key. No condition. Marks of the first sorting, in cells: the first pass. No condition. Marks of the first sorting, in cells: the beginning, the second pass. No condition. -/
import Derived.Test.YtcibehgcibojnaaW4x08

namespace Go.Proofs.Ytcibehgcibojnaa.Sais
open Classical
def mq (act : Nat → Bool) (A : Nat → Option Nat) (mk : Nat → Bool) (p : Nat) : Bool := match A p with
  | some x => act x && mk p
  | none => false
def dc (act : Nat → Bool) (A : Nat → Option Nat) (mk : Nat → Bool) (i : Nat) : Nat := (List.range i).countP (mq act A mk)
theorem dc_succ (act : Nat → Bool) (A : Nat → Option Nat) (mk : Nat → Bool) (i : Nat) : dc act A mk (i + 1) = dc act A mk i + if mq act A mk i = true then 1 else 0 := by
  unfold dc
  rw [List.range_succ, List.countP_append]
  congr 1
  cases h : mq act A mk i <;> simp [h]
theorem dc_mono (act : Nat → Bool) (A : Nat → Option Nat) (mk : Nat → Bool) {i j : Nat} (h : i ≤ j) : dc act A mk i ≤ dc act A mk j := by
  induction h with
  | refl => exact Nat.le_refl _
  | step _ ih => rw [dc_succ]; omega
theorem dc_flat (act : Nat → Bool) (A : Nat → Option Nat) (mk : Nat → Bool) {i : Nat} : ∀ (e : Nat), (∀ p, i ≤ p → p < i + e → mq act A mk p = false) → dc act A mk (i + e) = dc act A mk i
  | 0, _ => rfl
  | e + 1, h => by
    rw [show i + (e + 1) = i + e + 1 by omega, dc_succ, h (i + e) (by omega) (by omega), dc_flat act A mk e fun p h1 h2 => h p h1 (by omega)]
    rfl
theorem dc_grow (act : Nat → Bool) (A : Nat → Option Nat) (mk : Nat → Bool) {i j r : Nat} (h1 : i ≤ r) (h2 : r < j) (h : mq act A mk r = true) : dc act A mk i + 1 ≤ dc act A mk j := by
  have h3 := dc_mono act A mk h1
  have h4 := dc_mono act A mk (show r + 1 ≤ j from h2)
  rw [dc_succ, if_pos h] at h4
  omega
theorem dc_congr {act : Nat → Bool} {A A' : Nat → Option Nat} {mk mk' : Nat → Bool} : ∀ (i : Nat), (∀ p, p < i → A' p = A p ∧ mk' p = mk p) → dc act A' mk' i = dc act A mk i
  | 0, _ => rfl
  | i + 1, h => by
    rw [dc_succ, dc_succ, dc_congr i fun p hp => h p (by omega)]
    have := h i (by omega)
    unfold mq
    rw [this.1, this.2]
structure Keys (R : Rule) (K : Nat → List Nat) : Prop where
  head : ∀ x y, x < R.n → y < R.n → K x = K y → R.l x = R.l y ∧ (R.Ty x ↔ R.Ty y)
  next : ∀ x y, R.Ty x → R.Ty y → x + 1 < R.n → y + 1 < R.n → R.l x = R.l y → (K x = K y ↔ K (x + 1) = K (y + 1))
  seed : ∀ x y, R.sd x → R.Ty y → y + 1 < R.n → K x ≠ K y
def Flat (K : Nat → List Nat) (s : Ms) : Prop := ∀ p r q x z y, p ≤ r → r ≤ q → s.A p = some x → s.A r = some z → s.A q = some y → K x = K y → K z = K y
structure Mk (R : Rule) (K : Nat → List Nat) (i : Nat) (s : Ms) (W : List Wr) (mk : Nat → Bool) (D : Nat → Bool → Nat) (base d : Nat) : Prop where
  ok : ∀ p x, s.A p = some x → (mk p = true ↔ ∀ p' x', p' < p → s.A p' = some x' → R.act x' = R.act x → K x' ≠ K x)
  d : d = base + dc R.act s.A mk i
  lo : ∀ w ∈ W, 0 < w.t → base + dc R.act s.A mk w.t ≤ D (R.l w.y) (R.act w.y)
  hi : ∀ c b, (∃ w ∈ W, 0 < w.t ∧ R.l w.y = c ∧ R.act w.y = b ∧ D c b = base + dc R.act s.A mk w.t) ∨ D c b ≤ base
theorem least (q : Nat → Prop) : ∀ m, q m → ∃ r, r ≤ m ∧ q r ∧ ∀ p, p < r → ¬ q p
  | m, h => Nat.strongRecOn m (motive := fun m => q m → ∃ r, r ≤ m ∧ q r ∧ ∀ p, p < r → ¬ q p) (fun m ih h => by
    by_cases h1 : ∃ p, p < m ∧ q p
    · obtain ⟨p, h2, h3⟩ := h1
      obtain ⟨r, h4, h5, h6⟩ := ih p h2 h3
      exact ⟨r, by omega, h5, h6⟩
    · exact ⟨m, Nat.le_refl _, h, fun p hp hq => h1 ⟨p, hp, hq⟩⟩) h
section
variable {R : Rule} (hR : R.Ok) {K : Nat → List Nat} (hK : Keys R K) {i : Nat} {s : Ms} {W : List Wr} (h : Iv R i s W) {mk : Nat → Bool} {D : Nat → Bool → Nat} {base d : Nat} (hm : Mk R K i s W mk D base d)
include hm
theorem Mk.skip (hn : ∀ v, s.A i = some v → R.act v = false) : Mk R K (i + 1) s W mk D base d := by
  refine ⟨hm.ok, ?_, hm.lo, hm.hi⟩
  rw [hm.d, dc_succ, if_neg]
  · rfl
  · unfold mq
    cases hv : s.A i with
    | none => simp
    | some v => simp [hn v hv]
theorem Mk.first {q v : Nat} (hv : s.A q = some v) (ha : R.act v = true) : ∃ r x, r ≤ q ∧ s.A r = some x ∧ K x = K v ∧ mq R.act s.A mk r = true ∧ ∀ p' x', p' < r → s.A p' = some x' → R.act x' = true → K x' ≠ K v := by
  obtain ⟨r, h1, ⟨x, h2, h3, h4⟩, h5⟩ := least (fun r => ∃ x, s.A r = some x ∧ R.act x = true ∧ K x = K v) q ⟨v, hv, ha, rfl⟩
  refine ⟨r, x, h1, h2, h4, ?_, fun p' x' hp hx hax e => h5 p' hp ⟨x', hx, hax, e⟩⟩
  have h6 := (hm.ok r x h2).2 fun p' x' hp hx hax e => h5 p' hp ⟨x', hx, by rw [hax, h3], by rw [e, h4]⟩
  unfold mq
  rw [h2]
  simp [h3, h6]
include hR hK h
theorem Mk.put (hF : Flat K s) {v : Nat} (hv : s.A i = some v) (hact : R.act v = true) {d' : Nat} (hd' : d' = d + if mk i = true then 1 else 0) :
    Mk R K (i + 1) (Sais.put R.l s (v - 1)) (W ++ [⟨i + 1, v - 1, s.P (R.l (v - 1))⟩]) (fun p => if p = s.P (R.l (v - 1)) then decide (D (R.l (v - 1)) (R.act (v - 1)) ≠ d') else mk p)
      (fun c b => if c = R.l (v - 1) ∧ b = R.act (v - 1) then d' else D c b) base d' := by
  obtain ⟨hI, hgt, hcap⟩ := h.put hR hv hact
  obtain ⟨hvn, _⟩ := h.part hR hv
  obtain ⟨hv0, hty, hle, heq⟩ := hR.ac v hvn hact
  obtain ⟨y, rfl⟩ : ∃ y, v = y + 1 := ⟨v - 1, by omega⟩
  rw [Nat.add_sub_cancel] at *
  have hdi : d' = base + dc R.act s.A mk (i + 1) := by
    have : mq R.act s.A mk i = mk i := by
      unfold mq; rw [hv]; simp [hact]
    rw [hd', hm.d, dc_succ, this]
    omega
  have hAq : ∀ p, p ≠ s.P (R.l y) → (Sais.put R.l s y).A p = s.A p := fun p hp => by
    show (if p = s.P (R.l y) then some y else s.A p) = _
    rw [if_neg hp]
  have hAq2 : (Sais.put R.l s y).A (s.P (R.l y)) = some y := by
    show (if s.P (R.l y) = s.P (R.l y) then some y else _) = _
    rw [if_pos rfl]
  have hdc : ∀ j, j ≤ i + 1 → dc R.act (Sais.put R.l s y).A (fun p => if p = s.P (R.l y) then decide (D (R.l y) (R.act y) ≠ d') else mk p) j = dc R.act s.A mk j := fun j hj =>
    dc_congr j fun p hp => ⟨hAq p (by omega), if_neg (by omega)⟩
  have hwt : ∀ w ∈ W, 0 < w.t → s.A (w.t - 1) = some (w.y + 1) ∧ R.act (w.y + 1) = true ∧ w.t ≤ i := fun w hw ht => by
    rcases h.par w hw with ⟨h1, _⟩ | ⟨_, h1, h2⟩
    · omega
    · exact ⟨h1, h2, (h.le w hw).1⟩
  have hsame : ∀ p x, s.A p = some x → K x = K y → ∃ w ∈ W, w.y = x ∧ w.p = p ∧ p < s.P (R.l y) ∧ 0 < w.t ∧ R.l x = R.l y := fun p x hx e => by
    obtain ⟨h1, _, _, h2, _⟩ := h.part hR hx
    obtain ⟨h3, h4⟩ := hK.head x y h1 (by omega) e
    obtain ⟨w, hw, e1, e2⟩ := h2 (h4.2 hty)
    have h5 := (h.rng w hw).2
    have h6 := h.ptr (R.l y)
    rw [e1, e2, h3] at h5
    refine ⟨w, hw, e1, e2, by omega, ?_, h3⟩
    rcases h.par w hw with ⟨_, h7⟩ | ⟨h7, _⟩
    · rw [e1] at h7
      exact absurd e (hK.seed x y h7 hty hvn)
    · exact h7
  have hdle : D (R.l y) (R.act y) ≤ base ∨ ∃ w ∈ W, 0 < w.t ∧ R.l w.y = R.l y ∧ R.act w.y = R.act y ∧ D (R.l y) (R.act y) = base + dc R.act s.A mk w.t := (hm.hi _ _).symm
  have hnew : D (R.l y) (R.act y) ≠ d' ↔ ∀ p x, s.A p = some x → R.act x = R.act y → K x ≠ K y := by
    constructor
    · intro hne p x hx hax e
      obtain ⟨w, hw, e1, e2, _, ht, hl⟩ := hsame p x hx e
      obtain ⟨k1, k2, k3⟩ := hwt w hw ht
      have hxt : R.Ty x := e1 ▸ (h.ty w hw).1
      have hxn : x + 1 < R.n := by
        have := (h.part hR k1).1
        rwa [e1] at this
      have e3 := (hK.next x y hxt hty hxn hvn hl).1 e
      have hflat : dc R.act s.A mk (i + 1) = dc R.act s.A mk w.t := by
        have := dc_flat R.act s.A mk (i := w.t) (i + 1 - w.t) fun r hr1 hr2 => by
          unfold mq
          cases hz : s.A r with
          | none => rfl
          | some z =>
            dsimp only
            cases haz : R.act z with
            | false => rfl
            | true =>
              cases hmz : mk r with
              | false => rfl
              | true =>
                have h8 := hF (w.t - 1) r i _ z _ (by omega) (by omega) k1 hz hv (by rw [e1]; exact e3)
                exact absurd (by rw [h8, e1]; exact e3) ((hm.ok r z hz).1 hmz (w.t - 1) _ (by omega) k1 (by rw [k2, haz]))
        rwa [show w.t + (i + 1 - w.t) = i + 1 by omega] at this
      have h9 := hm.lo w hw ht
      rw [e1, hl, hax] at h9
      rcases hdle with h10 | ⟨w', hw', g1, _, _, g4⟩
      · omega
      · have := dc_mono R.act s.A mk (show w'.t ≤ i + 1 by have := (hwt w' hw' g1).2.2; omega)
        omega
    · intro hall e
      obtain ⟨r, x, r1, r2, r3, r4, r5⟩ := hm.first hv hact
      rcases hdle with h10 | ⟨w, hw, g1, g2, g3, g4⟩
      · have := dc_grow R.act s.A mk (i := 0) (j := i + 1) (Nat.zero_le r) (by omega) r4
        omega
      · obtain ⟨k1, k2, k3⟩ := hwt w hw g1
        have hwA := (h.at' w.p w.y).2 (.inl ⟨w, hw, rfl, rfl⟩)
        have h11 := hall w.p w.y hwA g3
        have hwn : w.y + 1 < R.n := (h.part hR k1).1
        have h12 := mt (hK.next w.y y (h.ty w hw).1 hty hwn hvn g2).2 h11
        have hrt : w.t ≤ r := Nat.le_of_not_lt fun hlt => by
          have := hF r (w.t - 1) i x (w.y + 1) (y + 1) (by omega) (by omega) r2 k1 hv r3
          exact h12 this
        have := dc_grow R.act s.A mk hrt (show r < i + 1 by omega) r4
        omega
  refine ⟨fun p x hx => ?_, ?_, fun w hw ht => ?_, fun c b => ?_⟩
  · by_cases hp : p = s.P (R.l y)
    · subst hp
      rw [hAq2] at hx
      cases hx
      rw [if_pos rfl, decide_eq_true_iff, hnew]
      constructor
      · intro hall p' x' hp' hx' hax
        rw [hAq p' (by omega)] at hx'
        exact hall p' x' hx' hax
      · intro hall p x hx hax e
        obtain ⟨_, _, _, _, hlt, _⟩ := hsame p x hx e
        exact hall p x hlt (by rw [hAq p (by omega)]; exact hx) hax e
    · rw [hAq p hp] at hx
      rw [if_neg hp, hm.ok p x hx]
      constructor
      · intro hall p' x' hp' hx' hax
        by_cases hp2 : p' = s.P (R.l y)
        · subst hp2
          rw [hAq2] at hx'
          cases hx'
          intro e
          obtain ⟨_, _, _, _, hlt, _⟩ := hsame p x hx e.symm
          omega
        · rw [hAq p' hp2] at hx'
          exact hall p' x' hp' hx' hax
      · intro hall p' x' hp' hx' hax
        refine hall p' x' hp' ?_ hax
        rw [hAq p' fun e => ?_]
        · exact hx'
        · subst e
          obtain ⟨_, g1, g2, g3, g4⟩ := h.part hR hx'
          have hfree := (hI.at' (s.P (R.l y)) y).2 (.inl ⟨_, List.mem_append_right _ (List.mem_singleton.2 rfl), rfl, rfl⟩)
          rcases (h.at' _ _).1 hx' with ⟨w, hw, e1, e2⟩ | hg
          · have h13 := (hI.at' w.p w.y).2 (.inl ⟨w, List.mem_append_left _ hw, rfl, rfl⟩)
            rw [e2, hAq2] at h13
            have h14 := Option.some.inj h13
            have h15 := (h.rng w hw).2
            have h16 := h.ptr (R.l y)
            rw [← h14, e2] at h15
            omega
          · have h13 := (hI.at' _ _).2 (.inr hg)
            rw [hAq2] at h13
            have h14 := Option.some.inj h13
            rw [← h14] at hg
            exact (hR.gp _ _ hg).1 hty
  · rw [hdc _ (Nat.le_refl _)]
    exact hdi
  · rcases List.mem_append.1 hw with h1 | h1
    · rw [hdc _ (by have := (h.le w h1).1; omega)]
      have h2 := hm.lo w h1 ht
      by_cases hc : R.l w.y = R.l y ∧ R.act w.y = R.act y
      · rw [if_pos hc, hdi]
        have := dc_mono R.act s.A mk (show w.t ≤ i + 1 by have := (h.le w h1).1; omega)
        omega
      · rw [if_neg hc]; exact h2
    · rw [List.mem_singleton] at h1
      subst h1
      dsimp only
      rw [if_pos ⟨rfl, rfl⟩, hdc _ (Nat.le_refl _), hdi]
      exact Nat.le_refl _
  · by_cases hc : c = R.l y ∧ b = R.act y
    · rw [if_pos hc]
      exact .inl ⟨_, List.mem_append_right _ (List.mem_singleton.2 rfl), Nat.succ_pos _, hc.1.symm, hc.2.symm, by rw [hdc _ (Nat.le_refl _)]; exact hdi⟩
    · rw [if_neg hc]
      rcases hm.hi c b with ⟨w, hw, g1, g2, g3, g4⟩ | h1
      · exact .inl ⟨w, List.mem_append_left _ hw, g1, g2, g3, by rw [hdc _ (by have := (h.le w hw).1; omega)]; exact g4⟩
      · exact .inr h1
end
end Go.Proofs.Ytcibehgcibojnaa.Sais

namespace Go.Proofs.Ytcibehgcibojnaa.Sais
open Go.Proofs.Ytcibehgcibojnaa.Vm Classical
theorem keysL (T : List Nat) (lo : Nat) (G : Nat → Option Nat) : Keys (ruleL T lo G) (keyL T) where
  head x y hx hy e := by
    obtain ⟨r, e1⟩ := keyL_head T (x := x) hx
    obtain ⟨r', e2⟩ := keyL_head T (x := y) hy
    rw [e1, e2] at e
    obtain ⟨h1, h2⟩ := cd2_eq T (List.cons.inj e).1
    exact ⟨h1, not_congr h2⟩
  next x y hx hy hxn hyn hl := by
    have hl : ch T x = ch T y := hl
    have hx : ¬ St T x := hx
    have hy : ¬ St T y := hy
    have hxn : x + 1 < T.length := hxn
    have hyn : y + 1 < T.length := hyn
    rw [keyL_l T (by omega) hx, keyL_l T (by omega) hy, cd2_l T hx, cd2_l T hy, hl]
    exact ⟨fun e => (List.cons.inj e).2, fun e => by rw [e]⟩
  seed x y hx hy hyn e := by
    have hx : x + 1 = T.length := hx
    have hy : ¬ St T y := hy
    have hyn : y + 1 < T.length := hyn
    rw [keyL_l T (by omega) (st_last T (by omega)), keyL_l T (by omega) hy, keyL_end T (x := x + 1) (by omega)] at e
    obtain ⟨r, e1⟩ := keyL_head T hyn
    rw [e1] at e
    cases (List.cons.inj e).2
theorem flatL {T : List Nat} {lo : Nat} {G : Nat → Option Nat} (hG : GoodG T G) (hl : ∀ p y, G p = some y → Lms T y) {s : Ms} {W : List Wr} {i : Nat} (h : Iv (ruleL T lo G) i s W) : Flat (keyL T) s := by
  intro p r q x z y h1 h2 hx hz hy e
  by_cases e1 : r = q
  · subst e1; rw [hz] at hy; cases hy; rfl
  · by_cases e2 : p = r
    · subst e2; rw [hx] at hz; cases hz; exact e
    · have k1 := keys_L hG hl h (show p < r by omega) hx hz
      have k2 := keys_L hG hl h (show r < q by omega) hz hy
      rw [e] at k1
      exact List.le_antisymm k2 k1
theorem keysS (T : List Nat) (k lo : Nat) (hk : ∀ y, ch T y < k) (G : Nat → Option Nat) : Keys (ruleS T k lo G) (key T) where
  head x y hx hy e := by
    have hx : x < T.length := hx
    have hy : y < T.length := hy
    rw [key_cons T hx, key_cons T hy] at e
    obtain ⟨h1, h2⟩ := cd2_eq T (List.cons.inj e).1
    exact ⟨by show k - 1 - ch T x = k - 1 - ch T y; rw [h1], h2⟩
  next x y hx hy hxn hyn hl := by
    have hl : k - 1 - ch T x = k - 1 - ch T y := hl
    have hx : St T x := hx
    have hy : St T y := hy
    have hxn : x + 1 < T.length := hxn
    have hyn : y + 1 < T.length := hyn
    have h1 := hk x
    have h2 := hk y
    rw [key_s T (by omega) hx, key_s T (by omega) hy, cd2_s T hx, cd2_s T hy, show ch T x = ch T y by omega]
    exact ⟨fun e => (List.cons.inj e).2, fun e => by rw [e]⟩
  seed x y hx := hx.elim
theorem roundL2 {T : List Nat} {lo k : Nat} {G : Nat → Option Nat} (hG : GoodG T G) (hk : ∀ y, ch T y < k) {i : Nat} {s : Ms} {W : List Wr} {B : List Int} {b c : Nat} (h : Iv (ruleL T lo G) i s W)
    (hp : PtL s.P k B b c) {v : Nat} (hv : s.A i = some v) (hlo : lo < v) (hL : ¬ St T (v - 1)) :
    s.P (ch T (v - 1)) < T.length ∧ i < s.P (ch T (v - 1)) ∧ (ch T (v - 1) = c → s.P (ch T (v - 1)) = b) ∧ (ch T (v - 1) ≠ c → rd (wr B (c : Int) (b : Int)) (ch T (v - 1) : Nat) = s.P (ch T (v - 1))) ∧
      Iv (ruleL T lo G) (i + 1) (put (ch T) s (v - 1)) (W ++ [⟨i + 1, v - 1, s.P (ch T (v - 1))⟩]) ∧ PtL (put (ch T) s (v - 1)).P k (if ch T (v - 1) = c then B else wr B (c : Int) (b : Int)) (s.P (ch T (v - 1)) + 1) (ch T (v - 1)) := by
  have hR := ruleL_ok T lo G hG
  obtain ⟨h1, h2, h3⟩ := h.put hR hv (decide_eq_true ⟨hlo, hL⟩)
  have h2 : i < s.P (ch T (v - 1)) := h2
  have h3 : s.P (ch T (v - 1)) < bst T (ch T (v - 1)) + bsz T (ch T (v - 1)) (lb T) := h3
  have h4 := bst_succ T (ch T (v - 1)) (lb T)
  have h5 := bst_le T (ch T (v - 1) + 1)
  refine ⟨by omega, h2, fun e => ?_, fun e => (hp.turn (hk _) e).1, h1, ?_⟩
  · rw [e]; exact hp.2.2.1
  · by_cases e : ch T (v - 1) = c
    · rw [if_pos e]
      have := hp.step (l := ch T) (A := s.A) (c' := s.c) e
      rw [e, hp.2.2.1]
      exact this
    · rw [if_neg e]
      exact (hp.turn (hk _) e).2.step (l := ch T) (A := s.A) (c' := s.c) rfl
def tt (c : Nat) (b : Bool) : Nat := 2 * c + if b then 0 else 1
def mn (n : Nat) (b : Bool) : Int := if b then (n : Int) else 0
def DTo (k : Nat) (D : List Int) (Df : Nat → Bool → Nat) : Prop := D.length = 2 * k ∧ ∀ c b, c < k → rd D (tt c b : Nat) = (Df c b : Nat)
theorem DTo.put {k : Nat} {D : List Int} {Df : Nat → Bool → Nat} (h : DTo k D Df) {c d : Nat} {b : Bool} (hc : c < k) : DTo k (wr D (tt c b : Nat) (d : Int)) fun c' b' => if c' = c ∧ b' = b then d else Df c' b' := by
  have ht : ∀ c b, c < k → tt c b < 2 * k := fun c b hc => by unfold tt; split <;> omega
  refine ⟨by rw [wr_length]; exact h.1, fun c' b' hc' => ?_⟩
  rw [rd_wr (by rw [h.1]; exact ht c b hc)]
  dsimp only
  by_cases e : c' = c ∧ b' = b
  · rw [if_pos e, e.1, e.2, if_pos rfl]
  · rw [if_neg e, if_neg (fun e2 => e ?_)]
    · exact h.2 c' b' hc'
    · unfold tt at e2
      cases b <;> cases b' <;> simp at e2 ⊢ <;> omega
theorem DTo.keep {k : Nat} {D : List Int} {Df : Nat → Bool → Nat} (h : DTo k D Df) {c d : Nat} {b : Bool} (he : Df c b = d) : DTo k D fun c' b' => if c' = c ∧ b' = b then d else Df c' b' := by
  refine ⟨h.1, fun c' b' hc' => ?_⟩
  dsimp only
  by_cases e : c' = c ∧ b' = b
  · rw [if_pos e, h.2 c' b' hc', e.1, e.2, he]
  · rw [if_neg e]; exact h.2 c' b' hc'
def E2L (T : List Nat) (m vis : Bool) (o : Option Nat) (x : Int) : Prop := match o with
  | none => x = 0
  | some v => if St T (v - 1) then x = (if vis then (v : Int) - 1 + mn T.length m else -1 - ((v : Int) - 1 + mn T.length m)) else x = (if vis then 0 else (v : Int) - 1 + mn T.length m)
def RL2 (T : List Nat) (k z : Nat) (G : Nat → Option Nat) (i : Nat) (SA B D : List Int) (b c d : Nat) : Prop :=
  ∃ s W mk Df, Iv (ruleL T 1 G) i s W ∧ (∃ w ∈ W, w.y + 1 = T.length) ∧ (SA.length = T.length ∧ ∀ p, p < T.length → E2L T (mk p) (decide (p < i)) (s.A p) (rd SA (p : Int))) ∧ PtL s.P k B b c ∧ (∀ p v, s.A p = some v → z < v) ∧
    Mk (ruleL T 1 G) (keyL T) i s W mk Df 0 d ∧ DTo k D Df
theorem dc_le (act : Nat → Bool) (A : Nat → Option Nat) (mk : Nat → Bool) (i : Nat) : dc act A mk i ≤ i := by
  unfold dc
  have := List.countP_le_length (p := mq act A mk) (l := List.range i)
  rwa [List.length_range] at this
theorem RL2.len {T : List Nat} {k z i b c d : Nat} {G : Nat → Option Nat} {SA B D : List Int} (h : RL2 T k z G i SA B D b c d) : SA.length = T.length ∧ B.length = k ∧ c < k ∧ D.length = 2 * k ∧ d ≤ i := by
  obtain ⟨s, W, mk, Df, _, _, h3, h4, _, h6, h7⟩ := h
  have := dc_le (ruleL T 1 G).act s.A mk i
  have := h6.d
  exact ⟨h3.1, h4.1, h4.2.1, h7.1, by omega⟩
theorem RL2.step {T : List Nat} {k z i b c d : Nat} {G : Nat → Option Nat} {SA B D : List Int} (hG : GoodG T G) (hl : ∀ p y, G p = some y → Lms T y) (hk : ∀ y, ch T y < k) (hz : Lms T z) (h : RL2 T k z G i SA B D b c d) (hi : i < T.length) :
    (rd SA i = 0 ∧ RL2 T k z G (i + 1) SA B D b c d) ∨ (rd SA i < 0 ∧ -3 * (T.length : Int) ≤ rd SA i ∧ RL2 T k z G (i + 1) (wr SA i (-1 - rd SA i)) B D b c d) ∨
    ∃ (j q : Nat) (μ : Bool), rd SA i = (j : Int) + mn T.length μ ∧ 1 ≤ j ∧ j < T.length ∧ q < T.length ∧ i < q ∧ ((ch T j = c ∧ q = b) ∨ (ch T j ≠ c ∧ rd (wr B (c : Int) (b : Int)) (ch T j : Nat) = q)) ∧
      ∀ (κ : Bool) (d' : Nat), κ = decide (¬ ch T (j - 1) < ch T j) → d' = d + (if μ = true then 1 else 0) →
        RL2 T k z G (i + 1) (wr (wr SA (q : Int) (if κ = true then (j : Int) - 1 + mn T.length (decide (rd D (tt (ch T j) κ : Nat) ≠ d')) else -1 - ((j : Int) - 1 + mn T.length (decide (rd D (tt (ch T j) κ : Nat) ≠ d'))))) (i : Int) 0)
          (if ch T j = c then B else wr B (c : Int) (b : Int)) (if rd D (tt (ch T j) κ : Nat) ≠ d' then wr D (tt (ch T j) κ : Nat) d' else D) (q + 1) (ch T j) d' := by
  obtain ⟨s, W, mk, Df, h1, h2, h3, h4, h5, h6, h7⟩ := h
  have hR := ruleL_ok T 1 G hG
  have hx : E2L T (mk i) (decide (i < i)) (s.A i) (rd SA (i : Int)) := h3.2 i hi
  rw [decide_eq_false (Nat.lt_irrefl i)] at hx
  have hpass : ∀ (vis : Int), (∀ v, s.A i = some v → (ruleL T 1 G).act v = false) → E2L T (mk i) true (s.A i) vis → ∀ SA' : List Int, SA'.length = T.length → (∀ p : Nat, p < T.length → rd SA' (p : Int) = if p = i then vis else rd SA (p : Int)) → RL2 T k z G (i + 1) SA' B D b c d :=
    fun vis hn he SA' hl' hr => ⟨s, W, mk, Df, h1.skip hn, h2, ⟨hl', fun p hp => by
      rw [hr p hp]
      by_cases e : p = i
      · subst e; rw [if_pos rfl, decide_eq_true (by omega)]; exact he
      · rw [if_neg e]
        have := h3.2 p hp
        rw [show decide (p < i + 1) = decide (p < i) by by_cases h : p < i <;> simp [h] <;> omega]
        exact this⟩, h4, h5, h6.skip hn, h7⟩
  cases hv : s.A i with
  | none =>
    rw [hv] at hx
    have hx : rd SA (i : Int) = 0 := hx
    refine .inl ⟨hx, hpass 0 (fun v h => by rw [hv] at h; cases h) (by rw [hv]; rfl) SA h3.1 fun p hp => ?_⟩
    by_cases e : p = i
    · rw [if_pos e, e, hx]
    · rw [if_neg e]
  | some v =>
    rw [hv] at hx
    have hzv := h5 i v hv
    have hz0 := hz.1
    obtain ⟨hvn, _⟩ := h1.part hR hv
    have hvn : v < T.length := hvn
    have hmn : ∀ b, 0 ≤ mn T.length b ∧ mn T.length b ≤ T.length := fun b => by unfold mn; split <;> omega
    have hmi := hmn (mk i)
    by_cases hs : St T (v - 1)
    · have hx : rd SA (i : Int) = -1 - ((v : Int) - 1 + mn T.length (mk i)) := by simpa only [E2L, if_pos hs, Bool.false_eq_true, if_false] using hx
      refine .inr (.inl ⟨by omega, by omega, hpass ((v : Int) - 1 + mn T.length (mk i)) (fun u hu => ?_) ?_ _ (by rw [wr_length]; exact h3.1) fun p hp => ?_⟩)
      · rw [hv] at hu; cases hu
        exact decide_eq_false fun h => h.2 hs
      · rw [hv]; simp only [E2L, if_pos hs, if_true]
      · rw [rd_wr (by rw [h3.1]; exact hi), hx]
        congr 1; omega
    · have hx : rd SA (i : Int) = (v : Int) - 1 + mn T.length (mk i) := by simpa only [E2L, if_neg hs, Bool.false_eq_true, if_false] using hx
      have hact : (ruleL T 1 G).act v = true := decide_eq_true ⟨by omega, hs⟩
      obtain ⟨g1, g2, g3, g4, g5, g7⟩ := roundL2 hG hk h1 h4 hv (by omega) hs
      have hne : v - 1 ≠ z := fun e => hs (e ▸ hz.2.1)
      refine .inr (.inr ⟨v - 1, s.P (ch T (v - 1)), mk i, by omega, by omega, by omega, g1, g2, ?_, fun κ d' hκ hd' => ?_⟩)
      · by_cases e : ch T (v - 1) = c
        · exact .inl ⟨e, g3 e⟩
        · exact .inr ⟨e, g4 e⟩
      · have g8 := h6.put hR (keysL T 1 G) h1 (flatL hG hl h1) hv hact hd'
        have hst := st_of_L hs (by omega) (by omega)
        have hk2 : (ruleL T 1 G).act (v - 1) = κ := by
          rw [hκ]
          show decide (1 < v - 1 ∧ ¬ St T (v - 1 - 1)) = _
          by_cases hc : ch T (v - 1 - 1) < ch T (v - 1)
          · rw [decide_eq_false (fun h => h.2 (hst.2 hc)), decide_eq_false (fun h => h hc)]
          · rw [decide_eq_true ⟨by omega, mt hst.1 hc⟩, decide_eq_true hc]
        have hDk : rd D (tt (ch T (v - 1)) κ : Nat) = (Df (ch T (v - 1)) κ : Nat) := h7.2 _ _ (hk _)
        have hbb : decide (Df (ch T (v - 1)) κ ≠ d') = decide (rd D (tt (ch T (v - 1)) κ : Nat) ≠ (d' : Int)) := by
          rw [hDk]
          by_cases e : Df (ch T (v - 1)) κ = d'
          · simp [e]
          · rw [decide_eq_true e, decide_eq_true (by omega)]
        obtain ⟨w, hw, hwy⟩ := h2
        refine ⟨_, _, _, _, g5, ⟨w, List.mem_append_left _ hw, hwy⟩, ⟨by rw [wr_length, wr_length]; exact h3.1, fun p hp => ?_⟩, g7, fun p u hu => ?_, g8, ?_⟩
        · rw [hk2, rd_wr (by rw [wr_length, h3.1]; exact hi), rd_wr (by rw [h3.1]; exact g1)]
          show E2L T (if p = s.P (ch T (v - 1)) then decide (Df (ch T (v - 1)) κ ≠ d') else mk p) _ (if p = s.P (ch T (v - 1)) then some (v - 1) else s.A p) _
          by_cases e : p = s.P (ch T (v - 1))
          · rw [if_pos e, if_pos e, if_neg (by omega), if_pos e, show decide (p < i + 1) = false from decide_eq_false (by omega), hbb]
            rw [← hk2]
            by_cases hs2 : St T (v - 1 - 1)
            · have : (ruleL T 1 G).act (v - 1) = false := decide_eq_false fun h => h.2 hs2
              simp only [E2L, if_pos hs2, this, Bool.false_eq_true, if_false]
            · have : (ruleL T 1 G).act (v - 1) = true := decide_eq_true ⟨by omega, hs2⟩
              simp only [E2L, if_neg hs2, this, Bool.false_eq_true, if_false, if_true]
          · rw [if_neg e, if_neg e, if_neg e]
            by_cases e2 : p = i
            · subst e2
              rw [if_pos rfl, decide_eq_true (by omega), hv]
              simp only [E2L, if_neg hs, if_true]
            · rw [if_neg e2]
              have := h3.2 p hp
              rw [show decide (p < i + 1) = decide (p < i) by by_cases h : p < i <;> simp [h] <;> omega]
              exact this
        · have hu : (if p = s.P (ch T (v - 1)) then some (v - 1) else s.A p) = some u := hu
          split at hu
          · cases hu; omega
          · exact h5 p u hu
        · rw [hk2]
          by_cases e : rd D (tt (ch T (v - 1)) κ : Nat) ≠ (d' : Int)
          · rw [if_pos e]
            exact h7.put (hk _)
          · rw [if_neg e]
            exact h7.keep (show Df (ch T (v - 1)) κ = d' by omega)
end Go.Proofs.Ytcibehgcibojnaa.Sais

namespace Go.Proofs.Ytcibehgcibojnaa.Sais
open Go.Proofs.Ytcibehgcibojnaa.Vm Classical
def Cel2 (T : List Nat) (G : Nat → Option Nat) (SA : List Int) : Prop :=
  SA.length = T.length ∧ ∃ mk : Nat → Bool, (∀ p x, G p = some x → (mk p = true ↔ ∀ p' x', p' < p → G p' = some x' → ch T x' ≠ ch T x)) ∧ ∀ p, p < T.length → E2L T (mk p) false (G p) (rd SA (p : Int))
theorem keyL_lms {T : List Nat} {x : Nat} (h : Lms T x) : keyL T x = [2 * ch T x + 1] := by
  unfold keyL
  rw [if_pos h, cd2_s T h.2.1]
theorem RL2.start {T : List Nat} {k z : Nat} {G : Nat → Option Nat} (hT : Txt T k) (hn : 2 ≤ T.length) (hG : GoodG T G) (hl : ∀ p y, G p = some y → Lms T y) (hz : Lms T z) (hzG : ∀ p y, G p = some y → z < y) {B SA D : List Int} (hB : BeginsTo T k k B) (h0 : Cel2 T G SA)
    (hD : D.length = 2 * k ∧ ∀ t, t < 2 * k → rd D (t : Int) = 0) :
    bst T (ch T (T.length - 1)) < T.length ∧ ∀ x : Int, x = (if ch T (T.length - 2) < ch T (T.length - 1) then -1 - ((T.length : Int) - 1 - 1 + T.length) else (T.length : Int) - 1 - 1 + T.length) →
      RL2 T k z G 0 (wr SA (bst T (ch T (T.length - 1)) : Nat) x) B D (bst T (ch T (T.length - 1)) + 1) (ch T (T.length - 1)) 0 := by
  obtain ⟨h0l, mk, hmk, h0c⟩ := h0
  have hR := ruleL_ok T 1 G hG
  have hn0 := hT.n0
  have hI := Iv.seed hR 0 (T.length - 1) (show T.length - 1 + 1 = T.length by omega) (not_st_end hn0)
  obtain ⟨s0, hs0⟩ : ∃ s0, put (ruleL T 1 G).l ⟨(ruleL T 1 G).G, (ruleL T 1 G).bs, 0⟩ (T.length - 1) = s0 := ⟨_, rfl⟩
  rw [hs0] at hI
  have hA : ∀ p, s0.A p = if p = bst T (ch T (T.length - 1)) then some (T.length - 1) else G p := fun p => by rw [← hs0]; rfl
  have hP : ∀ d, s0.P d = if d = ch T (T.length - 1) then bst T d + 1 else bst T d := fun d => by rw [← hs0]; rfl
  have hAp : s0.A (bst T (ch T (T.length - 1))) = some (T.length - 1) := by rw [hA, if_pos rfl]
  have h3 := (hI.part hR hAp).2.2.1
  have h3 : bst T (ch T (T.length - 1)) < bst T (ch T (T.length - 1) + 1) := h3
  have h4 := bst_le T (ch T (T.length - 1) + 1)
  refine ⟨by omega, fun x hx => ⟨_, _, fun p => if p = bst T (ch T (T.length - 1)) then true else mk p, fun _ _ => 0, hI, ⟨_, List.mem_singleton.2 rfl, by show T.length - 1 + 1 = _; omega⟩, ⟨by rw [wr_length]; exact h0l, fun p hp => ?_⟩, ⟨hB.1, hT.lt _, ?_, fun d hd hne => ?_⟩, fun p v hv => ?_, ⟨fun p v hv => ?_, rfl, fun w hw ht => ?_, fun c b => .inr (Nat.le_refl 0)⟩, hD.1, fun c b hc => ?_⟩⟩
  · rw [decide_eq_false (Nat.not_lt_zero p), hA]
    rw [rd_wr (by rw [h0l]; omega)]
    dsimp only
    by_cases e : p = bst T (ch T (T.length - 1))
    · rw [if_pos e, if_pos e, if_pos e]
      have := st_of_L (not_st_end hn0) (by omega) (show T.length - 1 < T.length by omega)
      rw [show T.length - 1 - 1 = T.length - 2 by omega] at this
      rw [hx]
      by_cases hs : St T (T.length - 2)
      · rw [if_pos (this.1 hs)]
        simp only [E2L, mn, show T.length - 1 - 1 = T.length - 2 by omega, if_pos hs, Bool.false_eq_true, if_false, if_true]
        omega
      · rw [if_neg (mt this.2 hs)]
        simp only [E2L, mn, show T.length - 1 - 1 = T.length - 2 by omega, if_neg hs, Bool.false_eq_true, if_false, if_true]
        omega
    · rw [if_neg e, if_neg e, if_neg e]; exact h0c p hp
  · rw [hP, if_pos rfl]
  · rw [hP, if_neg hne]
    exact hB.2 d hd
  · rw [hA] at hv
    split at hv
    · cases hv
      have := lms_lt hz
      omega
    · exact hzG p v hv
  · have hne : ∀ y, Lms T y → keyL T y ≠ keyL T (T.length - 1) := fun y hy e => by
      rw [keyL_lms hy, keyL_l T (by omega) (not_st_end hn0), cd2_l T (not_st_end hn0)] at e
      have := (List.cons.inj e).1
      omega
    rw [hA] at hv
    by_cases e : p = bst T (ch T (T.length - 1))
    · rw [if_pos e] at hv ⊢
      cases hv
      refine ⟨fun _ p' x' hp' hx' _ => ?_, fun _ => rfl⟩
      rw [hA, if_neg (by omega)] at hx'
      exact hne x' (hl _ _ hx')
    · rw [if_neg e] at hv ⊢
      have hact : ∀ p y, G p = some y → (ruleL T 1 G).act y = true := fun p y hy => by
        have h1 := hl p y hy
        have h2 := hzG p y hy
        have h3 := hz.1
        exact decide_eq_true ⟨by omega, h1.2.2⟩
      rw [hmk p v hv]
      constructor
      · intro hall p' x' hp' hx' _ e2
        rw [hA] at hx'
        split at hx'
        · cases hx'
          exact hne v (hl _ _ hv) e2.symm
        · rw [keyL_lms (hl _ _ hv), keyL_lms (hl _ _ hx')] at e2
          have := (List.cons.inj e2).1
          exact hall p' x' hp' hx' (by omega)
      · intro hall p' x' hp' hx' e2
        have hne2 : p' ≠ bst T (ch T (T.length - 1)) := fun e3 => by
          have h5 := (hG.st _ _ hx').2.1
          have h6 := hG.st _ _ hx'
          have h7 : ch T x' = ch T (T.length - 1) := by
            refine Classical.byContradiction fun h8 => ?_
            rcases Nat.lt_or_gt_of_ne h8 with h9 | h9
            · have h10 : bst T (ch T x' + 1) ≤ bst T (ch T (T.length - 1)) := hR.bs_le (show ch T x' + 1 ≤ ch T (T.length - 1) from h9)
              omega
            · have h10 : bst T (ch T (T.length - 1) + 1) ≤ bst T (ch T x') := hR.bs_le (show ch T (T.length - 1) + 1 ≤ ch T x' from h9)
              omega
          have h8 : 0 < bsz T (ch T (T.length - 1)) (lb T) := by
            unfold bsz
            refine List.countP_pos_iff.2 ⟨T.length - 1, List.mem_range.2 (by omega), ?_⟩
            simp [lb, not_st_end hn0]
          rw [h7] at h5
          omega
        refine hall p' x' hp' (by rw [hA, if_neg hne2]; exact hx') (by rw [hact _ _ hx', hact _ _ hv]) ?_
        rw [keyL_lms (hl _ _ hv), keyL_lms (hl _ _ hx'), e2]
  · rw [List.mem_singleton] at hw
    subst hw
    exact absurd ht (Nat.lt_irrefl 0)
  · exact hD.2 _ (by unfold tt; split <;> omega)
theorem roundS2 {T : List Nat} {lo k : Nat} {G : Nat → Option Nat} (hk : ∀ y, ch T y < k) (hG : GoodH T G) {i : Nat} {s : Ms} {W : List Wr} {B : List Int} {b c : Nat} (h : Iv (ruleS T k lo G) i s W)
    (hp : PtS T.length s.P k B b c) {v : Nat} (hv : s.A i = some v) (hlo : lo < v) (hS : St T (v - 1)) :
    ∃ q, q + s.P (k - 1 - ch T (v - 1)) + 1 = T.length ∧ i < s.P (k - 1 - ch T (v - 1)) ∧ (ch T (v - 1) = c → q + 1 = b) ∧ (ch T (v - 1) ≠ c → rd (wr B (c : Int) (b : Int)) (ch T (v - 1) : Nat) = (q + 1 : Nat)) ∧
      Iv (ruleS T k lo G) (i + 1) (put (fun y => k - 1 - ch T y) s (v - 1)) (W ++ [⟨i + 1, v - 1, s.P (k - 1 - ch T (v - 1))⟩]) ∧ PtS T.length (put (fun y => k - 1 - ch T y) s (v - 1)).P k (if ch T (v - 1) = c then B else wr B (c : Int) (b : Int)) q (ch T (v - 1)) := by
  have hR := ruleS_ok T k lo hk G hG
  have hvn := (h.part hR hv).1
  obtain ⟨h1, h2, h3⟩ := h.put hR hv (decide_eq_true ⟨hlo, hS⟩)
  have h2 : i < s.P (k - 1 - ch T (v - 1)) := h2
  have hky := hk (v - 1)
  have h3 : s.P (k - 1 - ch T (v - 1)) < T.length - bst T (k - (k - 1 - ch T (v - 1))) + (if k - 1 - ch T (v - 1) < k then bsz T (k - 1 - (k - 1 - ch T (v - 1))) (sb T) else 0) := h3
  rw [if_pos (by omega), show k - (k - 1 - ch T (v - 1)) = ch T (v - 1) + 1 by omega, show k - 1 - (k - 1 - ch T (v - 1)) = ch T (v - 1) by omega] at h3
  have h4 := bst_succ T (ch T (v - 1)) (lb T)
  have h5 := bst_le T (ch T (v - 1) + 1)
  have h6 : bsz T (ch T (v - 1)) (sb T) = bsz T (ch T (v - 1)) fun y => !lb T y := rfl
  have hPn : s.P (k - 1 - ch T (v - 1)) < T.length := by omega
  refine ⟨T.length - 1 - s.P (k - 1 - ch T (v - 1)), by omega, h2, fun e => ?_, fun e => ?_, h1, ?_⟩
  · have := hp.2.2.1
    rw [← e] at this
    omega
  · rw [(hp.turn hky e (Nat.le_of_lt hPn)).1]
    congr 1
    omega
  · by_cases e : ch T (v - 1) = c
    · rw [if_pos e]
      have h7 := hp.2.2.1
      rw [← e] at h7
      have := hp.step (by omega) (l := fun y => k - 1 - ch T y) (A := s.A) (c' := s.c) (y := v - 1) (by show k - 1 - ch T (v - 1) = _; rw [e])
      rw [show T.length - 1 - s.P (k - 1 - ch T (v - 1)) = b - 1 by omega, e]
      exact this
    · rw [if_neg e]
      have := (hp.turn hky e (Nat.le_of_lt hPn)).2.step (by omega) (l := fun y => k - 1 - ch T y) (A := s.A) (c' := s.c) (y := v - 1) rfl
      rw [show T.length - 1 - s.P (k - 1 - ch T (v - 1)) = T.length - s.P (k - 1 - ch T (v - 1)) - 1 by omega]
      exact this
def E2S (T : List Nat) (m vis : Bool) (o : Option Nat) (x : Int) : Prop := match o with
  | none => x = 0
  | some v => if St T (v - 1) then x = (if vis then 0 else (v : Int) - 1 + mn T.length m) else x = -1 - ((v : Int) + mn T.length m)
def RS2 (T : List Nat) (k z base : Nat) (G : Nat → Option Nat) (i : Nat) (SA B D : List Int) (b c d : Nat) : Prop :=
  ∃ s W mk Df, Iv (ruleS T k 1 G) i s W ∧ (SA.length = T.length ∧ ∀ p, p < T.length → E2S T (mk p) (decide (p < i)) (s.A p) (rd SA ((T.length - 1 - p : Nat) : Int))) ∧ PtS T.length s.P k B b c ∧ (∀ p v, s.A p = some v → z ≤ v) ∧
    Mk (ruleS T k 1 G) (key T) i s W mk Df base d ∧ DTo k D (fun c b => Df (k - 1 - c) b)
theorem RS2.len {T : List Nat} {k z base i b c d : Nat} {G : Nat → Option Nat} {SA B D : List Int} (h : RS2 T k z base G i SA B D b c d) : SA.length = T.length ∧ B.length = k ∧ c < k ∧ b ≤ T.length ∧ D.length = 2 * k ∧ d ≤ base + i := by
  obtain ⟨s, W, mk, Df, _, h3, h4, _, h6, h7⟩ := h
  have := dc_le (ruleS T k 1 G).act s.A mk i
  have := h6.d
  have := h4.2.2.1
  exact ⟨h3.1, h4.1, h4.2.1, by omega, h7.1, by omega⟩
theorem RS2.step {T : List Nat} {k z base i u b c d : Nat} {G : Nat → Option Nat} {SA B D : List Int} (hG : GoodH T G) (hk : ∀ y, ch T y < k) (hz : Lms T z) (hF : ∀ {s W i}, Iv (ruleS T k 1 G) i s W → Flat (key T) s) (h : RS2 T k z base G i SA B D b c d) (hi : u + i + 1 = T.length) :
    (rd SA u ≤ 0 ∧ RS2 T k z base G (i + 1) SA B D b c d) ∨
    ∃ (j q : Nat) (μ : Bool), rd SA u = (j : Int) + mn T.length μ ∧ 1 ≤ j ∧ j < T.length ∧ q < u ∧ ((ch T j = c ∧ q + 1 = b) ∨ (ch T j ≠ c ∧ rd (wr B (c : Int) (b : Int)) (ch T j : Nat) = (q + 1 : Nat))) ∧
      ∀ (κ : Bool) (d' : Nat), κ = decide (¬ ch T j < ch T (j - 1)) → d' = d + (if μ = true then 1 else 0) →
        RS2 T k z base G (i + 1) (wr (wr SA (q : Int) (if κ = true then (j : Int) - 1 + mn T.length (decide (rd D (tt (ch T j) κ : Nat) ≠ d')) else -1 - ((j : Int) - 1 + mn T.length (decide (rd D (tt (ch T j) κ : Nat) ≠ d')) + 1))) (u : Int) 0)
          (if ch T j = c then B else wr B (c : Int) (b : Int)) (if rd D (tt (ch T j) κ : Nat) ≠ d' then wr D (tt (ch T j) κ : Nat) d' else D) q (ch T j) d' := by
  obtain ⟨s, W, mk, Df, h1, h3, h4, h5, h6, h7⟩ := h
  have hR := ruleS_ok T k 1 hk G hG
  have hx : E2S T (mk i) (decide (i < i)) (s.A i) (rd SA ((T.length - 1 - i : Nat) : Int)) := h3.2 i (by omega)
  rw [decide_eq_false (Nat.lt_irrefl i), show T.length - 1 - i = u by omega] at hx
  have hpass : (∀ v, s.A i = some v → (ruleS T k 1 G).act v = false) → E2S T (mk i) true (s.A i) (rd SA (u : Int)) → RS2 T k z base G (i + 1) SA B D b c d :=
    fun hn he => ⟨s, W, mk, Df, h1.skip hn, ⟨h3.1, fun p hp => by
      by_cases e : p = i
      · subst e
        rw [decide_eq_true (by omega), show T.length - 1 - p = u by omega]; exact he
      · have := h3.2 p hp
        rw [show decide (p < i + 1) = decide (p < i) by by_cases h : p < i <;> simp [h] <;> omega]
        exact this⟩, h4, h5, h6.skip hn, h7⟩
  cases hv : s.A i with
  | none =>
    rw [hv] at hx
    have hx : rd SA (u : Int) = 0 := hx
    exact .inl ⟨by omega, hpass (fun v h => by rw [hv] at h; cases h) (by rw [hv]; exact hx)⟩
  | some v =>
    rw [hv] at hx
    have hzv := h5 i v hv
    have hz0 := hz.1
    obtain ⟨hvn, _⟩ := h1.part hR hv
    have hvn : v < T.length := hvn
    have hmn : ∀ b, 0 ≤ mn T.length b ∧ mn T.length b ≤ T.length := fun b => by unfold mn; split <;> omega
    have hmi := hmn (mk i)
    by_cases hs : St T (v - 1)
    · have hx : rd SA (u : Int) = (v : Int) - 1 + mn T.length (mk i) := by simpa only [E2S, if_pos hs, Bool.false_eq_true, if_false] using hx
      have hvz : z < v := Nat.lt_of_le_of_ne hzv fun e => by subst e; exact hz.2.2 hs
      have hact : (ruleS T k 1 G).act v = true := decide_eq_true ⟨by omega, hs⟩
      obtain ⟨q, g0, g2, g3, g4, g5, g7⟩ := roundS2 hk hG h1 h4 hv (by omega) hs
      refine .inr ⟨v - 1, q, mk i, by omega, by omega, by omega, by omega, ?_, fun κ d' hκ hd' => ?_⟩
      · by_cases e : ch T (v - 1) = c
        · exact .inl ⟨e, g3 e⟩
        · exact .inr ⟨e, g4 e⟩
      · have g8 := h6.put hR (keysS T k 1 hk G) h1 (hF h1) hv hact hd'
        have hst := st_of_S hs (by omega) (by omega)
        have hk2 : (ruleS T k 1 G).act (v - 1) = κ := by
          rw [hκ]
          show decide (1 < v - 1 ∧ St T (v - 1 - 1)) = _
          by_cases hc : ch T (v - 1) < ch T (v - 1 - 1)
          · rw [decide_eq_false (fun h => hst.2 hc h.2), decide_eq_false (fun h => h hc)]
          · have hs2 : St T (v - 1 - 1) := Classical.byContradiction fun h => hc (hst.1 h)
            have : v - 1 ≠ 1 := fun e => by
              have h9 : v - 1 = z := by omega
              rw [h9] at hs2
              exact hz.2.2 hs2
            rw [decide_eq_true ⟨by omega, hs2⟩, decide_eq_true hc]
        have hky := hk (v - 1)
        have hDk : rd D (tt (ch T (v - 1)) κ : Nat) = (Df (k - 1 - ch T (v - 1)) κ : Nat) := h7.2 _ _ hky
        have hbb : decide (Df (k - 1 - ch T (v - 1)) κ ≠ d') = decide (rd D (tt (ch T (v - 1)) κ : Nat) ≠ (d' : Int)) := by
          rw [hDk]
          by_cases e : Df (k - 1 - ch T (v - 1)) κ = d'
          · simp [e]
          · rw [decide_eq_true e, decide_eq_true (by omega)]
        refine ⟨_, _, _, _, g5, ⟨by rw [wr_length, wr_length]; exact h3.1, fun p hp => ?_⟩, g7, fun p u hu => ?_, g8, ?_⟩
        · rw [hk2, rd_wr (by rw [wr_length, h3.1]; omega), rd_wr (by rw [h3.1]; omega)]
          show E2S T (if p = s.P (k - 1 - ch T (v - 1)) then decide (Df (k - 1 - ch T (v - 1)) κ ≠ d') else mk p) _ (if p = s.P (k - 1 - ch T (v - 1)) then some (v - 1) else s.A p) _
          by_cases e : p = s.P (k - 1 - ch T (v - 1))
          · rw [if_pos e, if_pos e, if_neg (by omega), if_pos (by omega), show decide (p < i + 1) = false from decide_eq_false (by omega), hbb]
            rw [← hk2]
            by_cases hs2 : St T (v - 1 - 1)
            · have h9 : v - 1 ≠ 1 := fun e => by
                have h9 : v - 1 = z := by omega
                rw [h9] at hs2
                exact hz.2.2 hs2
              have : (ruleS T k 1 G).act (v - 1) = true := decide_eq_true ⟨by omega, hs2⟩
              simp only [E2S, if_pos hs2, this, Bool.false_eq_true, if_false, if_true]
            · have : (ruleS T k 1 G).act (v - 1) = false := decide_eq_false fun h => hs2 h.2
              simp only [E2S, if_neg hs2, this, Bool.false_eq_true, if_false]
              omega
          · rw [if_neg e, if_neg e]
            by_cases e2 : p = i
            · subst e2
              rw [if_pos (by omega), decide_eq_true (by omega), hv]
              simp only [E2S, if_pos hs, if_true]
            · rw [if_neg (by omega), if_neg (by omega)]
              have := h3.2 p hp
              rw [show decide (p < i + 1) = decide (p < i) by by_cases h : p < i <;> simp [h] <;> omega]
              exact this
        · have hu : (if p = s.P (k - 1 - ch T (v - 1)) then some (v - 1) else s.A p) = some u := hu
          split at hu
          · cases hu; omega
          · exact h5 p u hu
        · rw [hk2]
          have hfun : (fun c b => (fun c' b' => if c' = k - 1 - ch T (v - 1) ∧ b' = κ then d' else Df c' b') (k - 1 - c) b) = fun (c : Nat) (b : Bool) => if k - 1 - c = k - 1 - ch T (v - 1) ∧ b = κ then d' else Df (k - 1 - c) b := rfl
          have hcc : ∀ c b, c < k → (if c = ch T (v - 1) ∧ b = κ then d' else Df (k - 1 - c) b) = if k - 1 - c = k - 1 - ch T (v - 1) ∧ b = κ then d' else Df (k - 1 - c) b := fun c b hc => by
            by_cases e : c = ch T (v - 1)
            · subst e; simp
            · rw [if_neg (fun h => e h.1), if_neg (fun h => e (by omega))]
          have hconv : ∀ {D' : List Int}, DTo k D' (fun c b => if c = ch T (v - 1) ∧ b = κ then d' else Df (k - 1 - c) b) → DTo k D' (fun c b => (fun c' b' => if c' = k - 1 - ch T (v - 1) ∧ b' = κ then d' else Df c' b') (k - 1 - c) b) :=
            fun h => ⟨h.1, fun c b hc => (h.2 c b hc).trans (congrArg Nat.cast (hcc c b hc))⟩
          by_cases e : rd D (tt (ch T (v - 1)) κ : Nat) ≠ (d' : Int)
          · rw [if_pos e]
            exact hconv (h7.put hky)
          · rw [if_neg e]
            exact hconv (h7.keep (show Df (k - 1 - ch T (v - 1)) κ = d' by omega))
    · have hx : rd SA (u : Int) = -1 - ((v : Int) + mn T.length (mk i)) := by simpa only [E2S, if_neg hs] using hx
      refine .inl ⟨by omega, hpass (fun u hu => ?_) ?_⟩
      · rw [hv] at hu; cases hu
        exact decide_eq_false fun h => hs h.2
      · rw [hv]; simp only [E2S, if_neg hs]; exact hx
end Go.Proofs.Ytcibehgcibojnaa.Sais
