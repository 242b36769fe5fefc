/- Sorting by induction: a machine that reads places in order and puts what lies ahead into the next place of its letter. No condition. The machine at its start. No condition. Counting: numbers below n that are told apart. No condition. The two rules: what is greater than its next, from the left; what is less, from the right. No condition. The first rule: places whose suffix is greater than the next one, from the left. No condition. The second rule: places whose suffix is less than the next one, from the right (places and letters mirrored). No condition. All that can be reached is put. No condition. All of the second kind that can be reached is put. No condition. The order of suffixes is kept by both rules. No condition. Keys: what is seen from a place up to the next one that is less than its next behind one that is greater. No condition. The order of keys is kept by the first rule. No condition. The order of keys is kept by the second rule. No condition. Keys against suffixes. No condition. Equal keys: the same up to the next LMS place. No condition. The reduction: names of the LMS places in their order make a shorter text with the same order of suffixes. No condition. -/
import Derived.Test.YtcibehgcibojnaaW4x00

namespace Go.Proofs.Ytcibehgcibojnaa.Sais
structure Ms where
  A : Nat → Option Nat
  P : Nat → Nat
  c : Nat
def put (l : Nat → Nat) (s : Ms) (y : Nat) : Ms := ⟨fun p => if p = s.P (l y) then some y else s.A p, fun d => if d = l y then s.P d + 1 else s.P d, l y⟩
def stp (l : Nat → Nat) (act : Nat → Bool) (s : Ms) (i : Nat) : Ms := match s.A i with
  | some v => if act v then put l s (v - 1) else s
  | none => s
def run (l : Nat → Nat) (act : Nat → Bool) (s0 : Ms) : Nat → Ms
  | 0 => s0
  | i + 1 => stp l act (run l act s0 i) i
structure Wr where
  t : Nat
  y : Nat
  p : Nat
structure Rule where
  n : Nat
  l : Nat → Nat
  bs : Nat → Nat
  cap : Nat → Nat
  Ty : Nat → Prop
  act : Nat → Bool
  G : Nat → Option Nat
  sd : Nat → Prop
structure Rule.Ok (R : Rule) : Prop where
  mono : ∀ c, R.bs c + R.cap c ≤ R.bs (c + 1)
  capn : ∀ (c : Nat) (L : List Nat), L.Nodup → (∀ y ∈ L, R.Ty y ∧ y < R.n ∧ R.l y = c) → L.length ≤ R.cap c
  gp : ∀ p y, R.G p = some y → ¬ R.Ty y ∧ y < R.n ∧ R.bs (R.l y) + R.cap (R.l y) ≤ p ∧ p < R.bs (R.l y + 1)
  gi : ∀ p q y, R.G p = some y → R.G q = some y → p = q
  ac : ∀ v, v < R.n → R.act v = true → 0 < v ∧ R.Ty (v - 1) ∧ R.l v ≤ R.l (v - 1) ∧ (R.l v = R.l (v - 1) → R.Ty v)
  sd : ∀ y, R.sd y → y + 1 = R.n
theorem Rule.Ok.bs_le {R : Rule} (h : R.Ok) {c d : Nat} (hcd : c ≤ d) : R.bs c ≤ R.bs d := by
  induction hcd with
  | refl => exact Nat.le_refl _
  | step _ ih => exact Nat.le_trans ih (Nat.le_trans (Nat.le_add_right _ _) (h.mono _))
def ofL (R : Rule) (W : List Wr) (c : Nat) : List Wr := W.filter fun w => decide (R.l w.y = c)
structure Iv (R : Rule) (i : Nat) (s : Ms) (W : List Wr) : Prop where
  ty : ∀ w ∈ W, R.Ty w.y ∧ w.y < R.n
  nd : (W.map Wr.y).Nodup
  ord : W.Pairwise fun a b => a.t < b.t ∧ (R.l a.y = R.l b.y → a.p < b.p)
  le : ∀ w ∈ W, w.t ≤ i ∧ w.t ≤ w.p
  rng : ∀ w ∈ W, R.bs (R.l w.y) ≤ w.p ∧ w.p < R.bs (R.l w.y) + (ofL R W (R.l w.y)).length
  ptr : ∀ c, s.P c = R.bs c + (ofL R W c).length
  at' : ∀ p y, s.A p = some y ↔ (∃ w ∈ W, w.y = y ∧ w.p = p) ∨ R.G p = some y
  par : ∀ w ∈ W, (w.t = 0 ∧ R.sd w.y) ∨ (0 < w.t ∧ s.A (w.t - 1) = some (w.y + 1) ∧ R.act (w.y + 1) = true)
  vis : ∀ p v, p < i → s.A p = some v → R.act v = true → ∃ w ∈ W, w.y + 1 = v
section
variable {R : Rule} (hR : R.Ok) {i : Nat} {s : Ms} {W : List Wr} (h : Iv R i s W)
include hR h
theorem Iv.cap (c : Nat) : (ofL R W c).length ≤ R.cap c := by
  have := hR.capn c ((ofL R W c).map Wr.y) (h.nd.sublist (List.Sublist.map _ List.filter_sublist)) (fun y hy => by
    obtain ⟨w, hw, rfl⟩ := List.mem_map.1 hy
    have h1 := List.mem_filter.1 hw
    exact ⟨(h.ty w h1.1).1, (h.ty w h1.1).2, of_decide_eq_true h1.2⟩)
  simpa using this
theorem Iv.uniq {a b : Wr} (ha : a ∈ W) (hb : b ∈ W) (e : a.y = b.y) : a = b := by
  have _ := hR
  obtain ⟨i, hi, rfl⟩ := List.mem_iff_getElem.1 ha
  obtain ⟨j, hj, rfl⟩ := List.mem_iff_getElem.1 hb
  have h1 := List.pairwise_iff_getElem.1 (List.nodup_iff_pairwise_ne.1 h.nd)
  rcases Nat.lt_trichotomy i j with h2 | h2 | h2
  · exact absurd (by rw [List.getElem_map, List.getElem_map]; exact e) (h1 i j (by simpa using hi) (by simpa using hj) h2)
  · subst h2; rfl
  · exact absurd (by rw [List.getElem_map, List.getElem_map]; exact e.symm) (h1 j i (by simpa using hj) (by simpa using hi) h2)
theorem Iv.inj {p q y : Nat} (h1 : s.A p = some y) (h2 : s.A q = some y) : p = q := by
  rcases (h.at' p y).1 h1 with ⟨a, ha, ea, rfl⟩ | h1 <;> rcases (h.at' q y).1 h2 with ⟨b, hb, eb, rfl⟩ | h2
  · rw [h.uniq hR ha hb (by omega)]
  · have := (h.ty a ha).1
    rw [ea] at this
    exact absurd this (hR.gp q y h2).1
  · have := (h.ty b hb).1
    rw [eb] at this
    exact absurd this (hR.gp p y h1).1
  · exact hR.gi p q y h1 h2
theorem Iv.part {p y : Nat} (h1 : s.A p = some y) : y < R.n ∧ R.bs (R.l y) ≤ p ∧ p < R.bs (R.l y + 1) ∧ (R.Ty y → ∃ w ∈ W, w.y = y ∧ w.p = p) ∧ (¬ R.Ty y → R.bs (R.l y) + R.cap (R.l y) ≤ p) := by
  rcases (h.at' p y).1 h1 with ⟨a, ha, rfl, rfl⟩ | h1
  · have h2 := h.rng a ha
    have h3 := h.cap hR (R.l a.y)
    have h4 := hR.mono (R.l a.y)
    exact ⟨(h.ty a ha).2, h2.1, by omega, fun _ => ⟨a, ha, rfl, rfl⟩, fun hn => absurd (h.ty a ha).1 hn⟩
  · obtain ⟨g1, g2, g3, g4⟩ := hR.gp p y h1
    exact ⟨g2, by omega, g4, fun ht => absurd ht g1, fun _ => g3⟩
theorem Iv.put {v : Nat} (hv : s.A i = some v) (hact : R.act v = true) : Iv R (i + 1) (put R.l s (v - 1)) (W ++ [⟨i + 1, v - 1, s.P (R.l (v - 1))⟩]) ∧ i < s.P (R.l (v - 1)) ∧ s.P (R.l (v - 1)) < R.bs (R.l (v - 1)) + R.cap (R.l (v - 1)) := by
  obtain ⟨hvn, hb1, hb2, hW, _⟩ := h.part hR hv
  obtain ⟨hv0, hty, hle, heq⟩ := hR.ac v hvn hact
  obtain ⟨y, rfl⟩ : ∃ y, v = y + 1 := ⟨v - 1, by omega⟩
  rw [Nat.add_sub_cancel] at hty hle heq ⊢
  have hptr := h.ptr (R.l y)
  have hnew : ∀ w ∈ W, w.y ≠ y := fun w hw e => by
    rcases h.par w hw with ⟨_, h2⟩ | ⟨h1, h2, _⟩
    · have := hR.sd _ h2
      omega
    · rw [e] at h2
      have := h.inj hR h2 hv
      have := (h.le w hw).1
      omega
  have hgt : i < s.P (R.l y) := by
    rw [hptr]
    rcases Nat.lt_or_ge (R.l (y + 1)) (R.l y) with h1 | h1
    · have := hR.bs_le (show R.l (y + 1) + 1 ≤ R.l y by omega)
      omega
    · obtain ⟨w, hw, e1, e2⟩ := hW (heq (by omega))
      have h2 := (h.rng w hw).2
      rw [e1, e2, show R.l (y + 1) = R.l y by omega] at h2
      exact h2
  have hnd : ((W ++ [(⟨i + 1, y, s.P (R.l y)⟩ : Wr)]).map Wr.y).Nodup := by
    rw [List.map_append, List.nodup_append]
    refine ⟨h.nd, by simp, ?_⟩
    intro a ha b hb e
    simp only [List.map_cons, List.map_nil, List.mem_singleton] at hb
    obtain ⟨w, hw, rfl⟩ := List.mem_map.1 ha
    exact hnew w hw (by omega)
  have hof : ∀ c, (ofL R (W ++ [(⟨i + 1, y, s.P (R.l y)⟩ : Wr)]) c).length = (ofL R W c).length + (if R.l y = c then 1 else 0) := fun c => by
    unfold ofL
    rw [List.filter_append, List.length_append]
    by_cases e : R.l y = c
    · rw [if_pos e, List.filter_cons_of_pos (by simpa using e)]; rfl
    · rw [if_neg e, List.filter_cons_of_neg (by simpa using e)]; rfl
  have hcap : s.P (R.l y) < R.bs (R.l y) + R.cap (R.l y) := by
    have h1 := hR.capn (R.l y) ((ofL R (W ++ [(⟨i + 1, y, s.P (R.l y)⟩ : Wr)]) (R.l y)).map Wr.y) (hnd.sublist (List.Sublist.map _ List.filter_sublist)) (fun x hx => by
      obtain ⟨w, hw, rfl⟩ := List.mem_map.1 hx
      have h1 := List.mem_filter.1 hw
      have h2 : R.Ty w.y ∧ w.y < R.n := by
        rcases List.mem_append.1 h1.1 with h3 | h3
        · exact h.ty w h3
        · rw [List.mem_singleton] at h3; subst h3; exact ⟨hty, by dsimp only; omega⟩
      exact ⟨h2.1, h2.2, of_decide_eq_true h1.2⟩)
    rw [List.length_map, hof, if_pos rfl] at h1
    omega
  have hfree : ∀ x, s.A (s.P (R.l y)) ≠ some x := fun x hx => by
    obtain ⟨_, k1, k2, k3, k4⟩ := h.part hR hx
    have hm := hR.mono (R.l y)
    rcases Nat.lt_trichotomy (R.l x) (R.l y) with h1 | h1 | h1
    · have := hR.bs_le (show R.l x + 1 ≤ R.l y by omega)
      omega
    · by_cases ht : R.Ty x
      · obtain ⟨w, hw, e1, e2⟩ := k3 ht
        have h2 := (h.rng w hw).2
        rw [e1, e2, h1] at h2
        omega
      · have := k4 ht
        rw [h1] at this
        omega
    · have := hR.bs_le (show R.l y + 1 ≤ R.l x by omega)
      omega
  have hA : ∀ p x, (Sais.put R.l s y).A p = some x ↔ (p = s.P (R.l y) ∧ x = y) ∨ s.A p = some x := fun p x => by
    show (if p = s.P (R.l y) then some y else s.A p) = some x ↔ _
    by_cases e : p = s.P (R.l y)
    · rw [if_pos e]
      constructor
      · intro h1; exact .inl ⟨e, (Option.some.inj h1).symm⟩
      · rintro (⟨_, rfl⟩ | h1)
        · rfl
        · rw [e] at h1; exact absurd h1 (hfree x)
    · rw [if_neg e]
      constructor
      · exact .inr
      · rintro (⟨e', _⟩ | h1)
        · exact absurd e' e
        · exact h1
  refine ⟨⟨?_, hnd, ?_, ?_, ?_, ?_, ?_, ?_, ?_⟩, hgt, hcap⟩
  · intro w hw
    rcases List.mem_append.1 hw with h1 | h1
    · exact h.ty w h1
    · rw [List.mem_singleton] at h1; subst h1; exact ⟨hty, by dsimp only; omega⟩
  · refine List.pairwise_append.2 ⟨h.ord, List.pairwise_singleton _ _, ?_⟩
    intro a ha b hb
    rw [List.mem_singleton] at hb
    subst hb
    refine ⟨by have := (h.le a ha).1; dsimp only; omega, fun e => ?_⟩
    dsimp only at e ⊢
    have := (h.rng a ha).2
    rw [e] at this
    omega
  · intro w hw
    rcases List.mem_append.1 hw with h1 | h1
    · have := h.le w h1; omega
    · rw [List.mem_singleton] at h1; subst h1; dsimp only; omega
  · intro w hw
    rw [hof]
    rcases List.mem_append.1 hw with h1 | h1
    · have := h.rng w h1; omega
    · rw [List.mem_singleton] at h1; subst h1; dsimp only; rw [if_pos rfl]; omega
  · intro c
    rw [hof]
    show (if c = R.l y then s.P c + 1 else s.P c) = _
    by_cases e : c = R.l y
    · rw [if_pos e, if_pos e.symm, h.ptr c]; rfl
    · rw [if_neg e, if_neg (Ne.symm e), h.ptr c]; rfl
  · intro p x
    rw [hA, h.at']
    constructor
    · rintro (⟨e1, e2⟩ | ⟨w, hw, e1, e2⟩ | h1)
      · exact .inl ⟨_, List.mem_append_right _ (List.mem_singleton.2 rfl), e2.symm, e1.symm⟩
      · exact .inl ⟨w, List.mem_append_left _ hw, e1, e2⟩
      · exact .inr h1
    · rintro (⟨w, hw, e1, e2⟩ | h1)
      · rcases List.mem_append.1 hw with h2 | h2
        · exact .inr (.inl ⟨w, h2, e1, e2⟩)
        · rw [List.mem_singleton] at h2; subst h2; exact .inl ⟨e2.symm, e1.symm⟩
      · exact .inr (.inr h1)
  · intro w hw
    rcases List.mem_append.1 hw with h1 | h1
    · rcases h.par w h1 with h2 | ⟨h2, h3, h4⟩
      · exact .inl h2
      · exact .inr ⟨h2, (hA _ _).2 (.inr h3), h4⟩
    · rw [List.mem_singleton] at h1; subst h1
      exact .inr ⟨by dsimp only; omega, (hA _ _).2 (.inr hv), hact⟩
  · intro p x hp hx hax
    rcases (hA p x).1 hx with ⟨e1, _⟩ | h1
    · omega
    · by_cases hpi : p = i
      · subst hpi
        rw [hv] at h1
        exact ⟨_, List.mem_append_right _ (List.mem_singleton.2 rfl), Option.some.inj h1⟩
      · obtain ⟨w, hw, e⟩ := h.vis p x (by omega) h1 hax
        exact ⟨w, List.mem_append_left _ hw, e⟩
theorem Iv.stp : ∃ W', Iv R (i + 1) (stp R.l R.act s i) W' := by
  unfold Sais.stp
  cases hv : s.A i with
  | none =>
    refine ⟨W, h.ty, h.nd, h.ord, fun w hw => by have := h.le w hw; omega, h.rng, h.ptr, h.at', h.par, fun p v hp h1 h2 => ?_⟩
    by_cases e : p = i
    · subst e; rw [hv] at h1; cases h1
    · exact h.vis p v (by omega) h1 h2
  | some v =>
    dsimp only
    by_cases ha : R.act v = true
    · rw [if_pos ha]
      exact ⟨_, (h.put hR hv ha).1⟩
    · rw [if_neg ha]
      refine ⟨W, h.ty, h.nd, h.ord, fun w hw => by have := h.le w hw; omega, h.rng, h.ptr, h.at', h.par, fun p x hp h1 h2 => ?_⟩
      by_cases e : p = i
      · subst e; rw [hv] at h1; cases h1; exact absurd h2 ha
      · exact h.vis p x (by omega) h1 h2
theorem Iv.sorted (le : Nat → Nat → Prop) (h1 : ∀ x y, x < R.n → y < R.n → R.l x < R.l y → le x y) (h2 : ∀ x y, R.Ty x → R.Ty y → x + 1 < R.n → y + 1 < R.n → R.l x = R.l y → le (x + 1) (y + 1) → le x y)
    (h3 : ∀ x y, x < R.n → y < R.n → R.Ty x → ¬ R.Ty y → R.l x = R.l y → le x y) (h4 : ∀ p q x y, p < q → R.G p = some x → R.G q = some y → R.l x = R.l y → le x y) (h5 : ∀ x y, R.sd x → R.Ty y → y + 1 < R.n → R.l x = R.l y → le x y) :
    ∀ (m q p x y : Nat), q ≤ m → p < q → s.A p = some x → s.A q = some y → le x y := by
  intro m
  induction m with
  | zero => intro q p x y hq hp; omega
  | succ m ih =>
    intro q p x y hq hp hx hy
    obtain ⟨x1, x2, x3, x4, x5⟩ := h.part hR hx
    obtain ⟨y1, y2, y3, y4, y5⟩ := h.part hR hy
    rcases Nat.lt_trichotomy (R.l x) (R.l y) with hl | hl | hl
    · exact h1 x y x1 y1 hl
    · by_cases tx : R.Ty x
      · by_cases ty : R.Ty y
        · obtain ⟨a, ha, rfl, rfl⟩ := x4 tx
          obtain ⟨b, hb, rfl, rfl⟩ := y4 ty
          have hab : a.t < b.t := by
            obtain ⟨ia, hia, ea⟩ := List.mem_iff_getElem.1 ha
            obtain ⟨ib, hib, eb⟩ := List.mem_iff_getElem.1 hb
            have ho := List.pairwise_iff_getElem.1 h.ord
            rcases Nat.lt_trichotomy ia ib with k | k | k
            · have := ho ia ib hia hib k
              rw [ea, eb] at this
              exact this.1
            · subst k
              rw [ea] at eb
              subst eb
              omega
            · have := ho ib ia hib hia k
              rw [ea, eb] at this
              have := this.2 hl.symm
              omega
          rcases h.par b hb with ⟨b1, _⟩ | ⟨b1, b2, _⟩
          · omega
          · have hyn := (h.part hR b2).1
            rcases h.par a ha with ⟨a1, a2⟩ | ⟨a1, a2, _⟩
            · exact h5 _ _ a2 ty hyn hl
            · have hxn := (h.part hR a2).1
              have hble := (h.le b hb).2
              exact h2 _ _ tx ty hxn hyn hl (ih (b.t - 1) (a.t - 1) _ _ (by omega) (by omega) a2 b2)
        · exact h3 x y x1 y1 tx ty hl
      · have hx5 := x5 tx
        by_cases ty : R.Ty y
        · exfalso
          obtain ⟨b, hb, rfl, rfl⟩ := y4 ty
          have k1 := (h.rng b hb).2
          have k2 := h.cap hR (R.l b.y)
          rw [hl] at hx5
          omega
        · rcases (h.at' p x).1 hx with ⟨a, ha, rfl, _⟩ | gx
          · exact absurd (h.ty a ha).1 tx
          · rcases (h.at' q y).1 hy with ⟨b, hb, rfl, _⟩ | gy
            · exact absurd (h.ty b hb).1 ty
            · exact h4 p q x y hp gx gy hl
    · exfalso
      have := hR.bs_le (show R.l y + 1 ≤ R.l x by omega)
      omega
end
end Go.Proofs.Ytcibehgcibojnaa.Sais

namespace Go.Proofs.Ytcibehgcibojnaa.Sais
theorem Iv.zero {R : Rule} (c : Nat) : Iv R 0 ⟨R.G, R.bs, c⟩ [] where
  ty := by intro w hw; simp at hw
  nd := by simp
  ord := List.Pairwise.nil
  le := by intro w hw; simp at hw
  rng := by intro w hw; simp at hw
  ptr := by intro c; simp [ofL]
  at' := by intro p y; simp
  par := by intro w hw; simp at hw
  vis := by intro p v hp; omega
theorem Iv.seed {R : Rule} (hR : R.Ok) (c y : Nat) (hy : R.sd y) (ht : R.Ty y) : Iv R 0 (Sais.put R.l ⟨R.G, R.bs, c⟩ y) [⟨0, y, R.bs (R.l y)⟩] := by
  have hyn := hR.sd y hy
  have hcap : 1 ≤ R.cap (R.l y) := by
    have := hR.capn (R.l y) [y] (by simp) (fun x hx => by
      rw [List.mem_singleton] at hx
      subst hx
      exact ⟨ht, by omega, rfl⟩)
    simpa using this
  have hof : ∀ c, (ofL R [(⟨0, y, R.bs (R.l y)⟩ : Wr)] c).length = if R.l y = c then 1 else 0 := fun c => by
    unfold ofL
    by_cases e : R.l y = c
    · rw [if_pos e, List.filter_cons_of_pos (by simpa using e)]; rfl
    · rw [if_neg e, List.filter_cons_of_neg (by simpa using e)]; rfl
  have hfree : ∀ x, R.G (R.bs (R.l y)) ≠ some x := fun x hx => by
    obtain ⟨_, _, g3, g4⟩ := hR.gp _ _ hx
    rcases Nat.lt_trichotomy (R.l x) (R.l y) with h | h | h
    · have := hR.bs_le (show R.l x + 1 ≤ R.l y by omega)
      omega
    · rw [h] at g3; omega
    · have h1 := hR.bs_le (show R.l y + 1 ≤ R.l x by omega)
      have h2 := hR.mono (R.l y)
      omega
  refine ⟨?_, by simp, List.pairwise_singleton _ _, ?_, ?_, ?_, ?_, ?_, fun p v hp => by omega⟩
  · intro w hw
    rw [List.mem_singleton] at hw; subst hw
    exact ⟨ht, by dsimp only; omega⟩
  · intro w hw
    rw [List.mem_singleton] at hw; subst hw
    exact ⟨Nat.le_refl _, Nat.zero_le _⟩
  · intro w hw
    rw [List.mem_singleton] at hw; subst hw
    rw [hof, if_pos rfl]
    dsimp only; omega
  · intro d
    rw [hof]
    show (if d = R.l y then R.bs d + 1 else R.bs d) = _
    by_cases e : d = R.l y
    · rw [if_pos e, if_pos e.symm]
    · rw [if_neg e, if_neg (Ne.symm e)]; rfl
  · intro p x
    show (if p = R.bs (R.l y) then some y else R.G p) = some x ↔ _
    by_cases e : p = R.bs (R.l y)
    · rw [if_pos e]
      constructor
      · intro h
        exact .inl ⟨_, List.mem_singleton.2 rfl, Option.some.inj h, e.symm⟩
      · rintro (⟨w, hw, e1, _⟩ | h)
        · rw [List.mem_singleton] at hw; subst hw; exact congrArg some e1
        · rw [e] at h; exact absurd h (hfree x)
    · rw [if_neg e]
      constructor
      · exact .inr
      · rintro (⟨w, hw, _, e2⟩ | h)
        · rw [List.mem_singleton] at hw; subst hw; exact absurd e2.symm e
        · exact h
  · intro w hw
    rw [List.mem_singleton] at hw; subst hw
    exact .inl ⟨rfl, hy⟩
theorem Iv.run {R : Rule} (hR : R.Ok) {s : Ms} {W : List Wr} (h : Iv R 0 s W) : ∀ i, ∃ W', Iv R i (Sais.run R.l R.act s i) W'
  | 0 => ⟨W, h⟩
  | i + 1 => by
    obtain ⟨W1, h1⟩ := Iv.run hR h i
    exact h1.stp hR
end Go.Proofs.Ytcibehgcibojnaa.Sais

namespace Go.Proofs.Ytcibehgcibojnaa.Sais
theorem filter_ne_len (x : Nat) : ∀ L : List Nat, L.Nodup → L.length ≤ (L.filter fun y => decide (y ≠ x)).length + 1
  | [], _ => by simp
  | y :: L, h => by
    have h1 := List.nodup_cons.1 h
    by_cases e : y = x
    · subst e
      have : L.filter (fun z => decide (z ≠ y)) = L := List.filter_eq_self.2 fun z hz => by
        simp only [ne_eq, decide_eq_true_eq]
        intro e; subst e; exact h1.1 hz
      rw [List.filter_cons_of_neg (by simp), this, List.length_cons]
      omega
    · have := filter_ne_len x L h1.2
      rw [List.filter_cons_of_pos (by simpa using e), List.length_cons, List.length_cons]
      omega
theorem nodup_count (p : Nat → Bool) : ∀ (n : Nat) (L : List Nat), L.Nodup → (∀ y ∈ L, y < n ∧ p y = true) → L.length ≤ (List.range n).countP p
  | 0, L, _, h => by
    cases L with
    | nil => simp
    | cons y L => have := (h y (by simp)).1; omega
  | n + 1, L, hL, h => by
    rw [List.range_succ, List.countP_append]
    have h1 := nodup_count p n (L.filter fun y => decide (y ≠ n)) (hL.sublist List.filter_sublist) (fun y hy => by
      have h2 := List.mem_filter.1 hy
      have h3 := h y h2.1
      have h4 : y ≠ n := by simpa using h2.2
      exact ⟨by omega, h3.2⟩)
    by_cases hn : n ∈ L
    · have h2 := filter_ne_len n L hL
      have h3 : [n].countP p = 1 := by simp [(h n hn).2]
      omega
    · have h2 : L.filter (fun y => decide (y ≠ n)) = L := List.filter_eq_self.2 fun z hz => by
        simp only [ne_eq, decide_eq_true_eq]
        intro e; subst e; exact hn hz
      rw [h2] at h1
      omega
end Go.Proofs.Ytcibehgcibojnaa.Sais

namespace Go.Proofs.Ytcibehgcibojnaa.Sais
def bst (T : List Nat) (c : Nat) : Nat := (List.range T.length).countP fun y => decide (ch T y < c)
def bsz (T : List Nat) (c : Nat) (p : Nat → Bool) : Nat := (List.range T.length).countP fun y => decide (ch T y = c) && p y
theorem countP_or (p q r : Nat → Bool) (h : ∀ y, p y = (q y || r y)) (h2 : ∀ y, ¬ (q y = true ∧ r y = true)) : ∀ L : List Nat, L.countP p = L.countP q + L.countP r
  | [] => rfl
  | y :: L => by
    have ih := countP_or p q r h h2 L
    have h3 := h y
    have h4 := h2 y
    rw [List.countP_cons, List.countP_cons, List.countP_cons, ih, h3]
    cases hq : q y <;> cases hr : r y <;> simp_all <;> omega
theorem bst_succ (T : List Nat) (c : Nat) (p : Nat → Bool) : bst T (c + 1) = bst T c + bsz T c p + bsz T c fun y => !p y := by
  unfold bst bsz
  rw [countP_or (fun y => decide (ch T y < c + 1)) (fun y => decide (ch T y < c)) (fun y => decide (ch T y = c))
    (fun y => by by_cases h : ch T y < c <;> by_cases h2 : ch T y = c <;> simp [h, h2] <;> omega) (fun y => by simp; omega)]
  rw [countP_or (fun y => decide (ch T y = c)) (fun y => decide (ch T y = c) && p y) (fun y => decide (ch T y = c) && !p y)
    (fun y => by by_cases h : ch T y = c <;> cases p y <;> simp [h]) (fun y => by cases p y <;> simp)]
  dsimp only
  omega
theorem bst_le (T : List Nat) (c : Nat) : bst T c ≤ T.length := by
  unfold bst
  have := List.countP_le_length (p := fun y => decide (ch T y < c)) (l := List.range T.length)
  rwa [List.length_range] at this
end Go.Proofs.Ytcibehgcibojnaa.Sais

namespace Go.Proofs.Ytcibehgcibojnaa.Sais
open Classical
noncomputable def lb (T : List Nat) (y : Nat) : Bool := decide (¬ St T y)
noncomputable def ruleL (T : List Nat) (lo : Nat) (G : Nat → Option Nat) : Rule where
  n := T.length
  l := ch T
  bs := bst T
  cap c := bsz T c (lb T)
  Ty y := ¬ St T y
  act v := decide (lo < v ∧ ¬ St T (v - 1))
  G := G
  sd y := y + 1 = T.length
structure GoodG (T : List Nat) (G : Nat → Option Nat) : Prop where
  st : ∀ p y, G p = some y → St T y ∧ bst T (ch T y) + bsz T (ch T y) (lb T) ≤ p ∧ p < bst T (ch T y + 1)
  inj : ∀ p q y, G p = some y → G q = some y → p = q
theorem ruleL_ok (T : List Nat) (lo : Nat) (G : Nat → Option Nat) (hG : GoodG T G) : (ruleL T lo G).Ok where
  mono c := by
    show bst T c + bsz T c (lb T) ≤ bst T (c + 1)
    have := bst_succ T c (lb T)
    omega
  capn c L hL h := nodup_count _ T.length L hL fun y hy => by
    obtain ⟨h1, h2, h3⟩ := h y hy
    refine ⟨h2, ?_⟩
    have h1 : ¬ St T y := h1
    have h3 : ch T y = c := h3
    simp [lb, h1, h3]
  gp p y h := by
    obtain ⟨h1, h2, h3⟩ := hG.st p y h
    exact ⟨fun hn => hn h1, Nat.lt_of_not_le fun (hle : T.length ≤ y) => st_last T (by omega) h1, h2, h3⟩
  gi := hG.inj
  ac v hv h := by
    have h := of_decide_eq_true h
    obtain ⟨u, rfl⟩ : ∃ u, v = u + 1 := ⟨v - 1, by omega⟩
    have h2 : ¬ St T u := h.2
    refine ⟨Nat.lt_of_le_of_lt (Nat.zero_le _) h.1, h2, ch_l T hv h2, fun e hs => h2 ((st_iff T hv).2 (.inr ⟨?_, hs⟩))⟩
    exact e.symm
  sd y h := h
end Go.Proofs.Ytcibehgcibojnaa.Sais

namespace Go.Proofs.Ytcibehgcibojnaa.Sais
open Classical
noncomputable def sb (T : List Nat) (y : Nat) : Bool := !(lb T y)
noncomputable def ruleS (T : List Nat) (k lo : Nat) (G : Nat → Option Nat) : Rule where
  n := T.length
  l y := k - 1 - ch T y
  bs c := T.length - bst T (k - c)
  cap c := if c < k then bsz T (k - 1 - c) (sb T) else 0
  Ty y := St T y
  act v := decide (lo < v ∧ St T (v - 1))
  G := G
  sd _ := False
structure GoodH (T : List Nat) (G : Nat → Option Nat) : Prop where
  st : ∀ p y, G p = some y → ¬ St T y ∧ y < T.length ∧ ∃ q, q + p + 1 = T.length ∧ bst T (ch T y) ≤ q ∧ q < bst T (ch T y) + bsz T (ch T y) (lb T)
  inj : ∀ p q y, G p = some y → G q = some y → p = q
theorem ruleS_ok (T : List Nat) (k lo : Nat) (hk : ∀ y, ch T y < k) (G : Nat → Option Nat) (hG : GoodH T G) : (ruleS T k lo G).Ok where
  mono c := by
    show T.length - bst T (k - c) + (if c < k then bsz T (k - 1 - c) (sb T) else 0) ≤ T.length - bst T (k - (c + 1))
    by_cases h : c < k
    · rw [if_pos h]
      have h1 := bst_succ T (k - 1 - c) (lb T)
      have h2 := bst_le T (k - c)
      rw [show k - 1 - c + 1 = k - c by omega] at h1
      rw [show k - (c + 1) = k - 1 - c by omega]
      have h3 : bsz T (k - 1 - c) (sb T) = bsz T (k - 1 - c) fun y => !lb T y := rfl
      omega
    · rw [if_neg h, show k - (c + 1) = k - c by omega]
      omega
  capn c L hL h := by
    show L.length ≤ if c < k then bsz T (k - 1 - c) (sb T) else 0
    by_cases hc : c < k
    · rw [if_pos hc]
      refine nodup_count _ T.length L hL fun y hy => ?_
      obtain ⟨h1, h2, h3⟩ := h y hy
      have h1 : St T y := h1
      have h3 : k - 1 - ch T y = c := h3
      have := hk y
      refine ⟨h2, ?_⟩
      have h4 : ch T y = k - 1 - c := by omega
      simp [sb, lb, h1, h4]
    · cases L with
      | nil => simp
      | cons y L =>
        have h3 : k - 1 - ch T y = c := (h y (by simp)).2.2
        have := hk y
        omega
  gp p y h := by
    obtain ⟨h1, h2, q, h3, h4, h5⟩ := hG.st p y h
    have hy := hk y
    have e := bst_succ T (ch T y) (lb T)
    have hl := bst_le T (ch T y + 1)
    have hs : bsz T (ch T y) (sb T) = bsz T (ch T y) fun y => !lb T y := rfl
    refine ⟨h1, h2, ?_, ?_⟩
    · show T.length - bst T (k - (k - 1 - ch T y)) + (if k - 1 - ch T y < k then bsz T (k - 1 - (k - 1 - ch T y)) (sb T) else 0) ≤ p
      rw [if_pos (by omega), show k - (k - 1 - ch T y) = ch T y + 1 by omega, show k - 1 - (k - 1 - ch T y) = ch T y by omega]
      omega
    · show p < T.length - bst T (k - (k - 1 - ch T y + 1))
      rw [show k - (k - 1 - ch T y + 1) = ch T y by omega]
      omega
  gi := hG.inj
  ac v hv h := by
    have h := of_decide_eq_true h
    obtain ⟨u, rfl⟩ : ∃ u, v = u + 1 := ⟨v - 1, by omega⟩
    have h2 : St T u := h.2
    have hv : u + 1 < T.length := hv
    have h3 := ch_s T h2
    refine ⟨Nat.lt_of_le_of_lt (Nat.zero_le _) h.1, h2, ?_, fun e => ?_⟩
    · show k - 1 - ch T (u + 1) ≤ k - 1 - ch T u
      omega
    · have e : k - 1 - ch T (u + 1) = k - 1 - ch T u := e
      have h4 := hk u
      have h5 := hk (u + 1)
      show St T (u + 1)
      rcases (st_iff T hv).1 h2 with h6 | h6
      · omega
      · exact h6.2
  sd y h := h.elim
end Go.Proofs.Ytcibehgcibojnaa.Sais

namespace Go.Proofs.Ytcibehgcibojnaa.Sais
open Classical
inductive Rch (T : List Nat) (lo : Nat) (G : Nat → Option Nat) : Nat → Prop
  | last {j : Nat} : j + 1 = T.length → Rch T lo G j
  | next {j : Nat} : ¬ St T j → lo ≤ j → Rch T lo G (j + 1) → Rch T lo G j
  | given {j p : Nat} : ¬ St T j → lo ≤ j → G p = some (j + 1) → Rch T lo G j
theorem full_L {T : List Nat} {lo : Nat} {G : Nat → Option Nat} (hG : GoodG T G) {s : Ms} {W : List Wr} (h : Iv (ruleL T lo G) T.length s W) (h0 : ∃ w ∈ W, w.y + 1 = T.length) {j : Nat} (hj : Rch T lo G j) : ∃ w ∈ W, w.y = j := by
  have hR := ruleL_ok T lo G hG
  have key : ∀ p j, ¬ St T j → lo ≤ j → s.A p = some (j + 1) → ∃ w ∈ W, w.y = j := fun p j h1 h3 h2 => by
    obtain ⟨_, _, h5, _⟩ := h.part hR h2
    have h6 : p < T.length := Nat.lt_of_lt_of_le h5 (bst_le T _)
    obtain ⟨w, hw, e⟩ := h.vis p (j + 1) h6 h2 (decide_eq_true ⟨Nat.lt_succ_of_le h3, by rw [Nat.add_sub_cancel]; exact h1⟩)
    exact ⟨w, hw, by omega⟩
  induction hj with
  | last e =>
    obtain ⟨w, hw, e2⟩ := h0
    exact ⟨w, hw, by omega⟩
  | next h1 h3 _ ih =>
    obtain ⟨w, hw, e⟩ := ih
    exact key w.p _ h1 h3 ((h.at' _ _).2 (.inl ⟨w, hw, e, rfl⟩))
  | given h1 h3 h2 => exact key _ _ h1 h3 ((h.at' _ _).2 (.inr h2))
end Go.Proofs.Ytcibehgcibojnaa.Sais

namespace Go.Proofs.Ytcibehgcibojnaa.Sais
open Classical
inductive RchS (T : List Nat) (lo : Nat) (G : Nat → Option Nat) : Nat → Prop
  | next {j : Nat} : St T j → lo ≤ j → RchS T lo G (j + 1) → RchS T lo G j
  | given {j p : Nat} : St T j → lo ≤ j → G p = some (j + 1) → RchS T lo G j
theorem full_S {T : List Nat} {k lo : Nat} (hk : ∀ y, ch T y < k) {G : Nat → Option Nat} (hG : GoodH T G) {s : Ms} {W : List Wr} (h : Iv (ruleS T k lo G) T.length s W) {j : Nat} (hj : RchS T lo G j) : ∃ w ∈ W, w.y = j := by
  have hR := ruleS_ok T k lo hk G hG
  have key : ∀ p j, St T j → lo ≤ j → s.A p = some (j + 1) → ∃ w ∈ W, w.y = j := fun p j h1 h3 h2 => by
    obtain ⟨_, _, h5, _⟩ := h.part hR h2
    have h6 : p < T.length := Nat.lt_of_lt_of_le h5 (Nat.sub_le _ _)
    obtain ⟨w, hw, e⟩ := h.vis p (j + 1) h6 h2 (decide_eq_true ⟨Nat.lt_succ_of_le h3, by rw [Nat.add_sub_cancel]; exact h1⟩)
    exact ⟨w, hw, by omega⟩
  induction hj with
  | next h1 h3 _ ih =>
    obtain ⟨w, hw, e⟩ := ih
    exact key w.p _ h1 h3 ((h.at' _ _).2 (.inl ⟨w, hw, e, rfl⟩))
  | given h1 h3 h2 => exact key _ _ h1 h3 ((h.at' _ _).2 (.inr h2))
end Go.Proofs.Ytcibehgcibojnaa.Sais

namespace Go.Proofs.Ytcibehgcibojnaa.Sais
open Classical
theorem sorted_L {T : List Nat} {lo : Nat} {G : Nat → Option Nat} (hG : GoodG T G) {s : Ms} {W : List Wr} {i : Nat} (h : Iv (ruleL T lo G) i s W)
    (hs : ∀ p q x y, p < q → G p = some x → G q = some y → ch T x = ch T y → Sl T x y) {p q x y : Nat} (hp : p < q) (hx : s.A p = some x) (hy : s.A q = some y) : Sl T x y := by
  refine h.sorted (ruleL_ok T lo G hG) (Sl T) ?_ ?_ ?_ hs ?_ q q p x y (Nat.le_refl q) hp hx hy
  · intro x y h1 h2 h3
    exact (sl_iff T h1 h2).2 (.inl h3)
  · intro x y _ _ h1 h2 h3 h4
    have h1 : x + 1 < T.length := h1
    have h2 : y + 1 < T.length := h2
    exact (sl_iff T (by omega) (by omega)).2 (.inr ⟨h3, h4⟩)
  · intro x y h1 h2 h3 h4 h5
    exact l_lt_s T _ x y (Nat.le_refl _) h1 h2 h5 h3 (not_not.1 h4)
  · intro x y h1 _ h2 h3
    have h1 : x + 1 = T.length := h1
    have h2 : y + 1 < T.length := h2
    exact (sl_iff T (by omega) (by omega)).2 (.inr ⟨h3, (sl_end T (by omega)).2 h2⟩)
theorem sorted_S {T : List Nat} {k lo : Nat} (hk : ∀ y, ch T y < k) {G : Nat → Option Nat} (hG : GoodH T G) {s : Ms} {W : List Wr} {i : Nat} (h : Iv (ruleS T k lo G) i s W)
    (hs : ∀ p q x y, p < q → G p = some x → G q = some y → ch T x = ch T y → Sl T y x) {p q x y : Nat} (hp : p < q) (hx : s.A p = some x) (hy : s.A q = some y) : Sl T y x := by
  have hl : ∀ x y, k - 1 - ch T x = k - 1 - ch T y → ch T x = ch T y := fun x y e => by
    have := hk x
    have := hk y
    omega
  refine h.sorted (ruleS_ok T k lo hk G hG) (fun a b => Sl T b a) ?_ ?_ ?_ (fun p q x y h1 h2 h3 h4 => hs p q x y h1 h2 h3 (hl x y h4)) ?_ q q p x y (Nat.le_refl q) hp hx hy
  · intro x y h1 h2 h3
    have h3 : k - 1 - ch T x < k - 1 - ch T y := h3
    exact (sl_iff T h2 h1).2 (.inl (by omega))
  · intro x y _ _ h1 h2 h3 h4
    have h1 : x + 1 < T.length := h1
    have h2 : y + 1 < T.length := h2
    exact (sl_iff T (by omega) (by omega)).2 (.inr ⟨(hl x y h3).symm, h4⟩)
  · intro x y h1 h2 h3 h4 h5
    exact l_lt_s T _ y x (Nat.le_refl _) h2 h1 (hl x y h5).symm h4 h3
  · intro x y h1
    exact h1.elim
end Go.Proofs.Ytcibehgcibojnaa.Sais

namespace Go.Proofs.Ytcibehgcibojnaa.Sais
open Classical
noncomputable def cd2 (T : List Nat) (x : Nat) : Nat := 2 * ch T x + (if St T x then 1 else 0)
noncomputable def key (T : List Nat) (x : Nat) : List Nat := if h : x < T.length then cd2 T x :: (if Lms T (x + 1) then [cd2 T (x + 1)] else key T (x + 1)) else []
termination_by T.length - x
noncomputable def keyL (T : List Nat) (x : Nat) : List Nat := if Lms T x then [cd2 T x] else key T x
theorem key_cons (T : List Nat) {x : Nat} (h : x < T.length) : key T x = cd2 T x :: keyL T (x + 1) := by
  rw [key, dif_pos h]
  rfl
theorem key_end (T : List Nat) {x : Nat} (h : T.length ≤ x) : key T x = [] := by
  rw [key, dif_neg (by omega)]
theorem cd2_lt (T : List Nat) {x y : Nat} (h : ch T x < ch T y) : cd2 T x < cd2 T y := by
  unfold cd2
  split <;> split <;> omega
end Go.Proofs.Ytcibehgcibojnaa.Sais

namespace Go.Proofs.Ytcibehgcibojnaa.Sais
open Classical
theorem keyL_head (T : List Nat) {x : Nat} (h : x < T.length) : ∃ r, keyL T x = cd2 T x :: r := by
  unfold keyL
  split
  · exact ⟨[], rfl⟩
  · exact ⟨_, key_cons T h⟩
theorem keyL_l (T : List Nat) {x : Nat} (h : x < T.length) (h1 : ¬ St T x) : keyL T x = cd2 T x :: keyL T (x + 1) := by
  unfold keyL
  rw [if_neg (fun h2 => h1 h2.2.1)]
  exact key_cons T h
theorem cd2_l (T : List Nat) {x : Nat} (h1 : ¬ St T x) : cd2 T x = 2 * ch T x := by unfold cd2; rw [if_neg h1]; rfl
theorem cd2_s (T : List Nat) {x : Nat} (h1 : St T x) : cd2 T x = 2 * ch T x + 1 := by unfold cd2; rw [if_pos h1]
theorem head_lt {a b : Nat} {as bs : List Nat} (h : a < b) : a :: as ≤ b :: bs := List.cons_le_cons_iff.2 (.inl h)
theorem keys_L {T : List Nat} {lo : Nat} {G : Nat → Option Nat} (hG : GoodG T G) (hl : ∀ p y, G p = some y → Lms T y) {s : Ms} {W : List Wr} {i : Nat} (h : Iv (ruleL T lo G) i s W) {p q x y : Nat} (hp : p < q) (hx : s.A p = some x) (hy : s.A q = some y) : keyL T x ≤ keyL T y := by
  refine h.sorted (ruleL_ok T lo G hG) (fun a b => keyL T a ≤ keyL T b) ?_ ?_ ?_ ?_ ?_ q q p x y (Nat.le_refl q) hp hx hy
  · intro x y h1 h2 h3
    obtain ⟨r1, e1⟩ := keyL_head T h1
    obtain ⟨r2, e2⟩ := keyL_head T h2
    rw [e1, e2]
    exact head_lt (cd2_lt T h3)
  · intro x y h1 h2 h3 h4 h5 h6
    have h3 : x + 1 < T.length := h3
    have h4 : y + 1 < T.length := h4
    have h5 : ch T x = ch T y := h5
    rw [keyL_l T (by omega) h1, keyL_l T (by omega) h2, cd2_l T h1, cd2_l T h2, h5]
    exact List.cons_le_cons_iff.2 (.inr ⟨rfl, h6⟩)
  · intro x y h1 h2 h3 h4 h5
    have h5 : ch T x = ch T y := h5
    obtain ⟨r1, e1⟩ := keyL_head T h1
    obtain ⟨r2, e2⟩ := keyL_head T h2
    rw [e1, e2, cd2_l T h3, cd2_s T (not_not.1 h4)]
    exact head_lt (by omega)
  · intro p q x y _ h1 h2 h3
    have h3 : ch T x = ch T y := h3
    have h4 := hl p x h1
    have h5 := hl q y h2
    unfold keyL
    rw [if_pos h4, if_pos h5, cd2_s T h4.2.1, cd2_s T h5.2.1, h3]
    exact List.le_refl _
  · intro x y h1 h2 h3 h4
    have h1 : x + 1 = T.length := h1
    have h3 : y + 1 < T.length := h3
    have h4 : ch T x = ch T y := h4
    have h5 : ¬ St T x := st_last T (by omega)
    rw [keyL_l T (by omega) h5, keyL_l T (by omega) h2, cd2_l T h5, cd2_l T h2, h4]
    refine List.cons_le_cons_iff.2 (.inr ⟨rfl, ?_⟩)
    have : keyL T (x + 1) = [] := by
      unfold keyL
      rw [if_neg (fun h => by have := lms_lt h; omega), key_end T (by omega)]
    rw [this]
    exact List.nil_le _
end Go.Proofs.Ytcibehgcibojnaa.Sais

namespace Go.Proofs.Ytcibehgcibojnaa.Sais
open Classical
theorem key_s (T : List Nat) {x : Nat} (h : x < T.length) (h1 : St T x) : key T x = cd2 T x :: key T (x + 1) := by
  rw [key_cons T h]
  unfold keyL
  rw [if_neg (fun h2 => h2.2.2 (by rw [Nat.add_sub_cancel]; exact h1))]
theorem keys_S {T : List Nat} {k lo : Nat} (hk : ∀ y, ch T y < k) {G : Nat → Option Nat} (hG : GoodH T G) {s : Ms} {W : List Wr} {i : Nat} (h : Iv (ruleS T k lo G) i s W)
    (hs : ∀ p q x y, p < q → G p = some x → G q = some y → ch T x = ch T y → key T y ≤ key T x) {p q x y : Nat} (hp : p < q) (hx : s.A p = some x) (hy : s.A q = some y) : key T y ≤ key T x := by
  have hl : ∀ x y, k - 1 - ch T x = k - 1 - ch T y → ch T x = ch T y := fun x y e => by
    have := hk x
    have := hk y
    omega
  refine h.sorted (ruleS_ok T k lo hk G hG) (fun a b => key T b ≤ key T a) ?_ ?_ ?_ (fun p q x y h1 h2 h3 h4 => hs p q x y h1 h2 h3 (hl x y h4)) ?_ q q p x y (Nat.le_refl q) hp hx hy
  · intro x y h1 h2 h3
    have h3 : k - 1 - ch T x < k - 1 - ch T y := h3
    rw [key_cons T h1, key_cons T h2]
    exact head_lt (cd2_lt T (by omega))
  · intro x y h1 h2 h3 h4 h5 h6
    have h3 : x + 1 < T.length := h3
    have h4 : y + 1 < T.length := h4
    rw [key_s T (by omega) h1, key_s T (by omega) h2, cd2_s T h1, cd2_s T h2, hl x y h5]
    exact List.cons_le_cons_iff.2 (.inr ⟨rfl, h6⟩)
  · intro x y h1 h2 h3 h4 h5
    rw [key_cons T h1, key_cons T h2, cd2_s T h3, cd2_l T h4, hl x y h5]
    exact head_lt (by omega)
  · intro x y h1
    exact h1.elim
end Go.Proofs.Ytcibehgcibojnaa.Sais

namespace Go.Proofs.Ytcibehgcibojnaa.Sais
open Classical
theorem cd2_sl (T : List Nat) {x y : Nat} (hx : x < T.length) (hy : y < T.length) (h : cd2 T x < cd2 T y) : Sl T x y := by
  by_cases hc : ch T x < ch T y
  · exact (sl_iff T hx hy).2 (.inl hc)
  · unfold cd2 at h
    by_cases h1 : St T x
    · rw [if_pos h1] at h
      split at h <;> omega
    · rw [if_neg h1] at h
      by_cases h2 : St T y
      · rw [if_pos h2] at h
        exact l_lt_s T _ x y (Nat.le_refl _) hx hy (by omega) h1 h2
      · rw [if_neg h2] at h; omega
theorem cd2_eq (T : List Nat) {x y : Nat} (h : cd2 T x = cd2 T y) : ch T x = ch T y ∧ (St T x ↔ St T y) := by
  unfold cd2 at h
  by_cases h1 : St T x <;> by_cases h2 : St T y <;> simp only [h1, h2, if_true, if_false, iff_self, and_true] at h ⊢ <;> omega
theorem key_sl (T : List Nat) : ∀ (m x y : Nat), T.length - x ≤ m → key T x < key T y → Sl T x y := by
  intro m
  induction m with
  | zero =>
    intro x y hm h
    rw [key_end T (by omega)] at h
    refine (sl_end T (by omega)).2 (Nat.lt_of_not_le fun hy => ?_)
    rw [key_end T hy] at h
    exact absurd h (List.lt_irrefl _)
  | succ m ih =>
    intro x y hm h
    by_cases hx : x < T.length
    · by_cases hy : y < T.length
      · rw [key_cons T hx, key_cons T hy, List.cons_lt_cons_iff] at h
        rcases h with h | ⟨h1, h2⟩
        · exact cd2_sl T hx hy h
        · obtain ⟨hc, ht⟩ := cd2_eq T h1
          refine (sl_iff T hx hy).2 (.inr ⟨hc, ?_⟩)
          by_cases l1 : Lms T (x + 1)
          · have hx1 := lms_lt l1
            have hsx : ¬ St T x := by have := l1.2.2; rwa [Nat.add_sub_cancel] at this
            by_cases hy1 : y + 1 < T.length
            · obtain ⟨r, e⟩ := keyL_head T hy1
              rw [show keyL T (x + 1) = [cd2 T (x + 1)] from if_pos l1, e, List.cons_lt_cons_iff] at h2
              rcases h2 with h2 | ⟨h2, h3⟩
              · exact cd2_sl T (by omega) hy1 h2
              · have l2 : Lms T (y + 1) := ⟨Nat.succ_pos y, (cd2_eq T h2).2.1 l1.2.1, by rw [Nat.add_sub_cancel]; exact fun hs => hsx (ht.2 hs)⟩
                rw [show keyL T (y + 1) = [cd2 T (y + 1)] from if_pos l2] at e
                obtain ⟨_, rfl⟩ := List.cons.inj e
                exact absurd h3 (List.lt_irrefl _)
            · have : keyL T (y + 1) = [] := by
                unfold keyL
                rw [if_neg (fun h => by have := lms_lt h; omega), key_end T (by omega)]
              rw [this] at h2
              exact absurd h2 (List.not_lt_nil _)
          · by_cases l2 : Lms T (y + 1)
            · have hy1 := lms_lt l2
              have hsy : ¬ St T y := by have := l2.2.2; rwa [Nat.add_sub_cancel] at this
              by_cases hx1 : x + 1 < T.length
              · obtain ⟨r, e⟩ := keyL_head T hx1
                rw [show keyL T (y + 1) = [cd2 T (y + 1)] from if_pos l2, e, List.cons_lt_cons_iff] at h2
                rcases h2 with h2 | ⟨h2, _⟩
                · exact cd2_sl T hx1 (by omega) h2
                · exact absurd ⟨Nat.succ_pos x, (cd2_eq T h2).2.2 l2.2.1, by rw [Nat.add_sub_cancel]; exact fun hs => hsy (ht.1 hs)⟩ l1
              · exact (sl_end T (by omega)).2 (by omega)
            · rw [show keyL T (x + 1) = key T (x + 1) from if_neg l1, show keyL T (y + 1) = key T (y + 1) from if_neg l2] at h2
              exact ih (x + 1) (y + 1) (by omega) h2
      · rw [key_end T (x := y) (by omega)] at h
        exact absurd h (List.not_lt_nil _)
    · rw [key_end T (by omega)] at h
      refine (sl_end T (by omega)).2 (Nat.lt_of_not_le fun hy => ?_)
      rw [key_end T hy] at h
      exact absurd h (List.lt_irrefl _)
end Go.Proofs.Ytcibehgcibojnaa.Sais

namespace Go.Proofs.Ytcibehgcibojnaa.Sais
open Classical
theorem keyL_end (T : List Nat) {x : Nat} (h : T.length ≤ x) : keyL T x = [] := by
  unfold keyL
  rw [if_neg (fun h => by have := lms_lt h; omega), key_end T h]
theorem key_eq (T : List Nat) : ∀ (m x y : Nat), T.length - x ≤ m → x < T.length → y < T.length → x ≠ y → key T x = key T y →
    ∃ d, 1 ≤ d ∧ Lms T (x + d) ∧ Lms T (y + d) ∧ (∀ e, 1 ≤ e → e < d → ¬ Lms T (x + e) ∧ ¬ Lms T (y + e)) ∧ ∀ e, e ≤ d → ch T (x + e) = ch T (y + e) := by
  intro m
  induction m with
  | zero => intro x y hm hx; omega
  | succ m ih =>
    intro x y hm hx hy hne h
    rw [key_cons T hx, key_cons T hy] at h
    obtain ⟨h1, h2⟩ := List.cons.inj h
    obtain ⟨hc, ht⟩ := cd2_eq T h1
    have hiff : Lms T (x + 1) ↔ Lms T (y + 1) := by
      constructor
      · intro l1
        by_cases hy1 : y + 1 < T.length
        · obtain ⟨r, e⟩ := keyL_head T hy1
          rw [show keyL T (x + 1) = [cd2 T (x + 1)] from if_pos l1, e] at h2
          have h3 := (cd2_eq T (List.cons.inj h2).1).2
          have h4 := l1.2.2
          rw [Nat.add_sub_cancel] at h4
          exact ⟨Nat.succ_pos y, h3.1 l1.2.1, by rw [Nat.add_sub_cancel]; exact fun hs => h4 (ht.2 hs)⟩
        · rw [show keyL T (x + 1) = [cd2 T (x + 1)] from if_pos l1, keyL_end T (by omega)] at h2
          cases h2
      · intro l1
        by_cases hx1 : x + 1 < T.length
        · obtain ⟨r, e⟩ := keyL_head T hx1
          rw [show keyL T (y + 1) = [cd2 T (y + 1)] from if_pos l1, e] at h2
          have h3 := (cd2_eq T (List.cons.inj h2).1).2
          have h4 := l1.2.2
          rw [Nat.add_sub_cancel] at h4
          exact ⟨Nat.succ_pos x, h3.2 l1.2.1, by rw [Nat.add_sub_cancel]; exact fun hs => h4 (ht.1 hs)⟩
        · rw [show keyL T (y + 1) = [cd2 T (y + 1)] from if_pos l1, keyL_end T (x := x + 1) (by omega)] at h2
          cases h2
    by_cases l1 : Lms T (x + 1)
    · have l2 := hiff.1 l1
      rw [show keyL T (x + 1) = [cd2 T (x + 1)] from if_pos l1, show keyL T (y + 1) = [cd2 T (y + 1)] from if_pos l2] at h2
      have h3 := (cd2_eq T (List.cons.inj h2).1).1
      refine ⟨1, Nat.le_refl 1, l1, l2, fun e h5 h6 => by omega, fun e he => ?_⟩
      rcases Nat.lt_or_ge e 1 with h5 | h5
      · obtain rfl : e = 0 := by omega
        exact hc
      · obtain rfl : e = 1 := by omega
        exact h3
    · have l2 := mt hiff.2 l1
      rw [show keyL T (x + 1) = key T (x + 1) from if_neg l1, show keyL T (y + 1) = key T (y + 1) from if_neg l2] at h2
      by_cases hx1 : x + 1 < T.length
      · by_cases hy1 : y + 1 < T.length
        · obtain ⟨d, d1, d2, d3, d4, d5⟩ := ih (x + 1) (y + 1) (by omega) hx1 hy1 (by omega) h2
          refine ⟨d + 1, by omega, by rw [show x + (d + 1) = x + 1 + d by omega]; exact d2, by rw [show y + (d + 1) = y + 1 + d by omega]; exact d3, fun e h5 h6 => ?_, fun e he => ?_⟩
          · rcases Nat.lt_or_ge e 2 with h7 | h7
            · obtain rfl : e = 1 := by omega
              exact ⟨l1, l2⟩
            · have := d4 (e - 1) (by omega) (by omega)
              rw [show x + 1 + (e - 1) = x + e by omega, show y + 1 + (e - 1) = y + e by omega] at this
              exact this
          · rcases Nat.lt_or_ge e 1 with h7 | h7
            · obtain rfl : e = 0 := by omega
              exact hc
            · have := d5 (e - 1) (by omega)
              rw [show x + 1 + (e - 1) = x + e by omega, show y + 1 + (e - 1) = y + e by omega] at this
              exact this
        · rw [key_end T (x := y + 1) (by omega), key_cons T hx1] at h2
          cases h2
      · by_cases hy1 : y + 1 < T.length
        · rw [key_end T (x := x + 1) (by omega), key_cons T hy1] at h2
          cases h2
        · omega
end Go.Proofs.Ytcibehgcibojnaa.Sais

namespace Go.Proofs.Ytcibehgcibojnaa.Sais
open Classical
theorem sl_skip (T : List Nat) {x y : Nat} : ∀ d, x + d ≤ T.length → y + d ≤ T.length → (∀ e, e < d → ch T (x + e) = ch T (y + e)) → (Sl T x y ↔ Sl T (x + d) (y + d))
  | 0, _, _, _ => Iff.rfl
  | d + 1, hx, hy, h => by
    rw [sl_skip T d (by omega) (by omega) fun e he => h e (by omega), sl_iff T (by omega) (by omega)]
    have := h d (by omega)
    constructor
    · rintro (h1 | h1)
      · omega
      · exact h1.2
    · intro h1
      exact .inr ⟨this, h1⟩
structure LmsL (T ps : List Nat) : Prop where
  ord : ps.Pairwise (· < ·)
  mem : ∀ y, y ∈ ps ↔ Lms T y
theorem LmsL.at {T ps : List Nat} (h : LmsL T ps) {i : Nat} (hi : i < ps.length) : Lms T (ch ps i) := by
  refine (h.mem _).1 ?_
  rw [show ch ps i = ps[i] by simp [ch, hi]]
  exact List.getElem_mem _
theorem LmsL.lt {T ps : List Nat} (h : LmsL T ps) {i j : Nat} (hij : i < j) (hj : j < ps.length) : ch ps i < ch ps j := by
  have := List.pairwise_iff_getElem.1 h.ord i j (by omega) hj hij
  simpa [ch, hj, show i < ps.length by omega] using this
theorem LmsL.next {T ps : List Nat} (h : LmsL T ps) {i d : Nat} (hi : i < ps.length) (hd : 1 ≤ d) (h1 : Lms T (ch ps i + d)) (h2 : ∀ e, 1 ≤ e → e < d → ¬ Lms T (ch ps i + e)) : i + 1 < ps.length ∧ ch ps (i + 1) = ch ps i + d := by
  obtain ⟨j, hj, e⟩ := List.mem_iff_getElem.1 ((h.mem _).2 h1)
  have e : ch ps j = ch ps i + d := by rw [← e]; simp [ch, hj]
  have hij : i < j := by
    rcases Nat.lt_trichotomy i j with k | k | k
    · exact k
    · subst k; omega
    · have := h.lt k hi; omega
  by_cases k : j = i + 1
  · subst k; exact ⟨hj, e⟩
  · exfalso
    have k1 := h.lt (show i < i + 1 by omega) (show i + 1 < ps.length by omega)
    have k2 := h.lt (show i + 1 < j by omega) hj
    refine h2 (ch ps (i + 1) - ch ps i) (by omega) (by omega) ?_
    rw [show ch ps i + (ch ps (i + 1) - ch ps i) = ch ps (i + 1) by omega]
    exact h.at (by omega)
theorem reduce {T ps T1 : List Nat} (h : LmsL T ps) (hl : T1.length = ps.length) (h1 : ∀ i j, i < ps.length → j < ps.length → ch T1 i < ch T1 j → key T (ch ps i) < key T (ch ps j))
    (h2 : ∀ i j, i < ps.length → j < ps.length → ch T1 i = ch T1 j → key T (ch ps i) = key T (ch ps j)) : ∀ (m i j : Nat), ps.length - i ≤ m → i < ps.length → j < ps.length → Sl T1 i j → Sl T (ch ps i) (ch ps j) := by
  intro m
  induction m with
  | zero => intro i j hm hi; omega
  | succ m ih =>
    intro i j hm hi hj hs
    have hne : i ≠ j := fun e => by subst e; exact sl_irrefl T1 i hs
    rcases (sl_iff T1 (by omega) (by omega)).1 hs with h3 | ⟨h3, h4⟩
    · exact key_sl T _ _ _ (Nat.le_refl _) (h1 i j hi hj h3)
    · have hx := lms_lt (h.at hi)
      have hy := lms_lt (h.at hj)
      have hpn : ch ps i ≠ ch ps j := by
        rcases Nat.lt_trichotomy i j with k | k | k
        · have := h.lt k hj; omega
        · exact absurd k hne
        · have := h.lt k hi; omega
      obtain ⟨d, d1, d2, d3, d4, d5⟩ := key_eq T _ _ _ (Nat.le_refl _) (by omega) (by omega) hpn (h2 i j hi hj h3)
      obtain ⟨n1, n2⟩ := h.next hi d1 d2 fun e e1 e2 => (d4 e e1 e2).1
      obtain ⟨n3, n4⟩ := h.next hj d1 d3 fun e e1 e2 => (d4 e e1 e2).2
      have k1 := lms_lt d2
      have k2 := lms_lt d3
      refine (sl_skip T d (by omega) (by omega) fun e he => d5 e (by omega)).2 ?_
      rw [← n2, ← n4]
      exact ih (i + 1) (j + 1) (by omega) n1 n3 h4
end Go.Proofs.Ytcibehgcibojnaa.Sais
