/- The reduced problem: its text, and what its answer says. No condition. computeSA: flags, how its memory lies, what is said of the reduced problem. No condition. -/
import Derived.Test.YtcibehgcibojnaaW4x10
import Derived.Test.YtcibehgcibojnaaW4x11

namespace Go.Proofs.Ytcibehgcibojnaa.Sais
open Go.Proofs.Ytcibehgcibojnaa.Vm Classical
theorem lmsL (T : List Nat) : LmsL T (lmsF T 0) := ⟨lmsF_sorted T 0, fun y => by rw [lmsF_mem]; exact ⟨fun h => h.2, fun h => ⟨Nat.zero_le _, h⟩⟩⟩
theorem ps_room (T : List Nat) {t : Nat} (ht : t < (lmsF T 0).length) : ch (lmsF T 0) t + 2 * ((lmsF T 0).length - 1 - t) + 2 ≤ T.length := by
  obtain ⟨d, hd⟩ : ∃ d, d = (lmsF T 0).length - 1 - t := ⟨_, rfl⟩
  induction d generalizing t with
  | zero =>
    have := lms_lt ((lmsL T).at ht)
    omega
  | succ d ih =>
    have h1 := ih (t := t + 1) (by omega) (by omega)
    have h2 := (lmsL T).lt (show t < t + 1 by omega) (show t + 1 < (lmsF T 0).length by omega)
    have h3 := (lmsL T).at ht
    have h4 := (lmsL T).at (show t + 1 < (lmsF T 0).length by omega)
    have h5 : ch (lmsF T 0) (t + 1) ≠ ch (lmsF T 0) t + 1 := fun e => lms_apart h3 (e ▸ h4)
    omega
structure Nmf (T : List Nat) (m name : Nat) (f : Nat → Nat) (X : List Int) : Prop where
  at' : ∀ t, t < m → rd X ((m + ch (lmsF T 0) t / 2 : Nat) : Int) = (f t : Nat) ∧ 1 ≤ f t ∧ f t ≤ name
  lt : ∀ s t, s < m → t < m → f s < f t → key T (ch (lmsF T 0) s) < key T (ch (lmsF T 0) t)
  eq : ∀ s t, s < m → t < m → f s = f t → key T (ch (lmsF T 0) s) = key T (ch (lmsF T 0) t)
  zero : ∀ u, m ≤ u → u < T.length → (∀ t, t < m → m + ch (lmsF T 0) t / 2 ≠ u) → rd X (u : Int) = 0
theorem Named.nmf {T : List Nat} {m name : Nat} {SA : List Int} (h : Named T m SA name) (hm : m = (lmsF T 0).length) (hn : name < m) : ∃ f, Nmf T m name f SA := by
  obtain ⟨L, hS, hL, hl, _, hnm, h6⟩ := h
  obtain ⟨h7, h8⟩ := h6 hn
  have hidx : ∀ t, t < m → ∃ i, i < L.length ∧ ch L i = ch (lmsF T 0) t := fun t ht => hS.idx ((lmsL T).at (by omega))
  let g : Nat → Nat := fun t => if h : t < m then Classical.choose (hidx t h) else 0
  have hg : ∀ t, t < m → g t < L.length ∧ ch L (g t) = ch (lmsF T 0) t := fun t ht => by
    show (if h : t < m then Classical.choose (hidx t h) else 0) < _ ∧ ch L (if h : t < m then Classical.choose (hidx t h) else 0) = _
    rw [dif_pos ht]
    exact Classical.choose_spec (hidx t ht)
  refine ⟨fun t => nmAt T L (g t), fun t ht => ?_, fun s t hs ht hlt => ?_, fun s t hs ht he => ?_, fun u hu1 hu2 hu3 => h8 u hu1 hu2 fun a ha e => ?_⟩
  · obtain ⟨g1, g2⟩ := hg t ht
    rw [← g2]
    refine ⟨h7 _ (by omega), nmAt_pos T L _, ?_⟩
    rw [hnm]
    exact nmAt_mono T L (by omega)
  · obtain ⟨g1, g2⟩ := hg s hs
    obtain ⟨g3, g4⟩ := hg t ht
    rw [← g2, ← g4]
    exact nmAt_lt hS g1 g3 hlt
  · obtain ⟨g1, g2⟩ := hg s hs
    obtain ⟨g3, g4⟩ := hg t ht
    rw [← g2, ← g4]
    rcases Nat.le_total (g s) (g t) with hle | hle
    · have := nmAt_eq hS (i := g s) (g t - g s) (by omega)
      rw [show g s + (g t - g s) = g t by omega] at this
      exact this.1 he
    · have := nmAt_eq hS (i := g t) (g s - g t) (by omega)
      rw [show g t + (g s - g t) = g s by omega] at this
      exact (this.1 he.symm).symm
  · have h9 := hS.lms (show a < L.length by omega)
    obtain ⟨t, ht, e2⟩ := List.mem_iff_getElem.1 (lmsF_mem.2 ⟨Nat.zero_le _, h9⟩)
    have e3 : ch (lmsF T 0) t = ch L a := by simp [ch, ht]; simpa [ch] using e2
    exact hu3 t (by omega) (by rw [e3]; exact e)
structure RaF (T : List Nat) (m N : Nat) (f : Nat → Nat) (i j : Nat) (X : List Int) : Prop where
  len : X.length = N
  jm : j ≤ m
  cnt : ∀ t, t < m → (t < j ↔ m + ch (lmsF T 0) t / 2 < i)
  low : ∀ t, t < j → rd X ((m + ch (lmsF T 0) t / 2 : Nat) : Int) = (f t : Nat)
  zero : ∀ u, m ≤ u → u < i → (∀ t, t < m → m + ch (lmsF T 0) t / 2 ≠ u) → rd X (u : Int) = 0
  ra : ∀ t, j ≤ t → t < m → rd X ((N - m + t : Nat) : Int) = (f t : Int) - 1
theorem Nmf.ra {T : List Nat} {m name N : Nat} {f : Nat → Nat} {SA X : List Int} (h : Nmf T m name f SA) (hm : m = (lmsF T 0).length) (hX : X.length = N) (hN : T.length ≤ N) (hx : ∀ u, u < T.length → rd X (u : Int) = rd SA (u : Int)) (h2m : 2 * m ≤ T.length) : RaF T m N f (m + T.length / 2) m X := by
  have hps : ∀ t, t < m → m + ch (lmsF T 0) t / 2 < m + T.length / 2 := fun t ht => by
    have := lms_lt ((lmsL T).at (show t < (lmsF T 0).length by omega))
    omega
  refine ⟨hX, Nat.le_refl _, fun t ht => ⟨fun _ => hps t ht, fun _ => ht⟩, fun t ht => ?_, fun u h1 h2 h3 => ?_, fun t h1 h2 => by omega⟩
  · have := hps t ht
    rw [hx _ (by omega)]; exact (h.at' t ht).1
  · rw [hx _ (by omega)]; exact h.zero u h1 (by omega) h3
theorem RaF.step {T : List Nat} {m name N : Nat} {f : Nat → Nat} {SA X : List Int} (hf : Nmf T m name f SA) (hm : m = (lmsF T 0).length) (h2m : 2 * m ≤ T.length) (hN : T.length ≤ N) {i j : Nat} (hi : m ≤ i) (h : RaF T m N f (i + 1) j X) :
    (rd X (i : Int) = 0 ∧ RaF T m N f i j X) ∨ (rd X (i : Int) ≠ 0 ∧ 0 ≤ rd X (i : Int) ∧ rd X (i : Int) ≤ name ∧ ∃ j', j = j' + 1 ∧ N - m + j' < N ∧ RaF T m N f i j' (wr X ((N - m + j' : Nat) : Int) (rd X (i : Int) - 1))) := by
  by_cases hex : ∃ t, t < m ∧ m + ch (lmsF T 0) t / 2 = i
  · obtain ⟨t, ht, e⟩ := hex
    have htj := (h.cnt t ht).2 (by omega)
    have hjm := h.jm
    have hlast : ∀ s, t < s → s < m → ¬ s < j := fun s hs hsm hsj => by
      have h1 := (h.cnt s hsm).1 hsj
      have h2 := (lmsL T).lt hs (by omega)
      have h3 := half_ne ((lmsL T).at (show t < (lmsF T 0).length by omega)) ((lmsL T).at (show s < (lmsF T 0).length by omega)) (by omega)
      omega
    have hj : j = t + 1 := by
      rcases Nat.lt_or_ge (t + 1) j with h1 | h1
      · exact absurd h1 (hlast (t + 1) (by omega) (by omega))
      · omega
    have hv := h.low t htj
    rw [e] at hv
    have hft := (hf.at' t ht).2
    have hroom := ps_room T (show t < (lmsF T 0).length by omega)
    refine .inr ⟨by omega, by omega, by omega, t, hj, by omega, ?_⟩
    have hle : i ≤ N - m + t := by omega
    have hr : ∀ p : Nat, rd (wr X ((N - m + t : Nat) : Int) (rd X (i : Int) - 1)) (p : Int) = if p = N - m + t then rd X (i : Int) - 1 else rd X p := fun p => rd_wr (by rw [h.len]; omega)
    refine ⟨by rw [wr_length]; exact h.len, by omega, fun s hs => ?_, fun s hs => ?_, fun u h1 h2 h3 => ?_, fun s h1 h2 => ?_⟩
    · have h4 := h.cnt s hs
      by_cases es : s = t
      · subst es; omega
      · have h3 := half_ne ((lmsL T).at (show t < (lmsF T 0).length by omega)) ((lmsL T).at (show s < (lmsF T 0).length by omega)) (by
          rcases Nat.lt_or_gt_of_ne es with k | k
          · have := (lmsL T).lt k (by omega); omega
          · have := (lmsL T).lt k (by omega); omega)
        omega
    · have h4 := (h.cnt s (by omega)).1 (by omega)
      have h5 := (lmsL T).lt hs (by omega)
      have h3 := half_ne ((lmsL T).at (show t < (lmsF T 0).length by omega)) ((lmsL T).at (show s < (lmsF T 0).length by omega)) (by omega)
      rw [hr, if_neg (by omega)]
      exact h.low s (by omega)
    · rw [hr, if_neg (by omega)]; exact h.zero u h1 (by omega) h3
    · rw [hr]
      by_cases es : s = t
      · subst es; rw [if_pos rfl, hv]
      · rw [if_neg (by omega)]; exact h.ra s (by omega) h2
  · have hv := h.zero i hi (by omega) fun t ht e => hex ⟨t, ht, e⟩
    refine .inl ⟨hv, h.len, h.jm, fun t ht => ?_, h.low, fun u h1 h2 => h.zero u h1 (by omega), h.ra⟩
    have h1 := h.cnt t ht
    have h2 : m + ch (lmsF T 0) t / 2 ≠ i := fun e => hex ⟨t, ht, e⟩
    omega
def redT (m : Nat) (f : Nat → Nat) : List Nat := (List.range m).map fun t => f t - 1
theorem redT_len (m : Nat) (f : Nat → Nat) : (redT m f).length = m := by unfold redT; rw [List.length_map, List.length_range]
theorem redT_ch {m : Nat} {f : Nat → Nat} {t : Nat} (ht : t < m) : ch (redT m f) t = f t - 1 := by
  unfold redT ch
  simp [ht]
theorem Nmf.txt {T : List Nat} {m name : Nat} {f : Nat → Nat} {SA : List Int} (h : Nmf T m name f SA) (hm0 : 0 < m) (hm1 : m ≤ 1000) (hn : name < m) : Txt (redT m f) name := by
  have hp := (h.at' 0 hm0).2
  refine ⟨by rw [redT_len]; exact hm0, by rw [redT_len]; exact hm1, by omega, fun y => ?_⟩
  by_cases hy : y < m
  · rw [redT_ch hy]
    have := (h.at' y hy).2
    omega
  · have : ch (redT m f) y = 0 := by
      unfold ch
      rw [List.getD_eq_getElem?_getD, List.getElem?_eq_none (by rw [redT_len]; omega)]
      rfl
    omega
theorem RaF.split {T : List Nat} {m name N : Nat} {f : Nat → Nat} {SA X : List Int} (hf : Nmf T m name f SA) {i : Nat} (h : RaF T m N f i 0 X) (hN : m ≤ N) : X = X.take (N - m) ++ (redT m f).map Nat.cast := by
  have hl := h.len
  have e : X.drop (N - m) = (redT m f).map Nat.cast := by
    refine List.ext_getElem (by rw [List.length_drop, List.length_map, redT_len]; omega) fun t h1 h2 => ?_
    rw [List.length_drop] at h1
    have h3 := h.ra t (Nat.zero_le _) (by omega)
    have h4 := (hf.at' t (by omega)).2
    rw [rd_getElem (by omega)] at h3
    rw [List.getElem_drop, h3, List.getElem_map]
    have h5 : (redT m f)[t]'(by rw [redT_len]; omega) = f t - 1 := by simp [redT]
    rw [h5]
    omega
  rw [← e, List.take_append_drop]
theorem Nmf.sort {T : List Nat} {m name : Nat} {f : Nat → Nat} {SA X : List Int} (h : Nmf T m name f SA) (hm : m = (lmsF T 0).length) (hX : SufA (redT m f) X) :
    SrtS T ((List.range m).map fun i : Nat => ch (lmsF T 0) (rd X (i : Int)).toNat) := by
  have hat : ∀ i, i < m → ∃ v, v < m ∧ rd X (i : Int) = (v : Nat) := fun i hi => by
    obtain ⟨v, hv, e⟩ := hX.at' i (by rw [redT_len]; exact hi)
    rw [redT_len] at hv
    exact ⟨v, hv, e⟩
  have hsl : ∀ i j, i < j → j < m → Sl T (ch (lmsF T 0) (rd X (i : Int)).toNat) (ch (lmsF T 0) (rd X (j : Int)).toNat) := fun i j hij hj => by
    obtain ⟨v, hv, e1⟩ := hat i (by omega)
    obtain ⟨w, hw, e2⟩ := hat j hj
    have h1 := hX.ord i j hij (by rw [redT_len]; exact hj) v w e1 e2
    rw [e1, e2, Int.toNat_natCast, Int.toNat_natCast]
    refine reduce (lmsL T) (by rw [redT_len, hm]) (fun s t hs ht hlt => ?_) (fun s t hs ht he => ?_) _ v w (Nat.le_refl _) (by omega) (by omega) h1
    · rw [redT_ch (by omega), redT_ch (by omega)] at hlt
      exact h.lt s t (by omega) (by omega) (by omega)
    · rw [redT_ch (by omega), redT_ch (by omega)] at he
      have h2 := (h.at' s (by omega)).2
      have h3 := (h.at' t (by omega)).2
      exact h.eq s t (by omega) (by omega) (by omega)
  have hpw : ((List.range m).map fun i : Nat => ch (lmsF T 0) (rd X (i : Int)).toNat).Pairwise (Sl T) := by
    rw [List.pairwise_map, List.pairwise_iff_getElem]
    intro i j hi hj hij
    rw [List.getElem_range, List.getElem_range]
    rw [List.length_range] at hj
    exact hsl i j hij hj
  have hnd : ((List.range m).map fun i : Nat => ch (lmsF T 0) (rd X (i : Int)).toNat).Nodup := List.nodup_iff_pairwise_ne.2 (hpw.imp fun h e => by rw [e] at h; exact sl_irrefl T _ h)
  refine ⟨hpw, fun y => ⟨fun hy => ?_, fun hy => ?_⟩⟩
  · obtain ⟨i, hi, rfl⟩ := List.mem_map.1 hy
    obtain ⟨v, hv, e⟩ := hat i (List.mem_range.1 hi)
    rw [e, Int.toNat_natCast]
    exact (lmsL T).at (by omega)
  ·
    obtain ⟨t, ht, e⟩ := List.mem_iff_getElem.1 (lmsF_mem.2 ⟨Nat.zero_le _, hy⟩)
    have hidn : ((List.range m).map fun i : Nat => (rd X (i : Int)).toNat).Nodup := by
      rw [List.nodup_iff_pairwise_ne, List.pairwise_map]
      rw [List.nodup_iff_pairwise_ne, List.pairwise_map] at hnd
      exact hnd.imp fun h e => h (by rw [e])
    have hmem := all_of_nodup hidn (fun x hx => by
      obtain ⟨i, hi, rfl⟩ := List.mem_map.1 hx
      obtain ⟨v, hv, e⟩ := hat i (List.mem_range.1 hi)
      rw [e, Int.toNat_natCast]; exact hv) (by rw [List.length_map, List.length_range]; exact Nat.le_refl _) (show t < m by omega)
    obtain ⟨i, hi, e2⟩ := List.mem_map.1 hmem
    refine List.mem_map.2 ⟨i, hi, ?_⟩
    rw [e2]
    simp [ch, ht]
    simpa [ch] using e
def RaL (T : List Nat) (m f : Nat) (RA : List Int) : Prop := RA.length = m ∧ ∀ t, m - (lmsF T f).length ≤ t → t < m → rd RA (t : Int) = (ch (lmsF T 0) t : Nat)
theorem lmsF_suffix (T : List Nat) : ∀ (f : Nat), ∃ pre, lmsF T 0 = pre ++ lmsF T f
  | 0 => ⟨[], rfl⟩
  | f + 1 => by
    obtain ⟨pre, h⟩ := lmsF_suffix T f
    by_cases hl : Lms T f
    · exact ⟨pre ++ [f], by rw [h, lmsF_cons hl, List.append_assoc]; rfl⟩
    · exact ⟨pre, by rw [h, lmsF_skip hl]⟩
theorem RaL.step {T : List Nat} {m f e : Nat} {RA : List Int} (hm : m = (lmsF T 0).length) (h : RaL T m f RA) (he : lmsF T e = e :: lmsF T f) : (lmsF T f).length < m ∧ RaL T m e (wr RA ((m - 1 - (lmsF T f).length : Nat) : Int) (e : Nat)) := by
  obtain ⟨pre, hp⟩ := lmsF_suffix T e
  have hl : m = pre.length + (lmsF T f).length + 1 := by rw [hm, hp, he, List.length_append, List.length_cons]; omega
  have hch : ch (lmsF T 0) (m - 1 - (lmsF T f).length) = e := by
    rw [hp, he, show m - 1 - (lmsF T f).length = pre.length by omega]
    unfold ch
    simp
  refine ⟨by omega, by rw [wr_length]; exact h.1, fun t h1 h2 => ?_⟩
  rw [rd_wr (by rw [h.1]; omega)]
  rw [he, List.length_cons] at h1
  by_cases e2 : t = m - 1 - (lmsF T f).length
  · rw [if_pos e2, e2, hch]
  · rw [if_neg e2]; exact h.2 t (by omega) h2
theorem RaL.same {T : List Nat} {m f f' : Nat} {RA : List Int} (h : RaL T m f RA) (hf : lmsF T f' = lmsF T f) : RaL T m f' RA := ⟨h.1, by rw [hf]; exact h.2⟩
end Go.Proofs.Ytcibehgcibojnaa.Sais

namespace Go.Proofs.Ytcibehgcibojnaa.Sai
open Go Go.RowKit Go.Proofs.Ytcibehgcibojnaa.Vm Go.Proofs.Ytcibehgcibojnaa.Sais
structure Fl (fl : Int) (c2 : Bool) : Prop where
  and8 : bitop .and .u64 fl 8 = some 0
  and13 : bitop .and .u64 fl 13 = some 1
  and4 : bitop .and .u64 fl 4 = some 0
  and2 : bitop .and .u64 fl 2 = some (if c2 then 2 else 0)
def Ne (M : Mem) : Prop := ∀ t ∈ M, t.l ≠ []
theorem Ne.cons {s : Sg} {M : Mem} (h : s.l ≠ []) (h2 : Ne M) : Ne (s :: M) := fun t ht => by
  cases ht with
  | head => exact h
  | tail _ ht => exact h2 t ht
structure Lay (n fs k g : Nat) (c2 : Bool) (bS oS bB oB lB : Nat) : Prop where
  own : c2 = true → g = fs
  inn : c2 = false → g + k = fs ∧ bS = bB ∧ oB = oS + (n + g)
  lB : k ≤ lB
def Rec (n : Nat) : Prop := ∀ (T : List Nat) (k fs n' : Nat) (X : List Int) (own : Bool) (bT oT lT cT bS oS lS cS : Nat) (F : Mem), T.length = n' → n' < n → Txt T k → k ≤ 512 → X.length = n' + fs → n' + fs ≤ 1000 → n' ≤ lT → n' + fs ≤ lS → lS ≤ cS → Ne F →
  HC Try.prog 19 #[.slice (some ⟨bT, oT, none⟩) lT cT, .slice (some ⟨bS, oS, none⟩) lS cS, .int .i64 fs, .int .i64 n', .int .i64 k]
    (⟨own, bT, oT, ints .i64 (T.map Nat.cast)⟩ :: ⟨true, bS, oS, ints .i64 X⟩ :: F)
    (fun v M' => v = .tuple #[] ∧ ∃ X' : List Int, X'.length = n' + fs ∧ SufA T X' ∧ Rk M' (⟨own, bT, oT, ints .i64 (T.map Nat.cast)⟩ :: ⟨true, bS, oS, ints .i64 X'⟩ :: F))
theorem rd_left {a b : List Int} {u : Nat} (h : u < a.length) : rd (a ++ b) (u : Int) = rd a (u : Int) := by
  unfold rd
  rw [Int.toNat_natCast, List.getD_eq_getElem?_getD, List.getD_eq_getElem?_getD, List.getElem?_append_left h]
theorem rd_take {a : List Int} {u n : Nat} (h : u < n) : rd (a.take n) (u : Int) = rd a (u : Int) := by
  unfold rd
  rw [Int.toNat_natCast, List.getD_eq_getElem?_getD, List.getD_eq_getElem?_getD, List.getElem?_take_of_lt h]
theorem suf_left {T : List Nat} {a b : List Int} (h : SufA T a) (hl : a.length = T.length) : SufA T (a ++ b) :=
  ⟨fun i hi => by rw [rd_left (by omega)]; exact h.at' i hi, fun i j hij hj => by rw [rd_left (by omega), rd_left (by omega)]; exact h.ord i j hij hj⟩
section
variable {n fs k g : Nat} {c2 : Bool} {bS oS bB oB lB : Nat} {SA R B : List Int} {tr cr : Sg} {F : Mem}
theorem Lay.join (h : Lay n fs k g c2 bS oS bB oB lB) (hS : SA.length = n) (hR : R.length = g) (hB : B.length = k) (ht : tr.l ≠ []) (hc : cr.l ≠ []) (hk : 0 < k) (hF : Ne F) :
    ∃ X : List Int, (∃ r, X = SA ++ r) ∧ X.length = n + fs ∧ Rs (tr :: ⟨true, bS, oS, ints .i64 SA⟩ :: cr :: ⟨true, bB, oB, ints .i64 B⟩ :: ⟨true, bS, oS + n, ints .i64 R⟩ :: F) (⟨true, bS, oS, ints .i64 X⟩ :: tr :: cr :: F) := by
  have hne := Ne.cons ht (Ne.cons hc hF)
  cases c2 with
  | true =>
    have hg := h.own rfl
    refine ⟨SA ++ R, ⟨R, rfl⟩, by rw [List.length_append]; omega, .trans (.of (L := ⟨true, bS, oS, ints .i64 SA⟩ :: ⟨true, bS, oS + n, ints .i64 R⟩ :: tr :: cr :: F) ?_) (.join (ints_append _ _ _) (by rw [ints_length, hS]) hne)⟩
    exact .cons (.tail .head) (.cons (.tail (.tail (.tail .head))) (.cons .head (.cons .head (.drop .rfl))))
  | false =>
    obtain ⟨h1, rfl, h3⟩ := h.inn rfl
    have hnb : Ne (⟨true, bS, oB, ints .i64 B⟩ :: tr :: cr :: F) := Ne.cons (ints_ne (by omega)) hne
    refine ⟨(SA ++ R) ++ B, ⟨R ++ B, by rw [List.append_assoc]⟩, by rw [List.length_append, List.length_append]; omega, .trans (.of (L := ⟨true, bS, oS, ints .i64 SA⟩ :: ⟨true, bS, oS + n, ints .i64 R⟩ :: ⟨true, bS, oB, ints .i64 B⟩ :: tr :: cr :: F) ?_)
      (.trans (.join (ints_append _ _ _) (by rw [ints_length, hS]) hnb) (.join (ints_append _ _ _) (by rw [ints_length, List.length_append]; omega) hne))⟩
    exact .cons (.tail .head) (.cons (.tail (.tail (.tail .head))) (.cons (.tail (.tail .head)) (.cons .head (.cons .head .rfl))))
end
theorem Lay.fin {n fs k g : Nat} {c2 : Bool} {bS oS bB oB lB : Nat} {SA R B : List Int} {tr cr : Sg} {F : Mem} {T : List Nat} (h : Lay n fs k g c2 bS oS bB oB lB) (hn : T.length = n) (hSuf : SufA T SA) (hS : SA.length = n) (hR : R.length = g) (hB : B.length = k) (ht : tr.l ≠ []) (hc : cr.l ≠ []) (hk : 0 < k) (hF : Ne F) :
    ∃ X : List Int, X.length = n + fs ∧ SufA T X ∧ Rs (tr :: ⟨true, bS, oS, ints .i64 SA⟩ :: cr :: ⟨true, bB, oB, ints .i64 B⟩ :: ⟨true, bS, oS + n, ints .i64 R⟩ :: F) (tr :: ⟨true, bS, oS, ints .i64 X⟩ :: F) := by
  obtain ⟨X, ⟨r, rfl⟩, h2, h3⟩ := h.join hS hR hB ht hc hk hF
  exact ⟨_, h2, suf_left hSuf (by omega), h3.trans (.of (.cons (.tail .head) (.cons .head (.drop .rfl))))⟩
end Go.Proofs.Ytcibehgcibojnaa.Sai
