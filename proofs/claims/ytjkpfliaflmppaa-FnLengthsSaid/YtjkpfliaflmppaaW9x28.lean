/- spec.Whole and spec.Canonical, walked. laws.FnLengths, walked: it is true, for any counts. -/
import Derived.Test.YtjkpfliaflmppaaW9x17
import Derived.Test.YtjkpfliaflmppaaW9x05
import Derived.Test.YtjkpfliaflmppaaW9x10
import Derived.Test.YtjkpfliaflmppaaW9x20
import Derived.Test.YtjkpfliaflmppaaW9x21
import Derived.Test.YtjkpfliaflmppaaW9x22
import Derived.Test.YtjkpfliaflmppaaW9x23
import Derived.Test.YtjkpfliaflmppaaW9x27

namespace Go.Proofs.Ytjkpfliaflmppaa.Pc
open Go Go.RowKit Go.Proofs.Ytjkpfliaflmppaa.Vm Go.Proofs.Ytjkpfliaflmppaa.Rev

open Classical in
theorem whole_c (l : List Cd) (b cap : Nat) (own : Bool) (sp : List Value) (M : Mem) (hm : (⟨own, b, 0, codesV l ++ sp⟩ : Sg) ∈ M) (hlen : ∀ c ∈ l, 1 ≤ c.len ∧ c.len ≤ 20) (h60 : l.length ≤ 60) :
    HP Try.prog 15 #[.slice (some ⟨b, 0, none⟩) l.length cap] M (.bool (decide (whole l))) := by
  refine HP.of (HC_of_W (fn := Try.f15) Try.func15 rfl rfl rfl rfl ?_)
  repeat' (first | (refine isO ?_; first | refine oo (Pc rfl) ?_ | refine oo (Pa rfl (by omega) (by omega)) ?_ | (refine ob rfl ?_ ?_ <;> intro hq <;> try (exfalso; omega)) | refine oo (Pi rfl (by omega)) ?_ | refine oo (Pl rfl) ?_ | refine oo (Px rfl rfl) ?_ | refine oo (Pj rfl (by omega) (by omega)) ?_ | refine oo (Pk rfl (by omega) (by omega)) ?_ | refine oo (Pf rfl) ?_ | refine oo (Pv rfl (by omega) (by omega)) ?_ | refine oo (Pn rfl) ?_ | refine oo (Pm rfl) ?_ | refine os rfl rfl ?_ | refine ot rfl (by omega) ?_ | refine O_nil ?_) | refine wo rfl ?_ | refine wc rfl ?_ | refine wg rfl ?_ | refine go rfl ?_ | refine gc rfl ?_ | refine gg rfl ?_)
  refine O_callP rfl rfl Tb.k44 trivial rfl (kraft_c l b cap own sp M hm hlen h60) ?_
  refine O_pure (P_cmp rfl rfl rfl) trivial rfl ?_
  repeat' (first | (refine isO ?_; first | refine oo (Pc rfl) ?_ | refine oo (Pa rfl (by omega) (by omega)) ?_ | (refine ob rfl ?_ ?_ <;> intro hq <;> try (exfalso; omega)) | refine oo (Pi rfl (by omega)) ?_ | refine oo (Pl rfl) ?_ | refine oo (Px rfl rfl) ?_ | refine oo (Pj rfl (by omega) (by omega)) ?_ | refine oo (Pk rfl (by omega) (by omega)) ?_ | refine oo (Pf rfl) ?_ | refine oo (Pv rfl (by omega) (by omega)) ?_ | refine oo (Pn rfl) ?_ | refine oo (Pm rfl) ?_ | refine os rfl rfl ?_ | refine ot rfl (by omega) ?_ | refine O_nil ?_) | refine wo rfl ?_ | refine wc rfl ?_ | refine wg rfl ?_ | refine go rfl ?_ | refine gc rfl ?_ | refine gg rfl ?_)
  refine G_fin ⟨_, rfl, congrArg Value.bool ?_⟩
  have h := ks_kr l (fun c hc => (hlen c hc).2)
  have h20 : (2:Nat) ^ 20 = 1048576 := by decide
  unfold whole
  rw [← h, h20]
  by_cases hk : ks l = 1048576
  · simp [hk]
  · have : ¬ ((ks l : Nat) : Int) = 1048576 := by omega
    simp [hk, this]

/-- The codes on the way: those of less than n bits, and those of n bits up to place i, have their values. -/
def canonUp (l : List Cd) (n i : Nat) : List Cd := (List.range l.length).map fun j => if (l.getD j Cd.zero).len < n ∨ ((l.getD j Cd.zero).len = n ∧ j < i) then { l.getD j Cd.zero with val := valAt l j } else l.getD j Cd.zero
theorem canonUp_length (l : List Cd) (n i : Nat) : (canonUp l n i).length = l.length := by simp [canonUp]
theorem canonUp_get (l : List Cd) (n i j : Nat) (h : j < l.length) : (canonUp l n i).getD j Cd.zero = if (l.getD j Cd.zero).len < n ∨ ((l.getD j Cd.zero).len = n ∧ j < i) then { l.getD j Cd.zero with val := valAt l j } else l.getD j Cd.zero := by
  simp [canonUp, h]
theorem cds_ext {l m : List Cd} (h : l.length = m.length) (h2 : ∀ j, j < l.length → l.getD j Cd.zero = m.getD j Cd.zero) : l = m := by
  apply List.ext_getElem h
  intro j h3 h4
  have := h2 j h3
  simpa [h3, h4] using this
theorem canonUp_lenAt (l : List Cd) (n i j : Nat) (h : j < l.length) : ((canonUp l n i).getD j Cd.zero).len = (l.getD j Cd.zero).len := by
  rw [canonUp_get l n i j h]; split <;> rfl
theorem canonUp_set (l : List Cd) (n i : Nat) (h : i < l.length) (hn : (l.getD i Cd.zero).len = n) : (canonUp l n i).set i { (canonUp l n i).getD i Cd.zero with val := valAt l i } = canonUp l n (i + 1) := by
  refine cds_ext (by simp [canonUp_length]) fun j hj => ?_
  have hj' : j < l.length := by simpa [canonUp_length] using hj
  rw [canonUp_get l n (i + 1) j hj']
  by_cases hij : i = j
  · subst hij
    have : i < (canonUp l n i).length := by rw [canonUp_length]; exact h
    simp only [List.getD_eq_getElem?_getD, List.getElem?_set_self this, Option.getD_some]
    rw [← List.getD_eq_getElem?_getD, ← List.getD_eq_getElem?_getD, canonUp_get l n i i h]
    rw [if_pos (show (l.getD i Cd.zero).len < n ∨ ((l.getD i Cd.zero).len = n ∧ i < i + 1) from .inr ⟨hn, by omega⟩), if_neg (by omega)]
  · have e : ((canonUp l n i).set i { (canonUp l n i).getD i Cd.zero with val := valAt l i }).getD j Cd.zero = (canonUp l n i).getD j Cd.zero := by
      simp only [List.getD_eq_getElem?_getD, List.getElem?_set_ne hij]
    rw [e, canonUp_get l n i j hj']
    have : ((l.getD j Cd.zero).len < n ∨ ((l.getD j Cd.zero).len = n ∧ j < i)) ↔ ((l.getD j Cd.zero).len < n ∨ ((l.getD j Cd.zero).len = n ∧ j < i + 1)) := by omega
    simp only [this]
theorem canonUp_skip (l : List Cd) (n i : Nat) (hn : (l.getD i Cd.zero).len ≠ n) : canonUp l n i = canonUp l n (i + 1) := by
  refine cds_ext (by simp [canonUp_length]) fun j hj => ?_
  have hj' : j < l.length := by simpa [canonUp_length] using hj
  rw [canonUp_get l n i j hj', canonUp_get l n (i + 1) j hj']
  have : ((l.getD j Cd.zero).len < n ∨ ((l.getD j Cd.zero).len = n ∧ j < i)) ↔ ((l.getD j Cd.zero).len < n ∨ ((l.getD j Cd.zero).len = n ∧ j < i + 1)) := by
    by_cases hij : j = i
    · subst hij; omega
    · omega
  simp only [this]
theorem canonUp_next (l : List Cd) (n : Nat) : canonUp l n l.length = canonUp l (n + 1) 0 := by
  refine cds_ext (by simp [canonUp_length]) fun j hj => ?_
  have hj' : j < l.length := by simpa [canonUp_length] using hj
  rw [canonUp_get l n _ j hj', canonUp_get l (n + 1) 0 j hj']
  have : ((l.getD j Cd.zero).len < n ∨ ((l.getD j Cd.zero).len = n ∧ j < l.length)) ↔ ((l.getD j Cd.zero).len < n + 1 ∨ ((l.getD j Cd.zero).len = n + 1 ∧ j < 0)) := by omega
  simp only [this]
theorem getD_mem (l : List Cd) (j : Nat) (h : j < l.length) : l.getD j Cd.zero ∈ l := by
  rw [show l.getD j Cd.zero = l[j] by simp [h]]
  exact List.getElem_mem _
theorem canonUp_first (l : List Cd) (h : ∀ c ∈ l, 1 ≤ c.len) : canonUp l 1 0 = l := by
  refine cds_ext (canonUp_length l 1 0) fun j hj => ?_
  have hj' : j < l.length := by simpa [canonUp_length] using hj
  rw [canonUp_get l 1 0 j hj', if_neg]
  have := h _ (getD_mem l j hj')
  omega
theorem canonUp_last (l : List Cd) (h : ∀ c ∈ l, c.len ≤ 20) : canonUp l 21 0 = canon l := by
  refine cds_ext (by rw [canonUp_length, canon_length]) fun j hj => ?_
  have hj' : j < l.length := by simpa [canonUp_length] using hj
  rw [canonUp_get l 21 0 j hj', canon_get l j hj', if_pos]
  have := h _ (getD_mem l j hj')
  omega

theorem cntL_take_succ (l : List Cd) (i n : Nat) (h : i < l.length) : cntL (l.take (i + 1)) n = cntL (l.take i) n + (if (l.getD i Cd.zero).len = n then 1 else 0) := by
  rw [take_succ_getD l i h, cntL_append, cntL_cons, cntL_nil, Nat.add_zero]

theorem row23_0 (w : World) : (Instr.buildSlice 23 0 [].toArray).run Try.prog w = .ok (.slice (some ⟨w.heap.size, 0, none⟩) 0 0) (w.alloc (.cells [].toArray 42)) := by kernel_rfl

theorem canonical_c (l : List Cd) (hG : Good l) (own : Bool) (b cap : Nat) (sp : List Value) (F : Mem) :
    HC Try.prog 17 #[.slice (some ⟨b, 0, none⟩) l.length cap] (⟨own, b, 0, codesV l ++ sp⟩ :: F)
      (fun v M' => ∃ b' c' sp', v = .slice (some ⟨b', 0, none⟩) l.length c' ∧ Rk M' (⟨true, b', 0, codesV (canon l) ++ sp'⟩ :: ⟨own, b, 0, codesV l⟩ :: F)) := by
  obtain ⟨I, hI, hI1, hI2, hI3⟩ := of_info info42
  have h2 := hG.two
  have h60 := hG.most
  refine HC_of_W (fn := Try.f17) Try.func17 rfl rfl rfl rfl ?_
  repeat' (first | (refine isO ?_; first | refine oo (Pc rfl) ?_ | refine oo (Pa rfl (by omega) (by omega)) ?_ | (refine ob rfl ?_ ?_ <;> intro hq <;> try (exfalso; omega)) | refine oo (Pi rfl (by omega)) ?_ | refine oo (Pl rfl) ?_ | refine oo (Px rfl rfl) ?_ | refine oo (Pj rfl (by omega) (by omega)) ?_ | refine oo (Pk rfl (by omega) (by omega)) ?_ | refine oo (Pf rfl) ?_ | refine oo (Pv rfl (by omega) (by omega)) ?_ | refine oo (Pn rfl) ?_ | refine oo (Pm rfl) ?_ | refine os rfl rfl ?_ | refine ot rfl (by omega) ?_ | refine O_nil ?_) | refine wo rfl ?_ | refine wc rfl ?_ | refine wg rfl ?_ | refine go rfl ?_ | refine gc rfl ?_ | refine gg rfl ?_)
  refine O_split (xs := codesV l) (ys := sp) (o2 := 0 + (codesV l).length) rfl rfl ?_
  refine O_weak (M' := ⟨own, b, 0, codesV l⟩ :: F) (.cons .head (.drop .rfl)) ?_
  refine O_buildSlice rfl row23_0 trivial rfl fun bz => ?_
  repeat' (first | (refine isO ?_; first | refine oo (Pc rfl) ?_ | refine oo (Pa rfl (by omega) (by omega)) ?_ | (refine ob rfl ?_ ?_ <;> intro hq <;> try (exfalso; omega)) | refine oo (Pi rfl (by omega)) ?_ | refine oo (Pl rfl) ?_ | refine oo (Px rfl rfl) ?_ | refine oo (Pj rfl (by omega) (by omega)) ?_ | refine oo (Pk rfl (by omega) (by omega)) ?_ | refine oo (Pf rfl) ?_ | refine oo (Pv rfl (by omega) (by omega)) ?_ | refine oo (Pn rfl) ?_ | refine oo (Pm rfl) ?_ | refine os rfl rfl ?_ | refine ot rfl (by omega) ?_ | refine O_nil ?_) | refine wo rfl ?_ | refine wc rfl ?_ | refine wg rfl ?_ | refine go rfl ?_ | refine gc rfl ?_ | refine gg rfl ?_)
  refine O_append (len := 0) (size := 4) (xs := []) (m := [⟨true, bz, 0, []⟩]) (M0 := ⟨own, b, 0, codesV l⟩ :: F) Tb.u23 Tb.u23 hI hI1 (by decide) (by omega) hI3 rfl rfl rfl (.inr ⟨bz, 0, 0, [], rfl, rfl, rfl, rfl⟩) .rfl rfl (.head _) (by rw [codesV_length]; omega) (codesV_one l) (.inl (by omega)) (by rw [hI2]; omega) trivial rfl fun b2 c2 s2 hlen => ?_
  have e : [] ++ List.take (l.length * 4) (codesV l) ++ s2 = codesV l ++ s2 := by
    rw [List.nil_append, ← codesV_length, List.take_length]
  refine O_weak (M' := ⟨true, b2, 0, codesV l ++ s2⟩ :: ⟨own, b, 0, codesV l⟩ :: F) (by rw [e]; exact .rfl) ?_
  clear e hlen
  rw [Nat.zero_add]
  have hkr : ∀ n, n ≤ 20 → kr l n < 2 ^ 31 := fun n hn => by
    have h1 := kr_le l n
    have h3 : l.length * 2 ^ n ≤ 60 * 2 ^ 20 := Nat.mul_le_mul h60 (Nat.pow_le_pow_right (by omega) hn)
    omega
  repeat' (first | (refine isO ?_; first | refine oo (Pc rfl) ?_ | refine oo (Pa rfl (by omega) (by omega)) ?_ | (refine ob rfl ?_ ?_ <;> intro hq <;> try (exfalso; omega)) | refine oo (Pi rfl (by omega)) ?_ | refine oo (Pl rfl) ?_ | refine oo (Px rfl rfl) ?_ | refine oo (Pj rfl (by omega) (by omega)) ?_ | refine oo (Pk rfl (by omega) (by omega)) ?_ | refine oo (Pf rfl) ?_ | refine oo (Pv rfl (by omega) (by omega)) ?_ | refine oo (Pn rfl) ?_ | refine oo (Pm rfl) ?_ | refine os rfl rfl ?_ | refine ot rfl (by omega) ?_ | refine O_nil ?_) | refine wo rfl ?_ | refine wc rfl ?_ | refine wg rfl ?_ | refine go rfl ?_ | refine gc rfl ?_ | refine gg rfl ?_)
  refine W_loop (α := Nat) (fun n => [(3, .slice (some ⟨b2, 0, none⟩) l.length c2), (4, .int .u32 (kr l (n - 1) : Nat)), (5, .int .u32 n)])
    (fun n => ⟨true, b2, 0, codesV (canonUp l n 0) ++ s2⟩ :: ⟨own, b, 0, codesV l⟩ :: F) (fun n => 1 ≤ n ∧ n ≤ 21) (fun n => 21 - n) 1 ⟨by omega, by omega⟩ ⟨rfl, by rw [kr_below l 1 (1 - 1) (fun c hc => (hG.len c hc).1) (by omega)]; rfl, rfl, trivial⟩ ?_ ?_
  · try dsimp only
    rw [canonUp_first l (fun c hc => (hG.len c hc).1)]
    exact .rfl
  rintro n ⟨hn1, hn2⟩
  try dsimp only
  repeat' (first | (refine isO ?_; first | refine oo (Pc rfl) ?_ | refine oo (Pa rfl (by omega) (by omega)) ?_ | (refine ob rfl ?_ ?_ <;> intro hq <;> try (exfalso; omega)) | refine oo (Pi rfl (by omega)) ?_ | refine oo (Pl rfl) ?_ | refine oo (Px rfl rfl) ?_ | refine oo (Pj rfl (by omega) (by omega)) ?_ | refine oo (Pk rfl (by omega) (by omega)) ?_ | refine oo (Pf rfl) ?_ | refine oo (Pv rfl (by omega) (by omega)) ?_ | refine oo (Pn rfl) ?_ | refine oo (Pm rfl) ?_ | refine os rfl rfl ?_ | refine ot rfl (by omega) ?_ | refine O_nil ?_) | refine wo rfl ?_ | refine wc rfl ?_ | refine wg rfl ?_ | refine go rfl ?_ | refine gc rfl ?_ | refine gg rfl ?_)
  · obtain ⟨j, rfl⟩ : ∃ j, n = j + 1 := ⟨n - 1, by omega⟩
    have hst : kr l j * 2 = st l (j + 1) := by simp only [st, st_kr]; omega
    have hk1 := hkr j (by omega)
    have hk2 := hkr (j + 1) (by omega)
    have hk3 := st_kr l (j + 1)
    refine O_pure (P_shlE (p := kr l j) (q := 1) (r := st l (j + 1)) rfl rfl rfl (by rw [Nat.pow_one, hst]; exact Nat.mod_eq_of_lt (by simp only [IntKind.bits]; omega))) trivial rfl ?_
    repeat' (first | (refine isO ?_; first | refine oo (Pc rfl) ?_ | refine oo (Pa rfl (by omega) (by omega)) ?_ | (refine ob rfl ?_ ?_ <;> intro hq <;> try (exfalso; omega)) | refine oo (Pi rfl (by omega)) ?_ | refine oo (Pl rfl) ?_ | refine oo (Px rfl rfl) ?_ | refine oo (Pj rfl (by omega) (by omega)) ?_ | refine oo (Pk rfl (by omega) (by omega)) ?_ | refine oo (Pf rfl) ?_ | refine oo (Pv rfl (by omega) (by omega)) ?_ | refine oo (Pn rfl) ?_ | refine oo (Pm rfl) ?_ | refine os rfl rfl ?_ | refine ot rfl (by omega) ?_ | refine O_nil ?_) | refine wo rfl ?_ | refine wc rfl ?_ | refine wg rfl ?_ | refine go rfl ?_ | refine gc rfl ?_ | refine gg rfl ?_)
    refine W_loop (α := Nat) (fun i => [(3, .slice (some ⟨b2, 0, none⟩) l.length c2), (4, .int .u32 (st l (j + 1) + cntL (l.take i) (j + 1) : Nat)), (5, .int .u32 (j + 1 : Nat)), (6, .int .i64 i)])
      (fun i => ⟨true, b2, 0, codesV (canonUp l (j + 1) i) ++ s2⟩ :: ⟨own, b, 0, codesV l⟩ :: F) (fun i => i ≤ l.length) (fun i => l.length - i) 0 (by omega) ⟨rfl, rfl, rfl, rfl, trivial⟩ .rfl ?_
    intro i hi
    try dsimp only
    repeat' (first | (refine isO ?_; first | refine oo (Pc rfl) ?_ | refine oo (Pa rfl (by omega) (by omega)) ?_ | (refine ob rfl ?_ ?_ <;> intro hq <;> try (exfalso; omega)) | refine oo (Pi rfl (by omega)) ?_ | refine oo (Pl rfl) ?_ | refine oo (Px rfl rfl) ?_ | refine oo (Pj rfl (by omega) (by omega)) ?_ | refine oo (Pk rfl (by omega) (by omega)) ?_ | refine oo (Pf rfl) ?_ | refine oo (Pv rfl (by omega) (by omega)) ?_ | refine oo (Pn rfl) ?_ | refine oo (Pm rfl) ?_ | refine os rfl rfl ?_ | refine ot rfl (by omega) ?_ | refine O_nil ?_) | refine wo rfl ?_ | refine wc rfl ?_ | refine wg rfl ?_ | refine go rfl ?_ | refine gc rfl ?_ | refine gg rfl ?_)
    · have hil : i < l.length := by omega
      have hget : (codesV (canonUp l (j + 1) i) ++ s2)[i * 4 + 2]? = some (.int .u32 (l.getD i Cd.zero).len) := by
        rw [← canonUp_lenAt l (j + 1) i i hil]
        exact codesV_get (canonUp l (j + 1) i) s2 i 2 (by rw [canonUp_length]; exact hil) (by omega)
      have hcnt := cntL_take_succ l i (j + 1) hil
      have hcl : cntL (l.take i) (j + 1) ≤ 60 := Nat.le_trans (cntL_le _ _) (by simp; omega)
      refine O_pure (P_loadAt (o := 0) (n := i * 4 + 2) Tb.p40 rfl (by omega) (.head _) hget) trivial rfl ?_
      repeat' (first | (refine isO ?_; first | refine oo (Pc rfl) ?_ | refine oo (Pa rfl (by omega) (by omega)) ?_ | (refine ob rfl ?_ ?_ <;> intro hq <;> try (exfalso; omega)) | refine oo (Pi rfl (by omega)) ?_ | refine oo (Pl rfl) ?_ | refine oo (Px rfl rfl) ?_ | refine oo (Pj rfl (by omega) (by omega)) ?_ | refine oo (Pk rfl (by omega) (by omega)) ?_ | refine oo (Pf rfl) ?_ | refine oo (Pv rfl (by omega) (by omega)) ?_ | refine oo (Pn rfl) ?_ | refine oo (Pm rfl) ?_ | refine os rfl rfl ?_ | refine ot rfl (by omega) ?_ | refine O_nil ?_) | refine wo rfl ?_ | refine wc rfl ?_ | refine wg rfl ?_ | refine go rfl ?_ | refine gc rfl ?_ | refine gg rfl ?_)
      · have hle : (l.getD i Cd.zero).len = j + 1 := Int.ofNat.inj hq
        rw [if_pos hle] at hcnt
        refine O_callP rfl rfl Tb.k45 trivial rfl (turned_c (st l (j + 1) + cntL (l.take i) (j + 1)) (j + 1) (by omega) (by omega) _) ?_
        repeat' (first | (refine isO ?_; first | refine oo (Pc rfl) ?_ | refine oo (Pa rfl (by omega) (by omega)) ?_ | (refine ob rfl ?_ ?_ <;> intro hq <;> try (exfalso; omega)) | refine oo (Pi rfl (by omega)) ?_ | refine oo (Pl rfl) ?_ | refine oo (Px rfl rfl) ?_ | refine oo (Pj rfl (by omega) (by omega)) ?_ | refine oo (Pk rfl (by omega) (by omega)) ?_ | refine oo (Pf rfl) ?_ | refine oo (Pv rfl (by omega) (by omega)) ?_ | refine oo (Pn rfl) ?_ | refine oo (Pm rfl) ?_ | refine os rfl rfl ?_ | refine ot rfl (by omega) ?_ | refine O_nil ?_) | refine wo rfl ?_ | refine wc rfl ?_ | refine wg rfl ?_ | refine go rfl ?_ | refine gc rfl ?_ | refine gg rfl ?_)
        have hval : valAt l i = T (j + 1) (st l (j + 1) + cntL (l.take i) (j + 1)) := by unfold valAt; rw [hle]
        refine O_storeAt (o := 0) (n := i * 4 + 3) (l := codesV (canonUp l (j + 1) i) ++ s2) Tb.c40 rfl (by omega) rfl rfl trivial (by rw [List.length_append, codesV_length, canonUp_length]; omega)
          ((codesV_set (canonUp l (j + 1) i) s2 i (by rw [canonUp_length]; exact hil) (T (j + 1) (st l (j + 1) + cntL (l.take i) (j + 1)))).trans (by rw [← hval, canonUp_set l (j + 1) i hil hle])) .head ?_
        repeat' (first | (refine isO ?_; first | refine oo (Pc rfl) ?_ | refine oo (Pa rfl (by omega) (by omega)) ?_ | (refine ob rfl ?_ ?_ <;> intro hq <;> try (exfalso; omega)) | refine oo (Pi rfl (by omega)) ?_ | refine oo (Pl rfl) ?_ | refine oo (Px rfl rfl) ?_ | refine oo (Pj rfl (by omega) (by omega)) ?_ | refine oo (Pk rfl (by omega) (by omega)) ?_ | refine oo (Pf rfl) ?_ | refine oo (Pv rfl (by omega) (by omega)) ?_ | refine oo (Pn rfl) ?_ | refine oo (Pm rfl) ?_ | refine os rfl rfl ?_ | refine ot rfl (by omega) ?_ | refine O_nil ?_) | refine wo rfl ?_ | refine wc rfl ?_ | refine wg rfl ?_ | refine go rfl ?_ | refine gc rfl ?_ | refine gg rfl ?_)
        exact G_stop ⟨i + 1, by omega, by omega, ⟨rfl, by rw [hcnt]; rfl, rfl, rfl, trivial⟩, .rfl⟩
      · have hle : (l.getD i Cd.zero).len ≠ j + 1 := fun h => hq (congrArg Nat.cast h)
        rw [if_neg hle] at hcnt
        refine G_stop ⟨i + 1, by omega, by omega, ⟨rfl, by rw [hcnt]; rfl, rfl, rfl, trivial⟩, ?_⟩
        rw [← canonUp_skip l (j + 1) i hle]
        exact .rfl
    · obtain rfl : i = l.length := by omega
      refine G_stop ⟨j + 1 + 1, ⟨by omega, by omega⟩, by omega, ⟨rfl, ?_, rfl, trivial⟩, ?_⟩
      · rw [Nat.add_sub_cancel, ← hk3, List.take_length]; rfl
      · rw [canonUp_next]; exact .rfl
  · obtain rfl : n = 21 := by omega
    refine G_fin ⟨_, rfl, b2, c2, s2, rfl, ?_⟩
    rw [canonUp_last l (fun c hc => (hG.len c hc).2)]
    exact .rfl
end Go.Proofs.Ytjkpfliaflmppaa.Pc

namespace Go.Proofs.Ytjkpfliaflmppaa.Hu
open Go Go.RowKit Go.Proofs.Ytjkpfliaflmppaa.Vm Go.Proofs.Ytjkpfliaflmppaa.Pc

theorem own_u32 {v : Value} {c : List Nat} {m : Mem} (h : Own v 1 (ints .u32 (c.map Nat.cast)) m) (h0 : 0 < c.length) : ∃ b cap sp, v = .slice (some ⟨b, 0, none⟩) c.length cap ∧ m = [⟨true, b, 0, ints .u32 (c.map Nat.cast) ++ sp⟩] := by
  rcases h with ⟨rfl, he, rfl⟩ | ⟨b, n, cp, sp, rfl, rfl, hl, hc⟩
  · have := congrArg List.length he
    rw [ints_length, List.length_map] at this
    simp only [List.length_nil] at this
    omega
  · rw [ints_length, List.length_map, Nat.mul_one] at hl
    subst hl
    exact ⟨b, cp, sp, rfl, rfl⟩
set_option maxRecDepth 10000 in
set_option maxHeartbeats 4000000 in
theorem law9_c (s0 : Value) (xs : List Nat) (t : Nat) (M : Mem) (hs : Ws s0 xs M) (ht : t < 256) :
    HC Try.prog 9 #[s0, .int .u8 t] M (fun r M' => r = .bool true ∧ Rk M' M) := by
  obtain ⟨a0, c0, e⟩ : ∃ a c, s0 = .slice a xs.length c := ⟨_, _, hs.2.choose_spec.choose_spec.1⟩
  subst e
  refine HC_of_W (fn := Try.f9) Try.func9 rfl rfl rfl rfl ?_
  repeat' (first | (refine isO ?_; first | refine oo (Pc rfl) ?_ | refine oo (Pa rfl (by omega) (by omega)) ?_ | (refine ob rfl ?_ ?_ <;> intro hq <;> try (exfalso; omega)) | refine oo (Pi rfl (by omega)) ?_ | refine oo (Pl rfl) ?_ | refine oo (Px rfl rfl) ?_ | refine oo (Pj rfl (by omega) (by omega)) ?_ | refine oo (Pk rfl (by omega) (by omega)) ?_ | refine oo (Pf rfl) ?_ | refine oo (Pv rfl (by omega) (by omega)) ?_ | refine oo (Pn rfl) ?_ | refine oo (Pm rfl) ?_ | refine os rfl rfl ?_ | refine ot rfl (by omega) ?_ | refine O_nil ?_) | refine wo rfl ?_ | refine wc rfl ?_ | refine wg rfl ?_ | refine go rfl ?_ | refine gc rfl ?_ | refine gg rfl ?_)
  · exact G_fin ⟨_, rfl, rfl, .rfl⟩
  refine O_call rfl rfl Tb.k29 trivial rfl (counted_c _ xs M hs) ?_
  rintro _ M' (⟨h2, h60, l, sv, m, wv, m2, hll, hup, hall, hown, hown2, rfl, hrk⟩ | ⟨rfl, hrk⟩)
  · refine O_weak hrk ?_
    clear hrk
    obtain ⟨b, cap, sp, rfl, rfl⟩ := own_row hown (by omega)
    have hcl : (l.map Cd.cnt).length = l.length := List.length_map ..
    obtain ⟨wb, wcap, wsp, rfl, rfl⟩ := own_u32 hown2 (by omega)
    have hC : ∀ x ∈ l.map Cd.cnt, x ≤ 16777215 := by
      intro x hx
      obtain ⟨c, hc, rfl⟩ := List.mem_map.1 hx
      exact hall c hc
    repeat' (first | (refine isO ?_; first | refine oo (Pc rfl) ?_ | refine oo (Pa rfl (by omega) (by omega)) ?_ | (refine ob rfl ?_ ?_ <;> intro hq <;> try (exfalso; omega)) | refine oo (Pi rfl (by omega)) ?_ | refine oo (Pl rfl) ?_ | refine oo (Px rfl rfl) ?_ | refine oo (Pj rfl (by omega) (by omega)) ?_ | refine oo (Pk rfl (by omega) (by omega)) ?_ | refine oo (Pf rfl) ?_ | refine oo (Pv rfl (by omega) (by omega)) ?_ | refine oo (Pn rfl) ?_ | refine oo (Pm rfl) ?_ | refine os rfl rfl ?_ | refine ot rfl (by omega) ?_ | refine O_nil ?_) | refine wo rfl ?_ | refine wc rfl ?_ | refine wg rfl ?_ | refine go rfl ?_ | refine gc rfl ?_ | refine gg rfl ?_)
    iterate 2 (· (refine O_call rfl rfl Tb.k13 trivial rfl (awake_c _) ?_; rintro v M' ⟨rfl, hrk⟩; refine O_weak hrk ?_; clear hrk; (repeat' (first | (refine isO ?_; first | refine oo (Pc rfl) ?_ | refine oo (Pa rfl (by omega) (by omega)) ?_ | (refine ob rfl ?_ ?_ <;> intro hq <;> try (exfalso; omega)) | refine oo (Pi rfl (by omega)) ?_ | refine oo (Pl rfl) ?_ | refine oo (Px rfl rfl) ?_ | refine oo (Pj rfl (by omega) (by omega)) ?_ | refine oo (Pk rfl (by omega) (by omega)) ?_ | refine oo (Pf rfl) ?_ | refine oo (Pv rfl (by omega) (by omega)) ?_ | refine oo (Pn rfl) ?_ | refine oo (Pm rfl) ?_ | refine os rfl rfl ?_ | refine ot rfl (by omega) ?_ | refine O_nil ?_) | refine wo rfl ?_ | refine wc rfl ?_ | refine wg rfl ?_ | refine go rfl ?_ | refine gc rfl ?_ | refine gg rfl ?_))); exact G_fin ⟨_, rfl, rfl, .drop (.drop .rfl)⟩)
    refine O_pure (P_one_shl rfl rfl (by omega)) (by first | exact trivial | exact ⟨_, rfl, rfl⟩) rfl ?_
    repeat' (first | (refine isO ?_; first | refine oo (Pc rfl) ?_ | refine oo (Pa rfl (by omega) (by omega)) ?_ | (refine ob rfl ?_ ?_ <;> intro hq <;> try (exfalso; omega)) | refine oo (Pi rfl (by omega)) ?_ | refine oo (Pl rfl) ?_ | refine oo (Px rfl rfl) ?_ | refine oo (Pj rfl (by omega) (by omega)) ?_ | refine oo (Pk rfl (by omega) (by omega)) ?_ | refine oo (Pf rfl) ?_ | refine oo (Pv rfl (by omega) (by omega)) ?_ | refine oo (Pn rfl) ?_ | refine oo (Pm rfl) ?_ | refine os rfl rfl ?_ | refine ot rfl (by omega) ?_ | refine O_nil ?_) | refine wo rfl ?_ | refine wc rfl ?_ | refine wg rfl ?_ | refine go rfl ?_ | refine gc rfl ?_ | refine gg rfl ?_)
    · (refine O_call rfl rfl Tb.k13 trivial rfl (awake_c _) ?_; rintro v M' ⟨rfl, hrk⟩; refine O_weak hrk ?_; clear hrk; (repeat' (first | (refine isO ?_; first | refine oo (Pc rfl) ?_ | refine oo (Pa rfl (by omega) (by omega)) ?_ | (refine ob rfl ?_ ?_ <;> intro hq <;> try (exfalso; omega)) | refine oo (Pi rfl (by omega)) ?_ | refine oo (Pl rfl) ?_ | refine oo (Px rfl rfl) ?_ | refine oo (Pj rfl (by omega) (by omega)) ?_ | refine oo (Pk rfl (by omega) (by omega)) ?_ | refine oo (Pf rfl) ?_ | refine oo (Pv rfl (by omega) (by omega)) ?_ | refine oo (Pn rfl) ?_ | refine oo (Pm rfl) ?_ | refine os rfl rfl ?_ | refine ot rfl (by omega) ?_ | refine O_nil ?_) | refine wo rfl ?_ | refine wc rfl ?_ | refine wg rfl ?_ | refine go rfl ?_ | refine gc rfl ?_ | refine gg rfl ?_)))
      exact G_fin ⟨_, rfl, rfl, .drop (.drop .rfl)⟩
    refine O_call rfl rfl Tb.k27 trivial rfl (lengths27_c l t (by omega) (by omega) (fun c hc => by have := hall c hc; omega) (by omega) (by omega) true b cap sp _) ?_
    rintro _ M' (⟨ha, ds, sv, m2, hl, hown2, rfl, hrk⟩ | ⟨hno, rfl, hrk⟩)
    · have hdl : ds.length = l.length := hl.same.1
      have ht20 : t ≤ 20 := by omega
      obtain ⟨gb, gcap, gsp, rfl, rfl⟩ := own_row hown2 (by omega)
      refine O_weak hrk ?_
      clear hrk
      refine O_weak (M' := ⟨true, gb, 0, codesV ds ++ gsp⟩ :: ⟨true, b, 0, codesV l ++ sp⟩ :: ⟨true, wb, 0, ints .u32 ((l.map Cd.cnt).map Nat.cast) ++ wsp⟩ :: M) .rfl ?_
      have hglen := got_len hl ht20
      have hgl : ∀ c ∈ ds, c.cnt < 16777216 ∧ c.len ≤ 20 := fun c hc => by
        obtain ⟨x, hx, rfl⟩ := List.mem_iff_getElem.1 hc
        refine ⟨?_, (hglen _ hc).2⟩
        have h1 := (hl.same.2 x (by omega)).2
        have h3 := hall (l[x]'(by omega)) (List.getElem_mem _)
        rw [show ds.getD x Cd.zero = ds[x] by simp [hx], show l.getD x Cd.zero = l[x]'(by omega) by simp [show x < l.length by omega]] at h1
        omega
      have hw := whole_c ds gb gcap true gsp (⟨true, gb, 0, codesV ds ++ gsp⟩ :: ⟨true, b, 0, codesV l ++ sp⟩ :: ⟨true, wb, 0, ints .u32 ((l.map Cd.cnt).map Nat.cast) ++ wsp⟩ :: M) (.head _) hglen (by omega)
      simp only [got_whole hl ht20, decide_true] at hw
      repeat' (first | (refine isO ?_; first | refine oo (Pc rfl) ?_ | refine oo (Pa rfl (by omega) (by omega)) ?_ | (refine ob rfl ?_ ?_ <;> intro hq <;> try (exfalso; omega)) | refine oo (Pi rfl (by omega)) ?_ | refine oo (Pl rfl) ?_ | refine oo (Px rfl rfl) ?_ | refine oo (Pj rfl (by omega) (by omega)) ?_ | refine oo (Pk rfl (by omega) (by omega)) ?_ | refine oo (Pf rfl) ?_ | refine oo (Pv rfl (by omega) (by omega)) ?_ | refine oo (Pn rfl) ?_ | refine oo (Pm rfl) ?_ | refine os rfl rfl ?_ | refine ot rfl (by omega) ?_ | refine O_nil ?_) | refine wo rfl ?_ | refine wc rfl ?_ | refine wg rfl ?_ | refine go rfl ?_ | refine gc rfl ?_ | refine gg rfl ?_)
      refine O_callP rfl rfl Tb.k15 (by first | exact trivial | exact ⟨_, rfl, rfl⟩) rfl hw ?_
      repeat' (first | (refine isO ?_; first | refine oo (Pc rfl) ?_ | refine oo (Pa rfl (by omega) (by omega)) ?_ | (refine ob rfl ?_ ?_ <;> intro hq <;> try (exfalso; omega)) | refine oo (Pi rfl (by omega)) ?_ | refine oo (Pl rfl) ?_ | refine oo (Px rfl rfl) ?_ | refine oo (Pj rfl (by omega) (by omega)) ?_ | refine oo (Pk rfl (by omega) (by omega)) ?_ | refine oo (Pf rfl) ?_ | refine oo (Pv rfl (by omega) (by omega)) ?_ | refine oo (Pn rfl) ?_ | refine oo (Pm rfl) ?_ | refine os rfl rfl ?_ | refine ot rfl (by omega) ?_ | refine O_nil ?_) | refine wo rfl ?_ | refine wc rfl ?_ | refine wg rfl ?_ | refine go rfl ?_ | refine gc rfl ?_ | refine gg rfl ?_)
      refine W_loop (α := Nat) (fun i => [(1, .int .u8 t), (5, .slice (some ⟨b, 0, none⟩) l.length cap), (6, .slice (some ⟨wb, 0, none⟩) (l.map Cd.cnt).length wcap), (8, .slice (some ⟨gb, 0, none⟩) ds.length gcap), (10, .int .i64 i)])
        (fun _ => ⟨true, gb, 0, codesV ds ++ gsp⟩ :: ⟨true, b, 0, codesV l ++ sp⟩ :: ⟨true, wb, 0, ints .u32 ((l.map Cd.cnt).map Nat.cast) ++ wsp⟩ :: M) (fun i => i ≤ l.length) (fun i => l.length - i) 0 (by omega) ⟨rfl, rfl, rfl, rfl, rfl, trivial⟩ .rfl ?_
      intro i hi
      try dsimp only
      repeat' (first | (refine isO ?_; first | refine oo (Pc rfl) ?_ | refine oo (Pa rfl (by omega) (by omega)) ?_ | (refine ob rfl ?_ ?_ <;> intro hq <;> try (exfalso; omega)) | refine oo (Pi rfl (by omega)) ?_ | refine oo (Pl rfl) ?_ | refine oo (Px rfl rfl) ?_ | refine oo (Pj rfl (by omega) (by omega)) ?_ | refine oo (Pk rfl (by omega) (by omega)) ?_ | refine oo (Pf rfl) ?_ | refine oo (Pv rfl (by omega) (by omega)) ?_ | refine oo (Pn rfl) ?_ | refine oo (Pm rfl) ?_ | refine os rfl rfl ?_ | refine ot rfl (by omega) ?_ | refine O_nil ?_) | refine wo rfl ?_ | refine wc rfl ?_ | refine wg rfl ?_ | refine go rfl ?_ | refine gc rfl ?_ | refine gg rfl ?_)
      · have hil : i < l.length := by omega
        obtain ⟨hsym, hcnt⟩ := hl.same.2 i hil
        have hpos := (hl.pos i hil).2
        unfold lenOf at hpos
        have hg0 : (codesV ds ++ gsp)[i * 4 + 0]? = some (.int .u32 (ds.getD i Cd.zero).sym) := codesV_get ds gsp i 0 (by omega) (by omega)
        have hg1 : (codesV ds ++ gsp)[i * 4 + 1]? = some (.int .u32 (ds.getD i Cd.zero).cnt) := codesV_get ds gsp i 1 (by omega) (by omega)
        have hg2 : (codesV ds ++ gsp)[i * 4 + 2]? = some (.int .u32 (ds.getD i Cd.zero).len) := codesV_get ds gsp i 2 (by omega) (by omega)
        have hl0 : (codesV l ++ sp)[i * 4 + 0]? = some (.int .u32 (l.getD i Cd.zero).sym) := codesV_get l sp i 0 (by omega) (by omega)
        have hl1 : (codesV l ++ sp)[i * 4 + 1]? = some (.int .u32 (l.getD i Cd.zero).cnt) := codesV_get l sp i 1 (by omega) (by omega)
        rw [hsym] at hg0
        rw [hcnt] at hg1
        refine W_region_still Tb.mixed (by kernel_rfl) ?_
        repeat' (first | (refine isS ?_; first | refine ss (Pc rfl) ?_ | refine ss (Pa rfl (by omega) (by omega)) ?_ | (refine sb rfl ?_ ?_ <;> intro hq <;> try (exfalso; omega)) | refine ss (Pi rfl (by omega)) ?_ | refine ss (Pl rfl) ?_ | refine ss (Px rfl rfl) ?_ | refine ss (Pj rfl (by omega) (by omega)) ?_ | refine ss (Pk rfl (by omega) (by omega)) ?_ | refine ss (Pf rfl) ?_ | refine ss (Pv rfl (by omega) (by omega)) ?_ | refine ss (Pn rfl) ?_ | refine ss (Pm rfl) ?_ | refine OS_nil ?_))
        refine OS_pure (P_loadAt (o := 0) (n := i * 4 + 0) Tb.p40 rfl (by omega) (.head _) hg0) (by first | exact trivial | exact ⟨_, rfl, rfl⟩) rfl ?_
        repeat' (first | (refine isS ?_; first | refine ss (Pc rfl) ?_ | refine ss (Pa rfl (by omega) (by omega)) ?_ | (refine sb rfl ?_ ?_ <;> intro hq <;> try (exfalso; omega)) | refine ss (Pi rfl (by omega)) ?_ | refine ss (Pl rfl) ?_ | refine ss (Px rfl rfl) ?_ | refine ss (Pj rfl (by omega) (by omega)) ?_ | refine ss (Pk rfl (by omega) (by omega)) ?_ | refine ss (Pf rfl) ?_ | refine ss (Pv rfl (by omega) (by omega)) ?_ | refine ss (Pn rfl) ?_ | refine ss (Pm rfl) ?_ | refine OS_nil ?_))
        refine OS_pure (P_loadAt (o := 0) (n := i * 4 + 0) Tb.p40 rfl (by omega) (.tail _ (.head _)) hl0) (by first | exact trivial | exact ⟨_, rfl, rfl⟩) rfl ?_
        repeat' (first | (refine isS ?_; first | refine ss (Pc rfl) ?_ | refine ss (Pa rfl (by omega) (by omega)) ?_ | (refine sb rfl ?_ ?_ <;> intro hq <;> try (exfalso; omega)) | refine ss (Pi rfl (by omega)) ?_ | refine ss (Pl rfl) ?_ | refine ss (Px rfl rfl) ?_ | refine ss (Pj rfl (by omega) (by omega)) ?_ | refine ss (Pk rfl (by omega) (by omega)) ?_ | refine ss (Pf rfl) ?_ | refine ss (Pv rfl (by omega) (by omega)) ?_ | refine ss (Pn rfl) ?_ | refine ss (Pm rfl) ?_ | refine OS_nil ?_))
        refine OS_pure (P_loadAt (o := 0) (n := i * 4 + 1) Tb.p40 rfl (by omega) (.head _) hg1) (by first | exact trivial | exact ⟨_, rfl, rfl⟩) rfl ?_
        repeat' (first | (refine isS ?_; first | refine ss (Pc rfl) ?_ | refine ss (Pa rfl (by omega) (by omega)) ?_ | (refine sb rfl ?_ ?_ <;> intro hq <;> try (exfalso; omega)) | refine ss (Pi rfl (by omega)) ?_ | refine ss (Pl rfl) ?_ | refine ss (Px rfl rfl) ?_ | refine ss (Pj rfl (by omega) (by omega)) ?_ | refine ss (Pk rfl (by omega) (by omega)) ?_ | refine ss (Pf rfl) ?_ | refine ss (Pv rfl (by omega) (by omega)) ?_ | refine ss (Pn rfl) ?_ | refine ss (Pm rfl) ?_ | refine OS_nil ?_))
        refine OS_pure (P_loadAt (o := 0) (n := i * 4 + 1) Tb.p40 rfl (by omega) (.tail _ (.head _)) hl1) (by first | exact trivial | exact ⟨_, rfl, rfl⟩) rfl ?_
        repeat' (first | (refine isS ?_; first | refine ss (Pc rfl) ?_ | refine ss (Pa rfl (by omega) (by omega)) ?_ | (refine sb rfl ?_ ?_ <;> intro hq <;> try (exfalso; omega)) | refine ss (Pi rfl (by omega)) ?_ | refine ss (Pl rfl) ?_ | refine ss (Px rfl rfl) ?_ | refine ss (Pj rfl (by omega) (by omega)) ?_ | refine ss (Pk rfl (by omega) (by omega)) ?_ | refine ss (Pf rfl) ?_ | refine ss (Pv rfl (by omega) (by omega)) ?_ | refine ss (Pn rfl) ?_ | refine ss (Pm rfl) ?_ | refine OS_nil ?_))
        refine OS_pure (P_loadAt (o := 0) (n := i * 4 + 2) Tb.p40 rfl (by omega) (.head _) hg2) (by first | exact trivial | exact ⟨_, rfl, rfl⟩) rfl ?_
        repeat' (first | (refine isS ?_; first | refine ss (Pc rfl) ?_ | refine ss (Pa rfl (by omega) (by omega)) ?_ | (refine sb rfl ?_ ?_ <;> intro hq <;> try (exfalso; omega)) | refine ss (Pi rfl (by omega)) ?_ | refine ss (Pl rfl) ?_ | refine ss (Px rfl rfl) ?_ | refine ss (Pj rfl (by omega) (by omega)) ?_ | refine ss (Pk rfl (by omega) (by omega)) ?_ | refine ss (Pf rfl) ?_ | refine ss (Pv rfl (by omega) (by omega)) ?_ | refine ss (Pn rfl) ?_ | refine ss (Pm rfl) ?_ | refine OS_nil ?_))
        · obtain ⟨q, rfl⟩ : ∃ q, i = q + 1 := ⟨i - 1, by omega⟩
          have hmono := hl.mono q (q + 1) (by omega) hil
          unfold lenOf at hmono
          have hq1 : (codesV ds ++ gsp)[q * 4 + 1]? = some (.int .u32 (ds.getD q Cd.zero).cnt) := codesV_get ds gsp q 1 (by omega) (by omega)
          have hq2 : (codesV ds ++ gsp)[q * 4 + 2]? = some (.int .u32 (ds.getD q Cd.zero).len) := codesV_get ds gsp q 2 (by omega) (by omega)
          refine OS_pure (P_loadAt (o := 0) (n := (q + 1) * 4 + 1) Tb.p40 rfl (by omega) (.head _) hg1) (by first | exact trivial | exact ⟨_, rfl, rfl⟩) rfl ?_
          repeat' (first | (refine isS ?_; first | refine ss (Pc rfl) ?_ | refine ss (Pa rfl (by omega) (by omega)) ?_ | (refine sb rfl ?_ ?_ <;> intro hq <;> try (exfalso; omega)) | refine ss (Pi rfl (by omega)) ?_ | refine ss (Pl rfl) ?_ | refine ss (Px rfl rfl) ?_ | refine ss (Pj rfl (by omega) (by omega)) ?_ | refine ss (Pk rfl (by omega) (by omega)) ?_ | refine ss (Pf rfl) ?_ | refine ss (Pv rfl (by omega) (by omega)) ?_ | refine ss (Pn rfl) ?_ | refine ss (Pm rfl) ?_ | refine OS_nil ?_))
          refine OS_pure (P_loadAt (o := 0) (n := q * 4 + 1) Tb.p40 rfl (by omega) (.head _) hq1) (by first | exact trivial | exact ⟨_, rfl, rfl⟩) rfl ?_
          repeat' (first | (refine isS ?_; first | refine ss (Pc rfl) ?_ | refine ss (Pa rfl (by omega) (by omega)) ?_ | (refine sb rfl ?_ ?_ <;> intro hq <;> try (exfalso; omega)) | refine ss (Pi rfl (by omega)) ?_ | refine ss (Pl rfl) ?_ | refine ss (Px rfl rfl) ?_ | refine ss (Pj rfl (by omega) (by omega)) ?_ | refine ss (Pk rfl (by omega) (by omega)) ?_ | refine ss (Pf rfl) ?_ | refine ss (Pv rfl (by omega) (by omega)) ?_ | refine ss (Pn rfl) ?_ | refine ss (Pm rfl) ?_ | refine OS_nil ?_))
          · refine OS_pure (P_loadAt (o := 0) (n := (q + 1) * 4 + 2) Tb.p40 rfl (by omega) (.head _) hg2) (by first | exact trivial | exact ⟨_, rfl, rfl⟩) rfl ?_
            repeat' (first | (refine isS ?_; first | refine ss (Pc rfl) ?_ | refine ss (Pa rfl (by omega) (by omega)) ?_ | (refine sb rfl ?_ ?_ <;> intro hq <;> try (exfalso; omega)) | refine ss (Pi rfl (by omega)) ?_ | refine ss (Pl rfl) ?_ | refine ss (Px rfl rfl) ?_ | refine ss (Pj rfl (by omega) (by omega)) ?_ | refine ss (Pk rfl (by omega) (by omega)) ?_ | refine ss (Pf rfl) ?_ | refine ss (Pv rfl (by omega) (by omega)) ?_ | refine ss (Pn rfl) ?_ | refine ss (Pm rfl) ?_ | refine OS_nil ?_))
            refine OS_pure (P_loadAt (o := 0) (n := q * 4 + 2) Tb.p40 rfl (by omega) (.head _) hq2) (by first | exact trivial | exact ⟨_, rfl, rfl⟩) rfl ?_
            repeat' (first | (refine isS ?_; first | refine ss (Pc rfl) ?_ | refine ss (Pa rfl (by omega) (by omega)) ?_ | (refine sb rfl ?_ ?_ <;> intro hq <;> try (exfalso; omega)) | refine ss (Pi rfl (by omega)) ?_ | refine ss (Pl rfl) ?_ | refine ss (Px rfl rfl) ?_ | refine ss (Pj rfl (by omega) (by omega)) ?_ | refine ss (Pk rfl (by omega) (by omega)) ?_ | refine ss (Pf rfl) ?_ | refine ss (Pv rfl (by omega) (by omega)) ?_ | refine ss (Pn rfl) ?_ | refine ss (Pm rfl) ?_ | refine OS_nil ?_))
            repeat' (first | (refine isO ?_; first | refine oo (Pc rfl) ?_ | refine oo (Pa rfl (by omega) (by omega)) ?_ | (refine ob rfl ?_ ?_ <;> intro hq <;> try (exfalso; omega)) | refine oo (Pi rfl (by omega)) ?_ | refine oo (Pl rfl) ?_ | refine oo (Px rfl rfl) ?_ | refine oo (Pj rfl (by omega) (by omega)) ?_ | refine oo (Pk rfl (by omega) (by omega)) ?_ | refine oo (Pf rfl) ?_ | refine oo (Pv rfl (by omega) (by omega)) ?_ | refine oo (Pn rfl) ?_ | refine oo (Pm rfl) ?_ | refine os rfl rfl ?_ | refine ot rfl (by omega) ?_ | refine O_nil ?_) | refine wo rfl ?_ | refine wc rfl ?_ | refine wg rfl ?_ | refine go rfl ?_ | refine gc rfl ?_ | refine gg rfl ?_)
            exact G_stop ⟨q + 1 + 1, by omega, by omega, ⟨rfl, rfl, rfl, rfl, rfl, trivial⟩, .rfl⟩
          · repeat' (first | (refine isO ?_; first | refine oo (Pc rfl) ?_ | refine oo (Pa rfl (by omega) (by omega)) ?_ | (refine ob rfl ?_ ?_ <;> intro hq <;> try (exfalso; omega)) | refine oo (Pi rfl (by omega)) ?_ | refine oo (Pl rfl) ?_ | refine oo (Px rfl rfl) ?_ | refine oo (Pj rfl (by omega) (by omega)) ?_ | refine oo (Pk rfl (by omega) (by omega)) ?_ | refine oo (Pf rfl) ?_ | refine oo (Pv rfl (by omega) (by omega)) ?_ | refine oo (Pn rfl) ?_ | refine oo (Pm rfl) ?_ | refine os rfl rfl ?_ | refine ot rfl (by omega) ?_ | refine O_nil ?_) | refine wo rfl ?_ | refine wc rfl ?_ | refine wg rfl ?_ | refine go rfl ?_ | refine gc rfl ?_ | refine gg rfl ?_)
            exact G_stop ⟨q + 1 + 1, by omega, by omega, ⟨rfl, rfl, rfl, rfl, rfl, trivial⟩, .rfl⟩
        · repeat' (first | (refine isO ?_; first | refine oo (Pc rfl) ?_ | refine oo (Pa rfl (by omega) (by omega)) ?_ | (refine ob rfl ?_ ?_ <;> intro hq <;> try (exfalso; omega)) | refine oo (Pi rfl (by omega)) ?_ | refine oo (Pl rfl) ?_ | refine oo (Px rfl rfl) ?_ | refine oo (Pj rfl (by omega) (by omega)) ?_ | refine oo (Pk rfl (by omega) (by omega)) ?_ | refine oo (Pf rfl) ?_ | refine oo (Pv rfl (by omega) (by omega)) ?_ | refine oo (Pn rfl) ?_ | refine oo (Pm rfl) ?_ | refine os rfl rfl ?_ | refine ot rfl (by omega) ?_ | refine O_nil ?_) | refine wo rfl ?_ | refine wc rfl ?_ | refine wg rfl ?_ | refine go rfl ?_ | refine gc rfl ?_ | refine gg rfl ?_)
          exact G_stop ⟨i + 1, by omega, by omega, ⟨rfl, rfl, rfl, rfl, rfl, trivial⟩, .rfl⟩
      · have hleast := got_least hl ht20 hup (by omega) (by omega)
        have hcost := got_cost hl ht20 (by omega)
        have hmd := dp_le (l.map Cd.cnt) ((l.map Cd.cnt).length - 2)
        rw [← hcl] at hcost
        repeat' (first | (refine isO ?_; first | refine oo (Pc rfl) ?_ | refine oo (Pa rfl (by omega) (by omega)) ?_ | (refine ob rfl ?_ ?_ <;> intro hq <;> try (exfalso; omega)) | refine oo (Pi rfl (by omega)) ?_ | refine oo (Pl rfl) ?_ | refine oo (Px rfl rfl) ?_ | refine oo (Pj rfl (by omega) (by omega)) ?_ | refine oo (Pk rfl (by omega) (by omega)) ?_ | refine oo (Pf rfl) ?_ | refine oo (Pv rfl (by omega) (by omega)) ?_ | refine oo (Pn rfl) ?_ | refine oo (Pm rfl) ?_ | refine os rfl rfl ?_ | refine ot rfl (by omega) ?_ | refine O_nil ?_) | refine wo rfl ?_ | refine wc rfl ?_ | refine wg rfl ?_ | refine go rfl ?_ | refine gc rfl ?_ | refine gg rfl ?_)
        refine O_call rfl rfl Tb.k30 trivial rfl (depth_c (l.map Cd.cnt) wb wcap true wsp _ (.tail _ (.tail _ (.head _))) hC (by omega) (by omega)) ?_
        rintro _ M' ⟨rfl, hrk⟩
        refine O_weak hrk ?_
        clear hrk
        repeat' (first | (refine isO ?_; first | refine oo (Pc rfl) ?_ | refine oo (Pa rfl (by omega) (by omega)) ?_ | (refine ob rfl ?_ ?_ <;> intro hq <;> try (exfalso; omega)) | refine oo (Pi rfl (by omega)) ?_ | refine oo (Pl rfl) ?_ | refine oo (Px rfl rfl) ?_ | refine oo (Pj rfl (by omega) (by omega)) ?_ | refine oo (Pk rfl (by omega) (by omega)) ?_ | refine oo (Pf rfl) ?_ | refine oo (Pv rfl (by omega) (by omega)) ?_ | refine oo (Pn rfl) ?_ | refine oo (Pm rfl) ?_ | refine os rfl rfl ?_ | refine ot rfl (by omega) ?_ | refine O_nil ?_) | refine wo rfl ?_ | refine wc rfl ?_ | refine wg rfl ?_ | refine go rfl ?_ | refine gc rfl ?_ | refine gg rfl ?_)
        refine O_call rfl rfl Tb.k31 trivial rfl (total_c ds gb gcap true gsp _ hgl (by omega)) ?_
        rintro _ M' ⟨rfl, hrk⟩
        refine O_weak hrk ?_
        clear hrk
        repeat' (first | (refine isO ?_; first | refine oo (Pc rfl) ?_ | refine oo (Pa rfl (by omega) (by omega)) ?_ | (refine ob rfl ?_ ?_ <;> intro hq <;> try (exfalso; omega)) | refine oo (Pi rfl (by omega)) ?_ | refine oo (Pl rfl) ?_ | refine oo (Px rfl rfl) ?_ | refine oo (Pj rfl (by omega) (by omega)) ?_ | refine oo (Pk rfl (by omega) (by omega)) ?_ | refine oo (Pf rfl) ?_ | refine oo (Pv rfl (by omega) (by omega)) ?_ | refine oo (Pn rfl) ?_ | refine oo (Pm rfl) ?_ | refine os rfl rfl ?_ | refine ot rfl (by omega) ?_ | refine O_nil ?_) | refine wo rfl ?_ | refine wc rfl ?_ | refine wg rfl ?_ | refine go rfl ?_ | refine gc rfl ?_ | refine gg rfl ?_)
        refine O_call rfl rfl Tb.k32 trivial rfl (cost_c ds gb gcap true gsp _ (.head _) hgl (by omega)) ?_
        rintro _ M' ⟨rfl, hrk⟩
        refine O_weak hrk ?_
        clear hrk
        repeat' (first | (refine isO ?_; first | refine oo (Pc rfl) ?_ | refine oo (Pa rfl (by omega) (by omega)) ?_ | (refine ob rfl ?_ ?_ <;> intro hq <;> try (exfalso; omega)) | refine oo (Pi rfl (by omega)) ?_ | refine oo (Pl rfl) ?_ | refine oo (Px rfl rfl) ?_ | refine oo (Pj rfl (by omega) (by omega)) ?_ | refine oo (Pk rfl (by omega) (by omega)) ?_ | refine oo (Pf rfl) ?_ | refine oo (Pv rfl (by omega) (by omega)) ?_ | refine oo (Pn rfl) ?_ | refine oo (Pm rfl) ?_ | refine os rfl rfl ?_ | refine ot rfl (by omega) ?_ | refine O_nil ?_) | refine wo rfl ?_ | refine wc rfl ?_ | refine wg rfl ?_ | refine go rfl ?_ | refine gc rfl ?_ | refine gg rfl ?_)
        refine O_call rfl rfl Tb.k32 (by first | exact trivial | exact ⟨_, rfl, rfl⟩) rfl (cost_c ds gb gcap true gsp _ (.head _) hgl (by omega)) ?_
        rintro _ M' ⟨rfl, hrk⟩
        refine O_weak hrk ?_
        clear hrk
        repeat' (first | (refine isO ?_; first | refine oo (Pc rfl) ?_ | refine oo (Pa rfl (by omega) (by omega)) ?_ | (refine ob rfl ?_ ?_ <;> intro hq <;> try (exfalso; omega)) | refine oo (Pi rfl (by omega)) ?_ | refine oo (Pl rfl) ?_ | refine oo (Px rfl rfl) ?_ | refine oo (Pj rfl (by omega) (by omega)) ?_ | refine oo (Pk rfl (by omega) (by omega)) ?_ | refine oo (Pf rfl) ?_ | refine oo (Pv rfl (by omega) (by omega)) ?_ | refine oo (Pn rfl) ?_ | refine oo (Pm rfl) ?_ | refine os rfl rfl ?_ | refine ot rfl (by omega) ?_ | refine O_nil ?_) | refine wo rfl ?_ | refine wc rfl ?_ | refine wg rfl ?_ | refine go rfl ?_ | refine gc rfl ?_ | refine gg rfl ?_)
        refine O_call rfl rfl Tb.k33 (by first | exact trivial | exact ⟨_, rfl, rfl⟩) rfl (least_c (l.map Cd.cnt) t wb wcap true wsp _ (.tail _ (.tail _ (.head _))) hC (by omega) (by omega) (by omega)) ?_
        rintro _ M' ⟨rfl, hrk⟩
        refine O_weak hrk ?_
        clear hrk
        repeat' (first | (refine isO ?_; first | refine oo (Pc rfl) ?_ | refine oo (Pa rfl (by omega) (by omega)) ?_ | (refine ob rfl ?_ ?_ <;> intro hq <;> try (exfalso; omega)) | refine oo (Pi rfl (by omega)) ?_ | refine oo (Pl rfl) ?_ | refine oo (Px rfl rfl) ?_ | refine oo (Pj rfl (by omega) (by omega)) ?_ | refine oo (Pk rfl (by omega) (by omega)) ?_ | refine oo (Pf rfl) ?_ | refine oo (Pv rfl (by omega) (by omega)) ?_ | refine oo (Pn rfl) ?_ | refine oo (Pm rfl) ?_ | refine os rfl rfl ?_ | refine ot rfl (by omega) ?_ | refine O_nil ?_) | refine wo rfl ?_ | refine wc rfl ?_ | refine wg rfl ?_ | refine go rfl ?_ | refine gc rfl ?_ | refine gg rfl ?_)
        (refine O_call rfl rfl Tb.k13 trivial rfl (awake_c _) ?_; rintro v M' ⟨rfl, hrk⟩; refine O_weak hrk ?_; clear hrk; (repeat' (first | (refine isO ?_; first | refine oo (Pc rfl) ?_ | refine oo (Pa rfl (by omega) (by omega)) ?_ | (refine ob rfl ?_ ?_ <;> intro hq <;> try (exfalso; omega)) | refine oo (Pi rfl (by omega)) ?_ | refine oo (Pl rfl) ?_ | refine oo (Px rfl rfl) ?_ | refine oo (Pj rfl (by omega) (by omega)) ?_ | refine oo (Pk rfl (by omega) (by omega)) ?_ | refine oo (Pf rfl) ?_ | refine oo (Pv rfl (by omega) (by omega)) ?_ | refine oo (Pn rfl) ?_ | refine oo (Pm rfl) ?_ | refine os rfl rfl ?_ | refine ot rfl (by omega) ?_ | refine O_nil ?_) | refine wo rfl ?_ | refine wc rfl ?_ | refine wg rfl ?_ | refine go rfl ?_ | refine gc rfl ?_ | refine gg rfl ?_)))
        · exact G_fin ⟨_, rfl, rfl, .drop (.drop (.drop .rfl))⟩
        · refine O_call rfl rfl Tb.k32 (by first | exact trivial | exact ⟨_, rfl, rfl⟩) rfl (cost_c ds gb gcap true gsp _ (.head _) hgl (by omega)) ?_
          rintro _ M' ⟨rfl, hrk⟩
          refine O_weak hrk ?_
          clear hrk
          have hcost := hcost (by omega)
          repeat' (first | (refine isO ?_; first | refine oo (Pc rfl) ?_ | refine oo (Pa rfl (by omega) (by omega)) ?_ | (refine ob rfl ?_ ?_ <;> intro hq <;> try (exfalso; omega)) | refine oo (Pi rfl (by omega)) ?_ | refine oo (Pl rfl) ?_ | refine oo (Px rfl rfl) ?_ | refine oo (Pj rfl (by omega) (by omega)) ?_ | refine oo (Pk rfl (by omega) (by omega)) ?_ | refine oo (Pf rfl) ?_ | refine oo (Pv rfl (by omega) (by omega)) ?_ | refine oo (Pn rfl) ?_ | refine oo (Pm rfl) ?_ | refine os rfl rfl ?_ | refine ot rfl (by omega) ?_ | refine O_nil ?_) | refine wo rfl ?_ | refine wc rfl ?_ | refine wg rfl ?_ | refine go rfl ?_ | refine gc rfl ?_ | refine gg rfl ?_)
          exact G_fin ⟨_, rfl, rfl, .drop (.drop (.drop .rfl))⟩
    · exfalso
      rcases hno with h | h
      · exact h (asc_up hup)
      · omega
  · refine O_weak hrk ?_
    clear hrk
    repeat' (first | (refine isO ?_; first | refine oo (Pc rfl) ?_ | refine oo (Pa rfl (by omega) (by omega)) ?_ | (refine ob rfl ?_ ?_ <;> intro hq <;> try (exfalso; omega)) | refine oo (Pi rfl (by omega)) ?_ | refine oo (Pl rfl) ?_ | refine oo (Px rfl rfl) ?_ | refine oo (Pj rfl (by omega) (by omega)) ?_ | refine oo (Pk rfl (by omega) (by omega)) ?_ | refine oo (Pf rfl) ?_ | refine oo (Pv rfl (by omega) (by omega)) ?_ | refine oo (Pn rfl) ?_ | refine oo (Pm rfl) ?_ | refine os rfl rfl ?_ | refine ot rfl (by omega) ?_ | refine O_nil ?_) | refine wo rfl ?_ | refine wc rfl ?_ | refine wg rfl ?_ | refine go rfl ?_ | refine gc rfl ?_ | refine gg rfl ?_)
    (refine O_call rfl rfl Tb.k13 trivial rfl (awake_c _) ?_; rintro v M' ⟨rfl, hrk⟩; refine O_weak hrk ?_; clear hrk; (repeat' (first | (refine isO ?_; first | refine oo (Pc rfl) ?_ | refine oo (Pa rfl (by omega) (by omega)) ?_ | (refine ob rfl ?_ ?_ <;> intro hq <;> try (exfalso; omega)) | refine oo (Pi rfl (by omega)) ?_ | refine oo (Pl rfl) ?_ | refine oo (Px rfl rfl) ?_ | refine oo (Pj rfl (by omega) (by omega)) ?_ | refine oo (Pk rfl (by omega) (by omega)) ?_ | refine oo (Pf rfl) ?_ | refine oo (Pv rfl (by omega) (by omega)) ?_ | refine oo (Pn rfl) ?_ | refine oo (Pm rfl) ?_ | refine os rfl rfl ?_ | refine ot rfl (by omega) ?_ | refine O_nil ?_) | refine wo rfl ?_ | refine wc rfl ?_ | refine wg rfl ?_ | refine go rfl ?_ | refine gc rfl ?_ | refine gg rfl ?_)))
    exact G_fin ⟨_, rfl, rfl, .rfl⟩
end Go.Proofs.Ytjkpfliaflmppaa.Hu
