/- spec.Whole and spec.Canonical, walked. -/
import Derived.Test.YtjkpfliaflmppaaSp
import Derived.Test.YtjkpfliaflmppaaVm10
import Derived.Test.YtjkpfliaflmppaaTi
namespace Go.Proofs.Ytjkpfliaflmppaa.Pc
open Go Go.RowKit Go.Proofs.Ytjkpfliaflmppaa.Vm Go.Proofs.Ytjkpfliaflmppaa.Rev

open Classical in
theorem whole_c (l : List Cd) (b cap : Nat) (own : Bool) (sp : List Value) (M : Mem) (hm : (⟨own, b, 0, codesV l ++ sp⟩ : Sg) ∈ M) (hlen : ∀ c ∈ l, 1 ≤ c.len ∧ c.len ≤ 20) (h60 : l.length ≤ 60) :
    HP Try.prog 15 #[.slice (some ⟨b, 0, none⟩) l.length cap] M (.bool (decide (whole l))) := by
  refine HP.of (HC_of_W (fn := Try.f15) Try.func15 rfl rfl rfl rfl ?_)
  repeat' (first | (refine isO ?_; first | refine oo (Pc rfl) ?_ | refine oo (Pa rfl (by omega) (by omega)) ?_ | (refine ob rfl ?_ ?_ <;> intro hq <;> try (exfalso; omega)) | refine oo (Pi rfl (by omega)) ?_ | refine oo (Pl rfl) ?_ | refine oo (Px rfl rfl) ?_ | refine oo (Pj rfl (by omega) (by omega)) ?_ | refine oo (Pk rfl (by omega) (by omega)) ?_ | refine oo (Pf rfl) ?_ | refine oo (Pv rfl (by omega) (by omega)) ?_ | refine oo (Pn rfl) ?_ | refine oo (Pm rfl) ?_ | refine os rfl rfl ?_ | refine ot rfl (by omega) ?_ | refine O_nil ?_) | refine wo rfl ?_ | refine wc rfl ?_ | refine wg rfl ?_ | refine go rfl ?_ | refine gc rfl ?_ | refine gg rfl ?_)
  refine O_callP rfl rfl Tb.k44 trivial rfl (kraft_c l b cap own sp M hm hlen h60) ?_
  refine O_pure (P_cmp rfl rfl rfl) trivial rfl ?_
  repeat' (first | (refine isO ?_; first | refine oo (Pc rfl) ?_ | refine oo (Pa rfl (by omega) (by omega)) ?_ | (refine ob rfl ?_ ?_ <;> intro hq <;> try (exfalso; omega)) | refine oo (Pi rfl (by omega)) ?_ | refine oo (Pl rfl) ?_ | refine oo (Px rfl rfl) ?_ | refine oo (Pj rfl (by omega) (by omega)) ?_ | refine oo (Pk rfl (by omega) (by omega)) ?_ | refine oo (Pf rfl) ?_ | refine oo (Pv rfl (by omega) (by omega)) ?_ | refine oo (Pn rfl) ?_ | refine oo (Pm rfl) ?_ | refine os rfl rfl ?_ | refine ot rfl (by omega) ?_ | refine O_nil ?_) | refine wo rfl ?_ | refine wc rfl ?_ | refine wg rfl ?_ | refine go rfl ?_ | refine gc rfl ?_ | refine gg rfl ?_)
  refine G_fin ⟨_, rfl, congrArg Value.bool ?_⟩
  have h := ks_kr l (fun c hc => (hlen c hc).2)
  have h20 : (2:Nat) ^ 20 = 1048576 := by decide
  unfold whole
  rw [← h, h20]
  by_cases hk : ks l = 1048576
  · simp [hk]
  · have : ¬ ((ks l : Nat) : Int) = 1048576 := by omega
    simp [hk, this]

/-- The codes on the way: those of less than n bits, and those of n bits up to place i, have their values. -/
def canonUp (l : List Cd) (n i : Nat) : List Cd := (List.range l.length).map fun j => if (l.getD j Cd.zero).len < n ∨ ((l.getD j Cd.zero).len = n ∧ j < i) then { l.getD j Cd.zero with val := valAt l j } else l.getD j Cd.zero
theorem canonUp_length (l : List Cd) (n i : Nat) : (canonUp l n i).length = l.length := by simp [canonUp]
theorem canonUp_get (l : List Cd) (n i j : Nat) (h : j < l.length) : (canonUp l n i).getD j Cd.zero = if (l.getD j Cd.zero).len < n ∨ ((l.getD j Cd.zero).len = n ∧ j < i) then { l.getD j Cd.zero with val := valAt l j } else l.getD j Cd.zero := by
  simp [canonUp, h]
theorem cds_ext {l m : List Cd} (h : l.length = m.length) (h2 : ∀ j, j < l.length → l.getD j Cd.zero = m.getD j Cd.zero) : l = m := by
  apply List.ext_getElem h
  intro j h3 h4
  have := h2 j h3
  simpa [h3, h4] using this
theorem canonUp_lenAt (l : List Cd) (n i j : Nat) (h : j < l.length) : ((canonUp l n i).getD j Cd.zero).len = (l.getD j Cd.zero).len := by
  rw [canonUp_get l n i j h]; split <;> rfl
theorem canonUp_set (l : List Cd) (n i : Nat) (h : i < l.length) (hn : (l.getD i Cd.zero).len = n) : (canonUp l n i).set i { (canonUp l n i).getD i Cd.zero with val := valAt l i } = canonUp l n (i + 1) := by
  refine cds_ext (by simp [canonUp_length]) fun j hj => ?_
  have hj' : j < l.length := by simpa [canonUp_length] using hj
  rw [canonUp_get l n (i + 1) j hj']
  by_cases hij : i = j
  · subst hij
    have : i < (canonUp l n i).length := by rw [canonUp_length]; exact h
    simp only [List.getD_eq_getElem?_getD, List.getElem?_set_self this, Option.getD_some]
    rw [← List.getD_eq_getElem?_getD, ← List.getD_eq_getElem?_getD, canonUp_get l n i i h]
    rw [if_pos (show (l.getD i Cd.zero).len < n ∨ ((l.getD i Cd.zero).len = n ∧ i < i + 1) from .inr ⟨hn, by omega⟩), if_neg (by omega)]
  · have e : ((canonUp l n i).set i { (canonUp l n i).getD i Cd.zero with val := valAt l i }).getD j Cd.zero = (canonUp l n i).getD j Cd.zero := by
      simp only [List.getD_eq_getElem?_getD, List.getElem?_set_ne hij]
    rw [e, canonUp_get l n i j hj']
    have : ((l.getD j Cd.zero).len < n ∨ ((l.getD j Cd.zero).len = n ∧ j < i)) ↔ ((l.getD j Cd.zero).len < n ∨ ((l.getD j Cd.zero).len = n ∧ j < i + 1)) := by omega
    simp only [this]
theorem canonUp_skip (l : List Cd) (n i : Nat) (hn : (l.getD i Cd.zero).len ≠ n) : canonUp l n i = canonUp l n (i + 1) := by
  refine cds_ext (by simp [canonUp_length]) fun j hj => ?_
  have hj' : j < l.length := by simpa [canonUp_length] using hj
  rw [canonUp_get l n i j hj', canonUp_get l n (i + 1) j hj']
  have : ((l.getD j Cd.zero).len < n ∨ ((l.getD j Cd.zero).len = n ∧ j < i)) ↔ ((l.getD j Cd.zero).len < n ∨ ((l.getD j Cd.zero).len = n ∧ j < i + 1)) := by
    by_cases hij : j = i
    · subst hij; omega
    · omega
  simp only [this]
theorem canonUp_next (l : List Cd) (n : Nat) : canonUp l n l.length = canonUp l (n + 1) 0 := by
  refine cds_ext (by simp [canonUp_length]) fun j hj => ?_
  have hj' : j < l.length := by simpa [canonUp_length] using hj
  rw [canonUp_get l n _ j hj', canonUp_get l (n + 1) 0 j hj']
  have : ((l.getD j Cd.zero).len < n ∨ ((l.getD j Cd.zero).len = n ∧ j < l.length)) ↔ ((l.getD j Cd.zero).len < n + 1 ∨ ((l.getD j Cd.zero).len = n + 1 ∧ j < 0)) := by omega
  simp only [this]
theorem getD_mem (l : List Cd) (j : Nat) (h : j < l.length) : l.getD j Cd.zero ∈ l := by
  rw [show l.getD j Cd.zero = l[j] by simp [h]]
  exact List.getElem_mem _
theorem canonUp_first (l : List Cd) (h : ∀ c ∈ l, 1 ≤ c.len) : canonUp l 1 0 = l := by
  refine cds_ext (canonUp_length l 1 0) fun j hj => ?_
  have hj' : j < l.length := by simpa [canonUp_length] using hj
  rw [canonUp_get l 1 0 j hj', if_neg]
  have := h _ (getD_mem l j hj')
  omega
theorem canonUp_last (l : List Cd) (h : ∀ c ∈ l, c.len ≤ 20) : canonUp l 21 0 = canon l := by
  refine cds_ext (by rw [canonUp_length, canon_length]) fun j hj => ?_
  have hj' : j < l.length := by simpa [canonUp_length] using hj
  rw [canonUp_get l 21 0 j hj', canon_get l j hj', if_pos]
  have := h _ (getD_mem l j hj')
  omega

theorem cntL_take_succ (l : List Cd) (i n : Nat) (h : i < l.length) : cntL (l.take (i + 1)) n = cntL (l.take i) n + (if (l.getD i Cd.zero).len = n then 1 else 0) := by
  rw [take_succ_getD l i h, cntL_append, cntL_cons, cntL_nil, Nat.add_zero]

theorem row23_0 (w : World) : (Instr.buildSlice 23 0 [].toArray).run Try.prog w = .ok (.slice (some ⟨w.heap.size, 0, none⟩) 0 0) (w.alloc (.cells [].toArray 42)) := by kernel_rfl

theorem canonical_c (l : List Cd) (hG : Good l) (own : Bool) (b cap : Nat) (sp : List Value) (F : Mem) :
    HC Try.prog 17 #[.slice (some ⟨b, 0, none⟩) l.length cap] (⟨own, b, 0, codesV l ++ sp⟩ :: F)
      (fun v M' => ∃ b' c' sp', v = .slice (some ⟨b', 0, none⟩) l.length c' ∧ Rk M' (⟨true, b', 0, codesV (canon l) ++ sp'⟩ :: ⟨own, b, 0, codesV l⟩ :: F)) := by
  obtain ⟨I, hI, hI1, hI2, hI3⟩ := of_info info42
  have h2 := hG.two
  have h60 := hG.most
  refine HC_of_W (fn := Try.f17) Try.func17 rfl rfl rfl rfl ?_
  repeat' (first | (refine isO ?_; first | refine oo (Pc rfl) ?_ | refine oo (Pa rfl (by omega) (by omega)) ?_ | (refine ob rfl ?_ ?_ <;> intro hq <;> try (exfalso; omega)) | refine oo (Pi rfl (by omega)) ?_ | refine oo (Pl rfl) ?_ | refine oo (Px rfl rfl) ?_ | refine oo (Pj rfl (by omega) (by omega)) ?_ | refine oo (Pk rfl (by omega) (by omega)) ?_ | refine oo (Pf rfl) ?_ | refine oo (Pv rfl (by omega) (by omega)) ?_ | refine oo (Pn rfl) ?_ | refine oo (Pm rfl) ?_ | refine os rfl rfl ?_ | refine ot rfl (by omega) ?_ | refine O_nil ?_) | refine wo rfl ?_ | refine wc rfl ?_ | refine wg rfl ?_ | refine go rfl ?_ | refine gc rfl ?_ | refine gg rfl ?_)
  refine O_split (xs := codesV l) (ys := sp) (o2 := 0 + (codesV l).length) rfl rfl ?_
  refine O_weak (M' := ⟨own, b, 0, codesV l⟩ :: F) (.cons .head (.drop .rfl)) ?_
  refine O_buildSlice rfl row23_0 trivial rfl fun bz => ?_
  repeat' (first | (refine isO ?_; first | refine oo (Pc rfl) ?_ | refine oo (Pa rfl (by omega) (by omega)) ?_ | (refine ob rfl ?_ ?_ <;> intro hq <;> try (exfalso; omega)) | refine oo (Pi rfl (by omega)) ?_ | refine oo (Pl rfl) ?_ | refine oo (Px rfl rfl) ?_ | refine oo (Pj rfl (by omega) (by omega)) ?_ | refine oo (Pk rfl (by omega) (by omega)) ?_ | refine oo (Pf rfl) ?_ | refine oo (Pv rfl (by omega) (by omega)) ?_ | refine oo (Pn rfl) ?_ | refine oo (Pm rfl) ?_ | refine os rfl rfl ?_ | refine ot rfl (by omega) ?_ | refine O_nil ?_) | refine wo rfl ?_ | refine wc rfl ?_ | refine wg rfl ?_ | refine go rfl ?_ | refine gc rfl ?_ | refine gg rfl ?_)
  refine O_append (len := 0) (size := 4) (xs := []) (m := [⟨true, bz, 0, []⟩]) (M0 := ⟨own, b, 0, codesV l⟩ :: F) Tb.u23 Tb.u23 hI hI1 (by decide) (by omega) hI3 rfl rfl rfl (.inr ⟨bz, 0, 0, [], rfl, rfl, rfl, rfl⟩) .rfl rfl (.head _) (by rw [codesV_length]; omega) (codesV_one l) (.inl (by omega)) (by rw [hI2]; omega) trivial rfl fun b2 c2 s2 hlen => ?_
  have e : [] ++ List.take (l.length * 4) (codesV l) ++ s2 = codesV l ++ s2 := by
    rw [List.nil_append, ← codesV_length, List.take_length]
  refine O_weak (M' := ⟨true, b2, 0, codesV l ++ s2⟩ :: ⟨own, b, 0, codesV l⟩ :: F) (by rw [e]; exact .rfl) ?_
  clear e hlen
  rw [Nat.zero_add]
  have hkr : ∀ n, n ≤ 20 → kr l n < 2 ^ 31 := fun n hn => by
    have h1 := kr_le l n
    have h3 : l.length * 2 ^ n ≤ 60 * 2 ^ 20 := Nat.mul_le_mul h60 (Nat.pow_le_pow_right (by omega) hn)
    omega
  repeat' (first | (refine isO ?_; first | refine oo (Pc rfl) ?_ | refine oo (Pa rfl (by omega) (by omega)) ?_ | (refine ob rfl ?_ ?_ <;> intro hq <;> try (exfalso; omega)) | refine oo (Pi rfl (by omega)) ?_ | refine oo (Pl rfl) ?_ | refine oo (Px rfl rfl) ?_ | refine oo (Pj rfl (by omega) (by omega)) ?_ | refine oo (Pk rfl (by omega) (by omega)) ?_ | refine oo (Pf rfl) ?_ | refine oo (Pv rfl (by omega) (by omega)) ?_ | refine oo (Pn rfl) ?_ | refine oo (Pm rfl) ?_ | refine os rfl rfl ?_ | refine ot rfl (by omega) ?_ | refine O_nil ?_) | refine wo rfl ?_ | refine wc rfl ?_ | refine wg rfl ?_ | refine go rfl ?_ | refine gc rfl ?_ | refine gg rfl ?_)
  refine W_loop (α := Nat) (fun n => [(3, .slice (some ⟨b2, 0, none⟩) l.length c2), (4, .int .u32 (kr l (n - 1) : Nat)), (5, .int .u32 n)])
    (fun n => ⟨true, b2, 0, codesV (canonUp l n 0) ++ s2⟩ :: ⟨own, b, 0, codesV l⟩ :: F) (fun n => 1 ≤ n ∧ n ≤ 21) (fun n => 21 - n) 1 ⟨by omega, by omega⟩ ⟨rfl, by rw [kr_below l 1 (1 - 1) (fun c hc => (hG.len c hc).1) (by omega)]; rfl, rfl, trivial⟩ ?_ ?_
  · try dsimp only
    rw [canonUp_first l (fun c hc => (hG.len c hc).1)]
    exact .rfl
  rintro n ⟨hn1, hn2⟩
  try dsimp only
  repeat' (first | (refine isO ?_; first | refine oo (Pc rfl) ?_ | refine oo (Pa rfl (by omega) (by omega)) ?_ | (refine ob rfl ?_ ?_ <;> intro hq <;> try (exfalso; omega)) | refine oo (Pi rfl (by omega)) ?_ | refine oo (Pl rfl) ?_ | refine oo (Px rfl rfl) ?_ | refine oo (Pj rfl (by omega) (by omega)) ?_ | refine oo (Pk rfl (by omega) (by omega)) ?_ | refine oo (Pf rfl) ?_ | refine oo (Pv rfl (by omega) (by omega)) ?_ | refine oo (Pn rfl) ?_ | refine oo (Pm rfl) ?_ | refine os rfl rfl ?_ | refine ot rfl (by omega) ?_ | refine O_nil ?_) | refine wo rfl ?_ | refine wc rfl ?_ | refine wg rfl ?_ | refine go rfl ?_ | refine gc rfl ?_ | refine gg rfl ?_)
  · obtain ⟨j, rfl⟩ : ∃ j, n = j + 1 := ⟨n - 1, by omega⟩
    have hst : kr l j * 2 = st l (j + 1) := by simp only [st, st_kr]; omega
    have hk1 := hkr j (by omega)
    have hk2 := hkr (j + 1) (by omega)
    have hk3 := st_kr l (j + 1)
    refine O_pure (P_shlE (p := kr l j) (q := 1) (r := st l (j + 1)) rfl rfl rfl (by rw [Nat.pow_one, hst]; exact Nat.mod_eq_of_lt (by simp only [IntKind.bits]; omega))) trivial rfl ?_
    repeat' (first | (refine isO ?_; first | refine oo (Pc rfl) ?_ | refine oo (Pa rfl (by omega) (by omega)) ?_ | (refine ob rfl ?_ ?_ <;> intro hq <;> try (exfalso; omega)) | refine oo (Pi rfl (by omega)) ?_ | refine oo (Pl rfl) ?_ | refine oo (Px rfl rfl) ?_ | refine oo (Pj rfl (by omega) (by omega)) ?_ | refine oo (Pk rfl (by omega) (by omega)) ?_ | refine oo (Pf rfl) ?_ | refine oo (Pv rfl (by omega) (by omega)) ?_ | refine oo (Pn rfl) ?_ | refine oo (Pm rfl) ?_ | refine os rfl rfl ?_ | refine ot rfl (by omega) ?_ | refine O_nil ?_) | refine wo rfl ?_ | refine wc rfl ?_ | refine wg rfl ?_ | refine go rfl ?_ | refine gc rfl ?_ | refine gg rfl ?_)
    refine W_loop (α := Nat) (fun i => [(3, .slice (some ⟨b2, 0, none⟩) l.length c2), (4, .int .u32 (st l (j + 1) + cntL (l.take i) (j + 1) : Nat)), (5, .int .u32 (j + 1 : Nat)), (6, .int .i64 i)])
      (fun i => ⟨true, b2, 0, codesV (canonUp l (j + 1) i) ++ s2⟩ :: ⟨own, b, 0, codesV l⟩ :: F) (fun i => i ≤ l.length) (fun i => l.length - i) 0 (by omega) ⟨rfl, rfl, rfl, rfl, trivial⟩ .rfl ?_
    intro i hi
    try dsimp only
    repeat' (first | (refine isO ?_; first | refine oo (Pc rfl) ?_ | refine oo (Pa rfl (by omega) (by omega)) ?_ | (refine ob rfl ?_ ?_ <;> intro hq <;> try (exfalso; omega)) | refine oo (Pi rfl (by omega)) ?_ | refine oo (Pl rfl) ?_ | refine oo (Px rfl rfl) ?_ | refine oo (Pj rfl (by omega) (by omega)) ?_ | refine oo (Pk rfl (by omega) (by omega)) ?_ | refine oo (Pf rfl) ?_ | refine oo (Pv rfl (by omega) (by omega)) ?_ | refine oo (Pn rfl) ?_ | refine oo (Pm rfl) ?_ | refine os rfl rfl ?_ | refine ot rfl (by omega) ?_ | refine O_nil ?_) | refine wo rfl ?_ | refine wc rfl ?_ | refine wg rfl ?_ | refine go rfl ?_ | refine gc rfl ?_ | refine gg rfl ?_)
    · have hil : i < l.length := by omega
      have hget : (codesV (canonUp l (j + 1) i) ++ s2)[i * 4 + 2]? = some (.int .u32 (l.getD i Cd.zero).len) := by
        rw [← canonUp_lenAt l (j + 1) i i hil]
        exact codesV_get (canonUp l (j + 1) i) s2 i 2 (by rw [canonUp_length]; exact hil) (by omega)
      have hcnt := cntL_take_succ l i (j + 1) hil
      have hcl : cntL (l.take i) (j + 1) ≤ 60 := Nat.le_trans (cntL_le _ _) (by simp; omega)
      refine O_pure (P_loadAt (o := 0) (n := i * 4 + 2) Tb.p40 rfl (by omega) (.head _) hget) trivial rfl ?_
      repeat' (first | (refine isO ?_; first | refine oo (Pc rfl) ?_ | refine oo (Pa rfl (by omega) (by omega)) ?_ | (refine ob rfl ?_ ?_ <;> intro hq <;> try (exfalso; omega)) | refine oo (Pi rfl (by omega)) ?_ | refine oo (Pl rfl) ?_ | refine oo (Px rfl rfl) ?_ | refine oo (Pj rfl (by omega) (by omega)) ?_ | refine oo (Pk rfl (by omega) (by omega)) ?_ | refine oo (Pf rfl) ?_ | refine oo (Pv rfl (by omega) (by omega)) ?_ | refine oo (Pn rfl) ?_ | refine oo (Pm rfl) ?_ | refine os rfl rfl ?_ | refine ot rfl (by omega) ?_ | refine O_nil ?_) | refine wo rfl ?_ | refine wc rfl ?_ | refine wg rfl ?_ | refine go rfl ?_ | refine gc rfl ?_ | refine gg rfl ?_)
      · have hle : (l.getD i Cd.zero).len = j + 1 := Int.ofNat.inj hq
        rw [if_pos hle] at hcnt
        refine O_callP rfl rfl Tb.k45 trivial rfl (turned_c (st l (j + 1) + cntL (l.take i) (j + 1)) (j + 1) (by omega) (by omega) _) ?_
        repeat' (first | (refine isO ?_; first | refine oo (Pc rfl) ?_ | refine oo (Pa rfl (by omega) (by omega)) ?_ | (refine ob rfl ?_ ?_ <;> intro hq <;> try (exfalso; omega)) | refine oo (Pi rfl (by omega)) ?_ | refine oo (Pl rfl) ?_ | refine oo (Px rfl rfl) ?_ | refine oo (Pj rfl (by omega) (by omega)) ?_ | refine oo (Pk rfl (by omega) (by omega)) ?_ | refine oo (Pf rfl) ?_ | refine oo (Pv rfl (by omega) (by omega)) ?_ | refine oo (Pn rfl) ?_ | refine oo (Pm rfl) ?_ | refine os rfl rfl ?_ | refine ot rfl (by omega) ?_ | refine O_nil ?_) | refine wo rfl ?_ | refine wc rfl ?_ | refine wg rfl ?_ | refine go rfl ?_ | refine gc rfl ?_ | refine gg rfl ?_)
        have hval : valAt l i = T (j + 1) (st l (j + 1) + cntL (l.take i) (j + 1)) := by unfold valAt; rw [hle]
        refine O_storeAt (o := 0) (n := i * 4 + 3) (l := codesV (canonUp l (j + 1) i) ++ s2) Tb.c40 rfl (by omega) rfl rfl trivial (by rw [List.length_append, codesV_length, canonUp_length]; omega)
          ((codesV_set (canonUp l (j + 1) i) s2 i (by rw [canonUp_length]; exact hil) (T (j + 1) (st l (j + 1) + cntL (l.take i) (j + 1)))).trans (by rw [← hval, canonUp_set l (j + 1) i hil hle])) .head ?_
        repeat' (first | (refine isO ?_; first | refine oo (Pc rfl) ?_ | refine oo (Pa rfl (by omega) (by omega)) ?_ | (refine ob rfl ?_ ?_ <;> intro hq <;> try (exfalso; omega)) | refine oo (Pi rfl (by omega)) ?_ | refine oo (Pl rfl) ?_ | refine oo (Px rfl rfl) ?_ | refine oo (Pj rfl (by omega) (by omega)) ?_ | refine oo (Pk rfl (by omega) (by omega)) ?_ | refine oo (Pf rfl) ?_ | refine oo (Pv rfl (by omega) (by omega)) ?_ | refine oo (Pn rfl) ?_ | refine oo (Pm rfl) ?_ | refine os rfl rfl ?_ | refine ot rfl (by omega) ?_ | refine O_nil ?_) | refine wo rfl ?_ | refine wc rfl ?_ | refine wg rfl ?_ | refine go rfl ?_ | refine gc rfl ?_ | refine gg rfl ?_)
        exact G_stop ⟨i + 1, by omega, by omega, ⟨rfl, by rw [hcnt]; rfl, rfl, rfl, trivial⟩, .rfl⟩
      · have hle : (l.getD i Cd.zero).len ≠ j + 1 := fun h => hq (congrArg Nat.cast h)
        rw [if_neg hle] at hcnt
        refine G_stop ⟨i + 1, by omega, by omega, ⟨rfl, by rw [hcnt]; rfl, rfl, rfl, trivial⟩, ?_⟩
        rw [← canonUp_skip l (j + 1) i hle]
        exact .rfl
    · obtain rfl : i = l.length := by omega
      refine G_stop ⟨j + 1 + 1, ⟨by omega, by omega⟩, by omega, ⟨rfl, ?_, rfl, trivial⟩, ?_⟩
      · rw [Nat.add_sub_cancel, ← hk3, List.take_length]; rfl
      · rw [canonUp_next]; exact .rfl
  · obtain rfl : n = 21 := by omega
    refine G_fin ⟨_, rfl, b2, c2, s2, rfl, ?_⟩
    rw [canonUp_last l (fun c hc => (hG.len c hc).2)]
    exact .rfl
end Go.Proofs.Ytjkpfliaflmppaa.Pc
