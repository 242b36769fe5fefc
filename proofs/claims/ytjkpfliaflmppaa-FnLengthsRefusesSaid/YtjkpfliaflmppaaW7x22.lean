/- spec.Whole and spec.Canonical, walked. laws.lined, walked: codes with symbols in order and lengths, of handed bytes; or false. For any bytes. Handed bytes, as the engine has them. No condition. Handed 32-bit numbers, as the engine has them. No condition. -/
import Derived.Test.YtjkpfliaflmppaaW7x21
import Derived.Test.YtjkpfliaflmppaaW7x05
import Derived.Test.YtjkpfliaflmppaaW7x10
import Derived.Test.YtjkpfliaflmppaaW7x20
import Derived.Test.YtjkpfliaflmppaaRows
import Derived.WalkKit
import Derived.ProofKit
import Derived.OpenShut
import Derived.Carry
import Derived.JoinedCond
import Derived.Test.YtjkpfliaflmppaaW7x17

namespace Go.Proofs.Ytjkpfliaflmppaa.Pc
open Go Go.RowKit Go.Proofs.Ytjkpfliaflmppaa.Vm Go.Proofs.Ytjkpfliaflmppaa.Rev

open Classical in
theorem whole_c (l : List Cd) (b cap : Nat) (own : Bool) (sp : List Value) (M : Mem) (hm : (⟨own, b, 0, codesV l ++ sp⟩ : Sg) ∈ M) (hlen : ∀ c ∈ l, 1 ≤ c.len ∧ c.len ≤ 20) (h60 : l.length ≤ 60) :
    HP Try.prog 15 #[.slice (some ⟨b, 0, none⟩) l.length cap] M (.bool (decide (whole l))) := by
  refine HP.of (HC_of_W (fn := Try.f15) Try.func15 rfl rfl rfl rfl ?_)
  repeat' (first | (refine isO ?_; first | refine oo (Pc rfl) ?_ | refine oo (Pa rfl (by omega) (by omega)) ?_ | (refine ob rfl ?_ ?_ <;> intro hq <;> try (exfalso; omega)) | refine oo (Pi rfl (by omega)) ?_ | refine oo (Pl rfl) ?_ | refine oo (Px rfl rfl) ?_ | refine oo (Pj rfl (by omega) (by omega)) ?_ | refine oo (Pk rfl (by omega) (by omega)) ?_ | refine oo (Pf rfl) ?_ | refine oo (Pv rfl (by omega) (by omega)) ?_ | refine oo (Pn rfl) ?_ | refine oo (Pm rfl) ?_ | refine os rfl rfl ?_ | refine ot rfl (by omega) ?_ | refine O_nil ?_) | refine wo rfl ?_ | refine wc rfl ?_ | refine wg rfl ?_ | refine go rfl ?_ | refine gc rfl ?_ | refine gg rfl ?_)
  refine O_callP rfl rfl Tb.k44 trivial rfl (kraft_c l b cap own sp M hm hlen h60) ?_
  refine O_pure (P_cmp rfl rfl rfl) trivial rfl ?_
  repeat' (first | (refine isO ?_; first | refine oo (Pc rfl) ?_ | refine oo (Pa rfl (by omega) (by omega)) ?_ | (refine ob rfl ?_ ?_ <;> intro hq <;> try (exfalso; omega)) | refine oo (Pi rfl (by omega)) ?_ | refine oo (Pl rfl) ?_ | refine oo (Px rfl rfl) ?_ | refine oo (Pj rfl (by omega) (by omega)) ?_ | refine oo (Pk rfl (by omega) (by omega)) ?_ | refine oo (Pf rfl) ?_ | refine oo (Pv rfl (by omega) (by omega)) ?_ | refine oo (Pn rfl) ?_ | refine oo (Pm rfl) ?_ | refine os rfl rfl ?_ | refine ot rfl (by omega) ?_ | refine O_nil ?_) | refine wo rfl ?_ | refine wc rfl ?_ | refine wg rfl ?_ | refine go rfl ?_ | refine gc rfl ?_ | refine gg rfl ?_)
  refine G_fin ⟨_, rfl, congrArg Value.bool ?_⟩
  have h := ks_kr l (fun c hc => (hlen c hc).2)
  have h20 : (2:Nat) ^ 20 = 1048576 := by decide
  unfold whole
  rw [← h, h20]
  by_cases hk : ks l = 1048576
  · simp [hk]
  · have : ¬ ((ks l : Nat) : Int) = 1048576 := by omega
    simp [hk, this]

/-- The codes on the way: those of less than n bits, and those of n bits up to place i, have their values. -/
def canonUp (l : List Cd) (n i : Nat) : List Cd := (List.range l.length).map fun j => if (l.getD j Cd.zero).len < n ∨ ((l.getD j Cd.zero).len = n ∧ j < i) then { l.getD j Cd.zero with val := valAt l j } else l.getD j Cd.zero
theorem canonUp_length (l : List Cd) (n i : Nat) : (canonUp l n i).length = l.length := by simp [canonUp]
theorem canonUp_get (l : List Cd) (n i j : Nat) (h : j < l.length) : (canonUp l n i).getD j Cd.zero = if (l.getD j Cd.zero).len < n ∨ ((l.getD j Cd.zero).len = n ∧ j < i) then { l.getD j Cd.zero with val := valAt l j } else l.getD j Cd.zero := by
  simp [canonUp, h]
theorem cds_ext {l m : List Cd} (h : l.length = m.length) (h2 : ∀ j, j < l.length → l.getD j Cd.zero = m.getD j Cd.zero) : l = m := by
  apply List.ext_getElem h
  intro j h3 h4
  have := h2 j h3
  simpa [h3, h4] using this
theorem canonUp_lenAt (l : List Cd) (n i j : Nat) (h : j < l.length) : ((canonUp l n i).getD j Cd.zero).len = (l.getD j Cd.zero).len := by
  rw [canonUp_get l n i j h]; split <;> rfl
theorem canonUp_set (l : List Cd) (n i : Nat) (h : i < l.length) (hn : (l.getD i Cd.zero).len = n) : (canonUp l n i).set i { (canonUp l n i).getD i Cd.zero with val := valAt l i } = canonUp l n (i + 1) := by
  refine cds_ext (by simp [canonUp_length]) fun j hj => ?_
  have hj' : j < l.length := by simpa [canonUp_length] using hj
  rw [canonUp_get l n (i + 1) j hj']
  by_cases hij : i = j
  · subst hij
    have : i < (canonUp l n i).length := by rw [canonUp_length]; exact h
    simp only [List.getD_eq_getElem?_getD, List.getElem?_set_self this, Option.getD_some]
    rw [← List.getD_eq_getElem?_getD, ← List.getD_eq_getElem?_getD, canonUp_get l n i i h]
    rw [if_pos (show (l.getD i Cd.zero).len < n ∨ ((l.getD i Cd.zero).len = n ∧ i < i + 1) from .inr ⟨hn, by omega⟩), if_neg (by omega)]
  · have e : ((canonUp l n i).set i { (canonUp l n i).getD i Cd.zero with val := valAt l i }).getD j Cd.zero = (canonUp l n i).getD j Cd.zero := by
      simp only [List.getD_eq_getElem?_getD, List.getElem?_set_ne hij]
    rw [e, canonUp_get l n i j hj']
    have : ((l.getD j Cd.zero).len < n ∨ ((l.getD j Cd.zero).len = n ∧ j < i)) ↔ ((l.getD j Cd.zero).len < n ∨ ((l.getD j Cd.zero).len = n ∧ j < i + 1)) := by omega
    simp only [this]
theorem canonUp_skip (l : List Cd) (n i : Nat) (hn : (l.getD i Cd.zero).len ≠ n) : canonUp l n i = canonUp l n (i + 1) := by
  refine cds_ext (by simp [canonUp_length]) fun j hj => ?_
  have hj' : j < l.length := by simpa [canonUp_length] using hj
  rw [canonUp_get l n i j hj', canonUp_get l n (i + 1) j hj']
  have : ((l.getD j Cd.zero).len < n ∨ ((l.getD j Cd.zero).len = n ∧ j < i)) ↔ ((l.getD j Cd.zero).len < n ∨ ((l.getD j Cd.zero).len = n ∧ j < i + 1)) := by
    by_cases hij : j = i
    · subst hij; omega
    · omega
  simp only [this]
theorem canonUp_next (l : List Cd) (n : Nat) : canonUp l n l.length = canonUp l (n + 1) 0 := by
  refine cds_ext (by simp [canonUp_length]) fun j hj => ?_
  have hj' : j < l.length := by simpa [canonUp_length] using hj
  rw [canonUp_get l n _ j hj', canonUp_get l (n + 1) 0 j hj']
  have : ((l.getD j Cd.zero).len < n ∨ ((l.getD j Cd.zero).len = n ∧ j < l.length)) ↔ ((l.getD j Cd.zero).len < n + 1 ∨ ((l.getD j Cd.zero).len = n + 1 ∧ j < 0)) := by omega
  simp only [this]
theorem getD_mem (l : List Cd) (j : Nat) (h : j < l.length) : l.getD j Cd.zero ∈ l := by
  rw [show l.getD j Cd.zero = l[j] by simp [h]]
  exact List.getElem_mem _
theorem canonUp_first (l : List Cd) (h : ∀ c ∈ l, 1 ≤ c.len) : canonUp l 1 0 = l := by
  refine cds_ext (canonUp_length l 1 0) fun j hj => ?_
  have hj' : j < l.length := by simpa [canonUp_length] using hj
  rw [canonUp_get l 1 0 j hj', if_neg]
  have := h _ (getD_mem l j hj')
  omega
theorem canonUp_last (l : List Cd) (h : ∀ c ∈ l, c.len ≤ 20) : canonUp l 21 0 = canon l := by
  refine cds_ext (by rw [canonUp_length, canon_length]) fun j hj => ?_
  have hj' : j < l.length := by simpa [canonUp_length] using hj
  rw [canonUp_get l 21 0 j hj', canon_get l j hj', if_pos]
  have := h _ (getD_mem l j hj')
  omega

theorem cntL_take_succ (l : List Cd) (i n : Nat) (h : i < l.length) : cntL (l.take (i + 1)) n = cntL (l.take i) n + (if (l.getD i Cd.zero).len = n then 1 else 0) := by
  rw [take_succ_getD l i h, cntL_append, cntL_cons, cntL_nil, Nat.add_zero]

theorem row23_0 (w : World) : (Instr.buildSlice 23 0 [].toArray).run Try.prog w = .ok (.slice (some ⟨w.heap.size, 0, none⟩) 0 0) (w.alloc (.cells [].toArray 42)) := by kernel_rfl

theorem canonical_c (l : List Cd) (hG : Good l) (own : Bool) (b cap : Nat) (sp : List Value) (F : Mem) :
    HC Try.prog 17 #[.slice (some ⟨b, 0, none⟩) l.length cap] (⟨own, b, 0, codesV l ++ sp⟩ :: F)
      (fun v M' => ∃ b' c' sp', v = .slice (some ⟨b', 0, none⟩) l.length c' ∧ Rk M' (⟨true, b', 0, codesV (canon l) ++ sp'⟩ :: ⟨own, b, 0, codesV l⟩ :: F)) := by
  obtain ⟨I, hI, hI1, hI2, hI3⟩ := of_info info42
  have h2 := hG.two
  have h60 := hG.most
  refine HC_of_W (fn := Try.f17) Try.func17 rfl rfl rfl rfl ?_
  repeat' (first | (refine isO ?_; first | refine oo (Pc rfl) ?_ | refine oo (Pa rfl (by omega) (by omega)) ?_ | (refine ob rfl ?_ ?_ <;> intro hq <;> try (exfalso; omega)) | refine oo (Pi rfl (by omega)) ?_ | refine oo (Pl rfl) ?_ | refine oo (Px rfl rfl) ?_ | refine oo (Pj rfl (by omega) (by omega)) ?_ | refine oo (Pk rfl (by omega) (by omega)) ?_ | refine oo (Pf rfl) ?_ | refine oo (Pv rfl (by omega) (by omega)) ?_ | refine oo (Pn rfl) ?_ | refine oo (Pm rfl) ?_ | refine os rfl rfl ?_ | refine ot rfl (by omega) ?_ | refine O_nil ?_) | refine wo rfl ?_ | refine wc rfl ?_ | refine wg rfl ?_ | refine go rfl ?_ | refine gc rfl ?_ | refine gg rfl ?_)
  refine O_split (xs := codesV l) (ys := sp) (o2 := 0 + (codesV l).length) rfl rfl ?_
  refine O_weak (M' := ⟨own, b, 0, codesV l⟩ :: F) (.cons .head (.drop .rfl)) ?_
  refine O_buildSlice rfl row23_0 trivial rfl fun bz => ?_
  repeat' (first | (refine isO ?_; first | refine oo (Pc rfl) ?_ | refine oo (Pa rfl (by omega) (by omega)) ?_ | (refine ob rfl ?_ ?_ <;> intro hq <;> try (exfalso; omega)) | refine oo (Pi rfl (by omega)) ?_ | refine oo (Pl rfl) ?_ | refine oo (Px rfl rfl) ?_ | refine oo (Pj rfl (by omega) (by omega)) ?_ | refine oo (Pk rfl (by omega) (by omega)) ?_ | refine oo (Pf rfl) ?_ | refine oo (Pv rfl (by omega) (by omega)) ?_ | refine oo (Pn rfl) ?_ | refine oo (Pm rfl) ?_ | refine os rfl rfl ?_ | refine ot rfl (by omega) ?_ | refine O_nil ?_) | refine wo rfl ?_ | refine wc rfl ?_ | refine wg rfl ?_ | refine go rfl ?_ | refine gc rfl ?_ | refine gg rfl ?_)
  refine O_append (len := 0) (size := 4) (xs := []) (m := [⟨true, bz, 0, []⟩]) (M0 := ⟨own, b, 0, codesV l⟩ :: F) Tb.u23 Tb.u23 hI hI1 (by decide) (by omega) hI3 rfl rfl rfl (.inr ⟨bz, 0, 0, [], rfl, rfl, rfl, rfl⟩) .rfl rfl (.head _) (by rw [codesV_length]; omega) (codesV_one l) (.inl (by omega)) (by rw [hI2]; omega) trivial rfl fun b2 c2 s2 hlen => ?_
  have e : [] ++ List.take (l.length * 4) (codesV l) ++ s2 = codesV l ++ s2 := by
    rw [List.nil_append, ← codesV_length, List.take_length]
  refine O_weak (M' := ⟨true, b2, 0, codesV l ++ s2⟩ :: ⟨own, b, 0, codesV l⟩ :: F) (by rw [e]; exact .rfl) ?_
  clear e hlen
  rw [Nat.zero_add]
  have hkr : ∀ n, n ≤ 20 → kr l n < 2 ^ 31 := fun n hn => by
    have h1 := kr_le l n
    have h3 : l.length * 2 ^ n ≤ 60 * 2 ^ 20 := Nat.mul_le_mul h60 (Nat.pow_le_pow_right (by omega) hn)
    omega
  repeat' (first | (refine isO ?_; first | refine oo (Pc rfl) ?_ | refine oo (Pa rfl (by omega) (by omega)) ?_ | (refine ob rfl ?_ ?_ <;> intro hq <;> try (exfalso; omega)) | refine oo (Pi rfl (by omega)) ?_ | refine oo (Pl rfl) ?_ | refine oo (Px rfl rfl) ?_ | refine oo (Pj rfl (by omega) (by omega)) ?_ | refine oo (Pk rfl (by omega) (by omega)) ?_ | refine oo (Pf rfl) ?_ | refine oo (Pv rfl (by omega) (by omega)) ?_ | refine oo (Pn rfl) ?_ | refine oo (Pm rfl) ?_ | refine os rfl rfl ?_ | refine ot rfl (by omega) ?_ | refine O_nil ?_) | refine wo rfl ?_ | refine wc rfl ?_ | refine wg rfl ?_ | refine go rfl ?_ | refine gc rfl ?_ | refine gg rfl ?_)
  refine W_loop (α := Nat) (fun n => [(3, .slice (some ⟨b2, 0, none⟩) l.length c2), (4, .int .u32 (kr l (n - 1) : Nat)), (5, .int .u32 n)])
    (fun n => ⟨true, b2, 0, codesV (canonUp l n 0) ++ s2⟩ :: ⟨own, b, 0, codesV l⟩ :: F) (fun n => 1 ≤ n ∧ n ≤ 21) (fun n => 21 - n) 1 ⟨by omega, by omega⟩ ⟨rfl, by rw [kr_below l 1 (1 - 1) (fun c hc => (hG.len c hc).1) (by omega)]; rfl, rfl, trivial⟩ ?_ ?_
  · try dsimp only
    rw [canonUp_first l (fun c hc => (hG.len c hc).1)]
    exact .rfl
  rintro n ⟨hn1, hn2⟩
  try dsimp only
  repeat' (first | (refine isO ?_; first | refine oo (Pc rfl) ?_ | refine oo (Pa rfl (by omega) (by omega)) ?_ | (refine ob rfl ?_ ?_ <;> intro hq <;> try (exfalso; omega)) | refine oo (Pi rfl (by omega)) ?_ | refine oo (Pl rfl) ?_ | refine oo (Px rfl rfl) ?_ | refine oo (Pj rfl (by omega) (by omega)) ?_ | refine oo (Pk rfl (by omega) (by omega)) ?_ | refine oo (Pf rfl) ?_ | refine oo (Pv rfl (by omega) (by omega)) ?_ | refine oo (Pn rfl) ?_ | refine oo (Pm rfl) ?_ | refine os rfl rfl ?_ | refine ot rfl (by omega) ?_ | refine O_nil ?_) | refine wo rfl ?_ | refine wc rfl ?_ | refine wg rfl ?_ | refine go rfl ?_ | refine gc rfl ?_ | refine gg rfl ?_)
  · obtain ⟨j, rfl⟩ : ∃ j, n = j + 1 := ⟨n - 1, by omega⟩
    have hst : kr l j * 2 = st l (j + 1) := by simp only [st, st_kr]; omega
    have hk1 := hkr j (by omega)
    have hk2 := hkr (j + 1) (by omega)
    have hk3 := st_kr l (j + 1)
    refine O_pure (P_shlE (p := kr l j) (q := 1) (r := st l (j + 1)) rfl rfl rfl (by rw [Nat.pow_one, hst]; exact Nat.mod_eq_of_lt (by simp only [IntKind.bits]; omega))) trivial rfl ?_
    repeat' (first | (refine isO ?_; first | refine oo (Pc rfl) ?_ | refine oo (Pa rfl (by omega) (by omega)) ?_ | (refine ob rfl ?_ ?_ <;> intro hq <;> try (exfalso; omega)) | refine oo (Pi rfl (by omega)) ?_ | refine oo (Pl rfl) ?_ | refine oo (Px rfl rfl) ?_ | refine oo (Pj rfl (by omega) (by omega)) ?_ | refine oo (Pk rfl (by omega) (by omega)) ?_ | refine oo (Pf rfl) ?_ | refine oo (Pv rfl (by omega) (by omega)) ?_ | refine oo (Pn rfl) ?_ | refine oo (Pm rfl) ?_ | refine os rfl rfl ?_ | refine ot rfl (by omega) ?_ | refine O_nil ?_) | refine wo rfl ?_ | refine wc rfl ?_ | refine wg rfl ?_ | refine go rfl ?_ | refine gc rfl ?_ | refine gg rfl ?_)
    refine W_loop (α := Nat) (fun i => [(3, .slice (some ⟨b2, 0, none⟩) l.length c2), (4, .int .u32 (st l (j + 1) + cntL (l.take i) (j + 1) : Nat)), (5, .int .u32 (j + 1 : Nat)), (6, .int .i64 i)])
      (fun i => ⟨true, b2, 0, codesV (canonUp l (j + 1) i) ++ s2⟩ :: ⟨own, b, 0, codesV l⟩ :: F) (fun i => i ≤ l.length) (fun i => l.length - i) 0 (by omega) ⟨rfl, rfl, rfl, rfl, trivial⟩ .rfl ?_
    intro i hi
    try dsimp only
    repeat' (first | (refine isO ?_; first | refine oo (Pc rfl) ?_ | refine oo (Pa rfl (by omega) (by omega)) ?_ | (refine ob rfl ?_ ?_ <;> intro hq <;> try (exfalso; omega)) | refine oo (Pi rfl (by omega)) ?_ | refine oo (Pl rfl) ?_ | refine oo (Px rfl rfl) ?_ | refine oo (Pj rfl (by omega) (by omega)) ?_ | refine oo (Pk rfl (by omega) (by omega)) ?_ | refine oo (Pf rfl) ?_ | refine oo (Pv rfl (by omega) (by omega)) ?_ | refine oo (Pn rfl) ?_ | refine oo (Pm rfl) ?_ | refine os rfl rfl ?_ | refine ot rfl (by omega) ?_ | refine O_nil ?_) | refine wo rfl ?_ | refine wc rfl ?_ | refine wg rfl ?_ | refine go rfl ?_ | refine gc rfl ?_ | refine gg rfl ?_)
    · have hil : i < l.length := by omega
      have hget : (codesV (canonUp l (j + 1) i) ++ s2)[i * 4 + 2]? = some (.int .u32 (l.getD i Cd.zero).len) := by
        rw [← canonUp_lenAt l (j + 1) i i hil]
        exact codesV_get (canonUp l (j + 1) i) s2 i 2 (by rw [canonUp_length]; exact hil) (by omega)
      have hcnt := cntL_take_succ l i (j + 1) hil
      have hcl : cntL (l.take i) (j + 1) ≤ 60 := Nat.le_trans (cntL_le _ _) (by simp; omega)
      refine O_pure (P_loadAt (o := 0) (n := i * 4 + 2) Tb.p40 rfl (by omega) (.head _) hget) trivial rfl ?_
      repeat' (first | (refine isO ?_; first | refine oo (Pc rfl) ?_ | refine oo (Pa rfl (by omega) (by omega)) ?_ | (refine ob rfl ?_ ?_ <;> intro hq <;> try (exfalso; omega)) | refine oo (Pi rfl (by omega)) ?_ | refine oo (Pl rfl) ?_ | refine oo (Px rfl rfl) ?_ | refine oo (Pj rfl (by omega) (by omega)) ?_ | refine oo (Pk rfl (by omega) (by omega)) ?_ | refine oo (Pf rfl) ?_ | refine oo (Pv rfl (by omega) (by omega)) ?_ | refine oo (Pn rfl) ?_ | refine oo (Pm rfl) ?_ | refine os rfl rfl ?_ | refine ot rfl (by omega) ?_ | refine O_nil ?_) | refine wo rfl ?_ | refine wc rfl ?_ | refine wg rfl ?_ | refine go rfl ?_ | refine gc rfl ?_ | refine gg rfl ?_)
      · have hle : (l.getD i Cd.zero).len = j + 1 := Int.ofNat.inj hq
        rw [if_pos hle] at hcnt
        refine O_callP rfl rfl Tb.k45 trivial rfl (turned_c (st l (j + 1) + cntL (l.take i) (j + 1)) (j + 1) (by omega) (by omega) _) ?_
        repeat' (first | (refine isO ?_; first | refine oo (Pc rfl) ?_ | refine oo (Pa rfl (by omega) (by omega)) ?_ | (refine ob rfl ?_ ?_ <;> intro hq <;> try (exfalso; omega)) | refine oo (Pi rfl (by omega)) ?_ | refine oo (Pl rfl) ?_ | refine oo (Px rfl rfl) ?_ | refine oo (Pj rfl (by omega) (by omega)) ?_ | refine oo (Pk rfl (by omega) (by omega)) ?_ | refine oo (Pf rfl) ?_ | refine oo (Pv rfl (by omega) (by omega)) ?_ | refine oo (Pn rfl) ?_ | refine oo (Pm rfl) ?_ | refine os rfl rfl ?_ | refine ot rfl (by omega) ?_ | refine O_nil ?_) | refine wo rfl ?_ | refine wc rfl ?_ | refine wg rfl ?_ | refine go rfl ?_ | refine gc rfl ?_ | refine gg rfl ?_)
        have hval : valAt l i = T (j + 1) (st l (j + 1) + cntL (l.take i) (j + 1)) := by unfold valAt; rw [hle]
        refine O_storeAt (o := 0) (n := i * 4 + 3) (l := codesV (canonUp l (j + 1) i) ++ s2) Tb.c40 rfl (by omega) rfl rfl trivial (by rw [List.length_append, codesV_length, canonUp_length]; omega)
          ((codesV_set (canonUp l (j + 1) i) s2 i (by rw [canonUp_length]; exact hil) (T (j + 1) (st l (j + 1) + cntL (l.take i) (j + 1)))).trans (by rw [← hval, canonUp_set l (j + 1) i hil hle])) .head ?_
        repeat' (first | (refine isO ?_; first | refine oo (Pc rfl) ?_ | refine oo (Pa rfl (by omega) (by omega)) ?_ | (refine ob rfl ?_ ?_ <;> intro hq <;> try (exfalso; omega)) | refine oo (Pi rfl (by omega)) ?_ | refine oo (Pl rfl) ?_ | refine oo (Px rfl rfl) ?_ | refine oo (Pj rfl (by omega) (by omega)) ?_ | refine oo (Pk rfl (by omega) (by omega)) ?_ | refine oo (Pf rfl) ?_ | refine oo (Pv rfl (by omega) (by omega)) ?_ | refine oo (Pn rfl) ?_ | refine oo (Pm rfl) ?_ | refine os rfl rfl ?_ | refine ot rfl (by omega) ?_ | refine O_nil ?_) | refine wo rfl ?_ | refine wc rfl ?_ | refine wg rfl ?_ | refine go rfl ?_ | refine gc rfl ?_ | refine gg rfl ?_)
        exact G_stop ⟨i + 1, by omega, by omega, ⟨rfl, by rw [hcnt]; rfl, rfl, rfl, trivial⟩, .rfl⟩
      · have hle : (l.getD i Cd.zero).len ≠ j + 1 := fun h => hq (congrArg Nat.cast h)
        rw [if_neg hle] at hcnt
        refine G_stop ⟨i + 1, by omega, by omega, ⟨rfl, by rw [hcnt]; rfl, rfl, rfl, trivial⟩, ?_⟩
        rw [← canonUp_skip l (j + 1) i hle]
        exact .rfl
    · obtain rfl : i = l.length := by omega
      refine G_stop ⟨j + 1 + 1, ⟨by omega, by omega⟩, by omega, ⟨rfl, ?_, rfl, trivial⟩, ?_⟩
      · rw [Nat.add_sub_cancel, ← hk3, List.take_length]; rfl
      · rw [canonUp_next]; exact .rfl
  · obtain rfl : n = 21 := by omega
    refine G_fin ⟨_, rfl, b2, c2, s2, rfl, ?_⟩
    rw [canonUp_last l (fun c hc => (hG.len c hc).2)]
    exact .rfl
end Go.Proofs.Ytjkpfliaflmppaa.Pc

namespace Go.Proofs.Ytjkpfliaflmppaa.Pc
open Go Go.RowKit Go.Proofs.Ytjkpfliaflmppaa.Vm Go.Proofs.Ytjkpfliaflmppaa.Rev

/-- A handed slice of bytes. -/
def Bs (s : Value) (xs : List Nat) (M : Mem) : Prop :=
  (∀ x ∈ xs, x < 256) ∧ ∃ ad cap, s = .slice ad xs.length cap ∧ (xs = [] ∨ ∃ b o, ad = some ⟨b, o, none⟩ ∧ (⟨false, b, o, ints .u8 (xs.map Nat.cast)⟩ : Sg) ∈ M)

theorem Bs.at {s : Value} {xs : List Nat} {M : Mem} {i : Nat} (h : Bs s xs M) (hi : i < xs.length) :
    ∃ b o cap, s = .slice (some ⟨b, o, none⟩) xs.length cap ∧ (⟨false, b, o, ints .u8 (xs.map Nat.cast)⟩ : Sg) ∈ M ∧ (ints .u8 (xs.map Nat.cast))[i]? = some (.int .u8 (xs.getD i 0 : Nat)) ∧ xs.getD i 0 < 256 := by
  obtain ⟨h1, ad, cap, rfl, rfl | ⟨b, o, rfl, hm⟩⟩ := h
  · simp at hi
  · refine ⟨b, o, cap, rfl, hm, ?_, ?_⟩
    · rw [ints_get (by simpa using hi)]
      simp [hi]
    · rw [show xs.getD i 0 = xs[i] by simp [hi]]
      exact h1 _ (List.getElem_mem hi)

/-- The symbols: the first one, and how many more each next one is. -/
def symAt (first : Nat) (ss : List Nat) : Nat → Nat
  | 0 => first
  | i + 1 => symAt first ss i + 1 + (if i + 1 ≤ ss.length then ss.getD i 0 else 0)
theorem symAt_le (first : Nat) (ss : List Nat) (hf : first < 256) (hs : ∀ x ∈ ss, x < 256) : ∀ i, symAt first ss i < 256 * (i + 1)
  | 0 => by simpa [symAt] using hf
  | i + 1 => by
    have ih := symAt_le first ss hf hs i
    simp only [symAt]
    have : (if i + 1 ≤ ss.length then ss.getD i 0 else 0) < 256 := by
      split
      · rename_i h
        have hi : i < ss.length := by omega
        rw [show ss.getD i 0 = ss[i] by simp [hi]]
        exact hs _ (List.getElem_mem hi)
      · omega
    omega
def linedL (first : Nat) (ss ls : List Nat) : List Cd := (List.range ls.length).map fun i => ⟨symAt first ss i, 0, ls.getD i 0, 0⟩
theorem linedL_length (first : Nat) (ss ls : List Nat) : (linedL first ss ls).length = ls.length := by simp [linedL]
theorem linedL_get (first : Nat) (ss ls : List Nat) (i : Nat) (h : i < ls.length) : (linedL first ss ls).getD i Cd.zero = ⟨symAt first ss i, 0, ls.getD i 0, 0⟩ := by simp [linedL, h]
/-- Lengths that are spoken of. -/
def OkL (ls : List Nat) : Prop := 2 ≤ ls.length ∧ ls.length ≤ 60 ∧ ∀ i, i < ls.length → 1 ≤ ls.getD i 0 ∧ ls.getD i 0 ≤ 20

theorem lined_good (first : Nat) (ss ls : List Nat) (hf : first < 256) (hs : ∀ x ∈ ss, x < 256) (h : OkL ls) : Good (linedL first ss ls) := by
  obtain ⟨h1, h2, h3⟩ := h
  refine ⟨by rw [linedL_length]; exact h1, by rw [linedL_length]; exact h2, ?_, ?_, ?_⟩
  · intro c hc
    simp only [linedL, List.mem_map, List.mem_range] at hc
    obtain ⟨i, hi, rfl⟩ := hc
    exact h3 i hi
  · intro i hi
    rw [linedL_length] at hi
    rw [linedL_get _ _ _ _ (by omega), linedL_get _ _ _ _ hi]
    simp only [symAt]
    omega
  · intro c hc
    simp only [linedL, List.mem_map, List.mem_range] at hc
    obtain ⟨i, hi, rfl⟩ := hc
    have := symAt_le first ss hf hs i
    have : 256 * (i + 1) ≤ 256 * 61 := Nat.mul_le_mul_left _ (by omega)
    simp only
    omega

theorem build42e (a : Int) (n z : Nat) (h : a = (n : Int)) (w : World) : (Instr.build 42 [(0, .int .u32 a), (2, .int .u32 (z : Int))].toArray).run Try.prog w = .ok (.agg [.int .u32 (n : Int), .int .u32 (0 : Nat), .int .u32 (z : Int), .int .u32 (0 : Nat)].toArray) w := by
  subst h; exact build42s _ _ w

theorem lined_c (first : Nat) (s2 s3 : Value) (ss ls : List Nat) (M : Mem) (hf : first < 256) (h2 : Bs s2 ss M) (h3 : Bs s3 ls M) (hz : ss.length ≤ 2147483647) :
    HC Try.prog 12 #[.int .u8 first, s2, s3] M
      (fun v M' => (OkL ls ∧ ∃ sv m, Own sv 4 (codesV (linedL first ss ls)) m ∧ v = .tuple #[sv, .bool true] ∧ Rk M' (m ++ M)) ∨ (¬ OkL ls ∧ v = .tuple #[.slice none 0 0, .bool false] ∧ Rk M' M)) := by
  obtain ⟨I, hI, hI1, hI2, hI3⟩ := of_info info42
  obtain ⟨a2, c2, e2⟩ : ∃ a c, s2 = .slice a ss.length c := ⟨_, _, h2.2.choose_spec.choose_spec.1⟩
  obtain ⟨a3, c3, e3⟩ : ∃ a c, s3 = .slice a ls.length c := ⟨_, _, h3.2.choose_spec.choose_spec.1⟩
  subst e2
  subst e3
  refine HC_of_W (fn := Try.f12) Try.func12 rfl rfl rfl rfl ?_
  repeat' (first | (refine isO ?_; first | refine oo (Pc rfl) ?_ | refine oo (Pa rfl (by omega) (by omega)) ?_ | (refine ob rfl ?_ ?_ <;> intro hq <;> try (exfalso; omega)) | refine oo (Pi rfl (by omega)) ?_ | refine oo (Pl rfl) ?_ | refine oo (Px rfl rfl) ?_ | refine oo (Pj rfl (by omega) (by omega)) ?_ | refine oo (Pk rfl (by omega) (by omega)) ?_ | refine oo (Pf rfl) ?_ | refine oo (Pv rfl (by omega) (by omega)) ?_ | refine oo (Pn rfl) ?_ | refine oo (Pm rfl) ?_ | refine os rfl rfl ?_ | refine ot rfl (by omega) ?_ | refine O_nil ?_) | refine wo rfl ?_ | refine wc rfl ?_ | refine wg rfl ?_ | refine go rfl ?_ | refine gc rfl ?_ | refine gg rfl ?_)
  · refine G_fin ⟨_, rfl, .inr ⟨fun h => ?_, rfl, .rfl⟩⟩
    have := h.1
    omega
  · refine G_fin ⟨_, rfl, .inr ⟨fun h => ?_, rfl, .rfl⟩⟩
    have := h.2.1
    omega
  have hsym := symAt_le first ss hf h2.1
  refine W_loop (α := Nat × Value × Mem) (fun x => [(0, .int .u8 first), (1, .slice a2 ss.length c2), (2, .slice a3 ls.length c3), (8, x.2.1), (9, .int .u32 (symAt first ss (x.1 - 1) : Nat)), (10, .int .i64 x.1)])
    (fun x => x.2.2 ++ M) (fun x => x.1 ≤ ls.length ∧ Own x.2.1 4 (codesV ((linedL first ss ls).take x.1)) x.2.2 ∧ ∀ j, j < x.1 → 1 ≤ ls.getD j 0 ∧ ls.getD j 0 ≤ 20) (fun x => ls.length - x.1)
    (0, .slice none 0 0, []) ⟨by omega, .inl ⟨rfl, by simp [codesV], rfl⟩, by intro j hj; omega⟩ ⟨rfl, rfl, rfl, rfl, rfl, rfl, trivial⟩ .rfl ?_
  rintro ⟨i, sv, m⟩ ⟨hi, hown, hall⟩
  dsimp only at hi hown hall ⊢
  repeat' (first | (refine isO ?_; first | refine oo (Pc rfl) ?_ | refine oo (Pa rfl (by omega) (by omega)) ?_ | (refine ob rfl ?_ ?_ <;> intro hq <;> try (exfalso; omega)) | refine oo (Pi rfl (by omega)) ?_ | refine oo (Pl rfl) ?_ | refine oo (Px rfl rfl) ?_ | refine oo (Pj rfl (by omega) (by omega)) ?_ | refine oo (Pk rfl (by omega) (by omega)) ?_ | refine oo (Pf rfl) ?_ | refine oo (Pv rfl (by omega) (by omega)) ?_ | refine oo (Pn rfl) ?_ | refine oo (Pm rfl) ?_ | refine os rfl rfl ?_ | refine ot rfl (by omega) ?_ | refine O_nil ?_) | refine wo rfl ?_ | refine wc rfl ?_ | refine wg rfl ?_ | refine go rfl ?_ | refine gc rfl ?_ | refine gg rfl ?_)
  · have hil : i < ls.length := by omega
    obtain ⟨b, o, cap, e, hm, hg, hlt⟩ := h3.at hil
    cases e
    have hm' : (⟨false, b, o, ints .u8 (ls.map Nat.cast)⟩ : Sg) ∈ m ++ M := List.mem_append_right _ hm
    obtain ⟨z, hzz⟩ : ∃ z, ls.getD i 0 = z := ⟨_, rfl⟩
    rw [hzz] at hg hlt
    have hsy := hsym (i - 1)
    repeat' (first | (refine isO ?_; first | refine oo (Pc rfl) ?_ | refine oo (Pa rfl (by omega) (by omega)) ?_ | (refine ob rfl ?_ ?_ <;> intro hq <;> try (exfalso; omega)) | refine oo (Pi rfl (by omega)) ?_ | refine oo (Pl rfl) ?_ | refine oo (Px rfl rfl) ?_ | refine oo (Pj rfl (by omega) (by omega)) ?_ | refine oo (Pk rfl (by omega) (by omega)) ?_ | refine oo (Pf rfl) ?_ | refine oo (Pv rfl (by omega) (by omega)) ?_ | refine oo (Pn rfl) ?_ | refine oo (Pm rfl) ?_ | refine os rfl rfl ?_ | refine ot rfl (by omega) ?_ | refine O_nil ?_) | refine wo rfl ?_ | refine wc rfl ?_ | refine wg rfl ?_ | refine go rfl ?_ | refine gc rfl ?_ | refine gg rfl ?_)
    refine O_pure (P_loadAt (o := o) (n := i) Tb.p5 rfl (by omega) hm' hg) trivial rfl ?_
    repeat' (first | (refine isO ?_; first | refine oo (Pc rfl) ?_ | refine oo (Pa rfl (by omega) (by omega)) ?_ | (refine ob rfl ?_ ?_ <;> intro hq <;> try (exfalso; omega)) | refine oo (Pi rfl (by omega)) ?_ | refine oo (Pl rfl) ?_ | refine oo (Px rfl rfl) ?_ | refine oo (Pj rfl (by omega) (by omega)) ?_ | refine oo (Pk rfl (by omega) (by omega)) ?_ | refine oo (Pf rfl) ?_ | refine oo (Pv rfl (by omega) (by omega)) ?_ | refine oo (Pn rfl) ?_ | refine oo (Pm rfl) ?_ | refine os rfl rfl ?_ | refine ot rfl (by omega) ?_ | refine O_nil ?_) | refine wo rfl ?_ | refine wc rfl ?_ | refine wg rfl ?_ | refine go rfl ?_ | refine gc rfl ?_ | refine gg rfl ?_)
    · refine G_fin ⟨_, rfl, .inr ⟨fun h => ?_, rfl, Rk.right m M⟩⟩
      have := (h.2.2 i hil).1
      omega
    have hget : (linedL first ss ls).getD i Cd.zero = ⟨symAt first ss i, 0, z, 0⟩ := by rw [linedL_get _ _ _ _ hil, hzz]
    have htake := codesV_take (linedL first ss ls) i (by rw [linedL_length]; exact hil)
    rw [hget] at htake
    have hall' : z ≤ 20 → ∀ j, j < i + 1 → 1 ≤ ls.getD j 0 ∧ ls.getD j 0 ≤ 20 := by
      intro hz20 j hj
      by_cases hji : j = i
      · subst hji; rw [hzz]; omega
      · exact hall j (by omega)
    have hlen : (codesV ((linedL first ss ls).take i)).length = i * 4 := by rw [codesV_length, List.length_take, linedL_length]; omega
    refine O_pure (P_loadAt (o := o) (n := i) Tb.p5 rfl (by omega) hm' hg) ⟨_, rfl, rfl⟩ rfl ?_
    repeat' (first | (refine isO ?_; first | refine oo (Pc rfl) ?_ | refine oo (Pa rfl (by omega) (by omega)) ?_ | (refine ob rfl ?_ ?_ <;> intro hq <;> try (exfalso; omega)) | refine oo (Pi rfl (by omega)) ?_ | refine oo (Pl rfl) ?_ | refine oo (Px rfl rfl) ?_ | refine oo (Pj rfl (by omega) (by omega)) ?_ | refine oo (Pk rfl (by omega) (by omega)) ?_ | refine oo (Pf rfl) ?_ | refine oo (Pv rfl (by omega) (by omega)) ?_ | refine oo (Pn rfl) ?_ | refine oo (Pm rfl) ?_ | refine os rfl rfl ?_ | refine ot rfl (by omega) ?_ | refine O_nil ?_) | refine wo rfl ?_ | refine wc rfl ?_ | refine wg rfl ?_ | refine go rfl ?_ | refine gc rfl ?_ | refine gg rfl ?_)
    · refine G_fin ⟨_, rfl, .inr ⟨fun h => ?_, rfl, Rk.right m M⟩⟩
      have := (h.2.2 i hil).2
      omega
    · obtain ⟨k, rfl⟩ : ∃ k, i = k + 1 := ⟨i - 1, by omega⟩
      have hks : k < ss.length := by omega
      obtain ⟨bs, os, caps, es, hms, hgs, hlts⟩ := h2.at hks
      cases es
      refine O_pure (P_index1 Tb.u22 Tb.c5 rfl rfl (by omega) (by omega)) trivial rfl ?_
      refine O_pure (P_loadAt (o := os) (n := k) Tb.p5 rfl (by omega) (List.mem_append_right _ hms) hgs) trivial rfl ?_
      repeat' (first | (refine isO ?_; first | refine oo (Pc rfl) ?_ | refine oo (Pa rfl (by omega) (by omega)) ?_ | (refine ob rfl ?_ ?_ <;> intro hq <;> try (exfalso; omega)) | refine oo (Pi rfl (by omega)) ?_ | refine oo (Pl rfl) ?_ | refine oo (Px rfl rfl) ?_ | refine oo (Pj rfl (by omega) (by omega)) ?_ | refine oo (Pk rfl (by omega) (by omega)) ?_ | refine oo (Pf rfl) ?_ | refine oo (Pv rfl (by omega) (by omega)) ?_ | refine oo (Pn rfl) ?_ | refine oo (Pm rfl) ?_ | refine os rfl rfl ?_ | refine ot rfl (by omega) ?_ | refine O_nil ?_) | refine wo rfl ?_ | refine wc rfl ?_ | refine wg rfl ?_ | refine go rfl ?_ | refine gc rfl ?_ | refine gg rfl ?_)
      have hs : ((symAt first ss (k + 1 - 1) : Nat) : Int) + 1 + ((ss.getD k 0 : Nat) : Int) = ((symAt first ss (k + 1) : Nat) : Int) := by
        simp only [symAt, Nat.add_sub_cancel]
        rw [if_pos (by omega)]
        omega
      (refine O_pure (P_loadAt (o := o) Tb.p5 rfl (by omega) hm' hg) trivial rfl ?_; (repeat' (first | (refine isO ?_; first | refine oo (Pc rfl) ?_ | refine oo (Pa rfl (by omega) (by omega)) ?_ | (refine ob rfl ?_ ?_ <;> intro hq <;> try (exfalso; omega)) | refine oo (Pi rfl (by omega)) ?_ | refine oo (Pl rfl) ?_ | refine oo (Px rfl rfl) ?_ | refine oo (Pj rfl (by omega) (by omega)) ?_ | refine oo (Pk rfl (by omega) (by omega)) ?_ | refine oo (Pf rfl) ?_ | refine oo (Pv rfl (by omega) (by omega)) ?_ | refine oo (Pn rfl) ?_ | refine oo (Pm rfl) ?_ | refine os rfl rfl ?_ | refine ot rfl (by omega) ?_ | refine O_nil ?_) | refine wo rfl ?_ | refine wc rfl ?_ | refine wg rfl ?_ | refine go rfl ?_ | refine gc rfl ?_ | refine gg rfl ?_)); refine O_pure (P_build rfl (build42e _ _ z hs)) trivial rfl ?_; refine O_buildSlice rfl (row23_1 _ _ _ _) trivial rfl fun by1 => ?_; refine O_append (m := m) (M0 := ⟨true, by1, 0, _⟩ :: M) Tb.u23 Tb.u23 hI hI1 (by decide) (by omega) hI3 rfl rfl rfl hown (.perm List.perm_middle.symm) hlen (.head _) (Nat.le_refl 4) (Cd.cells_one ⟨_, 0, z, 0⟩) (.inl (by omega)) (by rw [hI2]; omega) trivial rfl fun b2 c2' s2 h2' => ?_; (repeat' (first | (refine isO ?_; first | refine oo (Pc rfl) ?_ | refine oo (Pa rfl (by omega) (by omega)) ?_ | (refine ob rfl ?_ ?_ <;> intro hq <;> try (exfalso; omega)) | refine oo (Pi rfl (by omega)) ?_ | refine oo (Pl rfl) ?_ | refine oo (Px rfl rfl) ?_ | refine oo (Pj rfl (by omega) (by omega)) ?_ | refine oo (Pk rfl (by omega) (by omega)) ?_ | refine oo (Pf rfl) ?_ | refine oo (Pv rfl (by omega) (by omega)) ?_ | refine oo (Pn rfl) ?_ | refine oo (Pm rfl) ?_ | refine os rfl rfl ?_ | refine ot rfl (by omega) ?_ | refine O_nil ?_) | refine wo rfl ?_ | refine wc rfl ?_ | refine wg rfl ?_ | refine go rfl ?_ | refine gc rfl ?_ | refine gg rfl ?_)); refine G_stop ⟨(_ + 1, .slice (some ⟨b2, 0, none⟩) _ c2', [⟨true, b2, 0, codesV ((linedL first ss ls).take _) ++ s2⟩]), ⟨by omega, .inr ⟨b2, _, c2', s2, rfl, rfl, by (rw [codesV_length, List.length_take, linedL_length]; omega), by (rw [← htake]; exact h2')⟩, hall' (by omega)⟩, by (dsimp only; omega), ⟨rfl, rfl, rfl, rfl, congrArg (fun q => some (Value.int .u32 q)) hs, rfl, trivial⟩, by (dsimp only; rw [← htake]; exact .cons .head (.drop .rfl))⟩)
    · obtain ⟨k, rfl⟩ : ∃ k, i = k + 1 := ⟨i - 1, by omega⟩
      have hs : ((symAt first ss (k + 1 - 1) : Nat) : Int) + 1 = ((symAt first ss (k + 1) : Nat) : Int) := by
        simp only [symAt, Nat.add_sub_cancel]
        rw [if_neg (by omega)]
        omega
      (refine O_pure (P_loadAt (o := o) Tb.p5 rfl (by omega) hm' hg) trivial rfl ?_; (repeat' (first | (refine isO ?_; first | refine oo (Pc rfl) ?_ | refine oo (Pa rfl (by omega) (by omega)) ?_ | (refine ob rfl ?_ ?_ <;> intro hq <;> try (exfalso; omega)) | refine oo (Pi rfl (by omega)) ?_ | refine oo (Pl rfl) ?_ | refine oo (Px rfl rfl) ?_ | refine oo (Pj rfl (by omega) (by omega)) ?_ | refine oo (Pk rfl (by omega) (by omega)) ?_ | refine oo (Pf rfl) ?_ | refine oo (Pv rfl (by omega) (by omega)) ?_ | refine oo (Pn rfl) ?_ | refine oo (Pm rfl) ?_ | refine os rfl rfl ?_ | refine ot rfl (by omega) ?_ | refine O_nil ?_) | refine wo rfl ?_ | refine wc rfl ?_ | refine wg rfl ?_ | refine go rfl ?_ | refine gc rfl ?_ | refine gg rfl ?_)); refine O_pure (P_build rfl (build42e _ _ z hs)) trivial rfl ?_; refine O_buildSlice rfl (row23_1 _ _ _ _) trivial rfl fun by1 => ?_; refine O_append (m := m) (M0 := ⟨true, by1, 0, _⟩ :: M) Tb.u23 Tb.u23 hI hI1 (by decide) (by omega) hI3 rfl rfl rfl hown (.perm List.perm_middle.symm) hlen (.head _) (Nat.le_refl 4) (Cd.cells_one ⟨_, 0, z, 0⟩) (.inl (by omega)) (by rw [hI2]; omega) trivial rfl fun b2 c2' s2 h2' => ?_; (repeat' (first | (refine isO ?_; first | refine oo (Pc rfl) ?_ | refine oo (Pa rfl (by omega) (by omega)) ?_ | (refine ob rfl ?_ ?_ <;> intro hq <;> try (exfalso; omega)) | refine oo (Pi rfl (by omega)) ?_ | refine oo (Pl rfl) ?_ | refine oo (Px rfl rfl) ?_ | refine oo (Pj rfl (by omega) (by omega)) ?_ | refine oo (Pk rfl (by omega) (by omega)) ?_ | refine oo (Pf rfl) ?_ | refine oo (Pv rfl (by omega) (by omega)) ?_ | refine oo (Pn rfl) ?_ | refine oo (Pm rfl) ?_ | refine os rfl rfl ?_ | refine ot rfl (by omega) ?_ | refine O_nil ?_) | refine wo rfl ?_ | refine wc rfl ?_ | refine wg rfl ?_ | refine go rfl ?_ | refine gc rfl ?_ | refine gg rfl ?_)); refine G_stop ⟨(_ + 1, .slice (some ⟨b2, 0, none⟩) _ c2', [⟨true, b2, 0, codesV ((linedL first ss ls).take _) ++ s2⟩]), ⟨by omega, .inr ⟨b2, _, c2', s2, rfl, rfl, by (rw [codesV_length, List.length_take, linedL_length]; omega), by (rw [← htake]; exact h2')⟩, hall' (by omega)⟩, by (dsimp only; omega), ⟨rfl, rfl, rfl, rfl, congrArg (fun q => some (Value.int .u32 q)) hs, rfl, trivial⟩, by (dsimp only; rw [← htake]; exact .cons .head (.drop .rfl))⟩)
    · obtain rfl : i = 0 := by omega
      have hs : ((symAt first ss (0 - 1) : Nat) : Int) = ((symAt first ss 0 : Nat) : Int) := rfl
      (refine O_pure (P_loadAt (o := o) Tb.p5 rfl (by omega) hm' hg) trivial rfl ?_; (repeat' (first | (refine isO ?_; first | refine oo (Pc rfl) ?_ | refine oo (Pa rfl (by omega) (by omega)) ?_ | (refine ob rfl ?_ ?_ <;> intro hq <;> try (exfalso; omega)) | refine oo (Pi rfl (by omega)) ?_ | refine oo (Pl rfl) ?_ | refine oo (Px rfl rfl) ?_ | refine oo (Pj rfl (by omega) (by omega)) ?_ | refine oo (Pk rfl (by omega) (by omega)) ?_ | refine oo (Pf rfl) ?_ | refine oo (Pv rfl (by omega) (by omega)) ?_ | refine oo (Pn rfl) ?_ | refine oo (Pm rfl) ?_ | refine os rfl rfl ?_ | refine ot rfl (by omega) ?_ | refine O_nil ?_) | refine wo rfl ?_ | refine wc rfl ?_ | refine wg rfl ?_ | refine go rfl ?_ | refine gc rfl ?_ | refine gg rfl ?_)); refine O_pure (P_build rfl (build42e _ _ z hs)) trivial rfl ?_; refine O_buildSlice rfl (row23_1 _ _ _ _) trivial rfl fun by1 => ?_; refine O_append (m := m) (M0 := ⟨true, by1, 0, _⟩ :: M) Tb.u23 Tb.u23 hI hI1 (by decide) (by omega) hI3 rfl rfl rfl hown (.perm List.perm_middle.symm) hlen (.head _) (Nat.le_refl 4) (Cd.cells_one ⟨_, 0, z, 0⟩) (.inl (by omega)) (by rw [hI2]; omega) trivial rfl fun b2 c2' s2 h2' => ?_; (repeat' (first | (refine isO ?_; first | refine oo (Pc rfl) ?_ | refine oo (Pa rfl (by omega) (by omega)) ?_ | (refine ob rfl ?_ ?_ <;> intro hq <;> try (exfalso; omega)) | refine oo (Pi rfl (by omega)) ?_ | refine oo (Pl rfl) ?_ | refine oo (Px rfl rfl) ?_ | refine oo (Pj rfl (by omega) (by omega)) ?_ | refine oo (Pk rfl (by omega) (by omega)) ?_ | refine oo (Pf rfl) ?_ | refine oo (Pv rfl (by omega) (by omega)) ?_ | refine oo (Pn rfl) ?_ | refine oo (Pm rfl) ?_ | refine os rfl rfl ?_ | refine ot rfl (by omega) ?_ | refine O_nil ?_) | refine wo rfl ?_ | refine wc rfl ?_ | refine wg rfl ?_ | refine go rfl ?_ | refine gc rfl ?_ | refine gg rfl ?_)); refine G_stop ⟨(_ + 1, .slice (some ⟨b2, 0, none⟩) _ c2', [⟨true, b2, 0, codesV ((linedL first ss ls).take _) ++ s2⟩]), ⟨by omega, .inr ⟨b2, _, c2', s2, rfl, rfl, by (rw [codesV_length, List.length_take, linedL_length]; omega), by (rw [← htake]; exact h2')⟩, hall' (by omega)⟩, by (dsimp only; omega), ⟨rfl, rfl, rfl, rfl, congrArg (fun q => some (Value.int .u32 q)) hs, rfl, trivial⟩, by (dsimp only; rw [← htake]; exact .cons .head (.drop .rfl))⟩)
  · obtain rfl : i = ls.length := by omega
    rw [← linedL_length first ss ls, List.take_length] at hown
    exact G_fin ⟨_, rfl, .inl ⟨⟨by omega, by omega, hall⟩, sv, m, hown, rfl, .rfl⟩⟩
end Go.Proofs.Ytjkpfliaflmppaa.Pc

namespace Go.Proofs.Ytjkpfliaflmppaa.Sh
open Go.ChangeShapes Go.WideShapes Go.ChangeAt Go.RowKit Go.Proofs.Ytjkpfliaflmppaa.Vm Go.Proofs.Ytjkpfliaflmppaa.Pc
set_option linter.unusedVariables false

theorem own : ownKnob Try.prog.godebug = none := by kernel_rfl
theorem cells5 : Try.prog.cellsOf 5 = 1 := by kernel_rfl

theorem laid : laidOutB Try.prog = true := by kernel_rfl
theorem Bs.mono {s : Value} {xs : List Nat} {M M' : Mem} (h : Bs s xs M) (hm : ∀ x ∈ M, x ∈ M') : Bs s xs M' := by
  obtain ⟨h1, ad, cap, h2, h3⟩ := h
  exact ⟨h1, ad, cap, h2, h3.imp id fun ⟨b, o, h4, h5⟩ => ⟨b, o, h4, hm _ h5⟩⟩

/-- A handed slice of bytes, as the engine has it. -/
theorem bytes_open {H : Type} {enc : TypeId × Value → H} {W : World} {ad : Option Addr} {len cap : Nat} {d : DataW H} {ps : List MemPlace} (h : DataW.Trod enc Try.prog W 0 (fun _ => true) true 22 (.slice ad len cap) d ps) :
    ∃ (xs : List Nat) (m : Mem), Bs (.slice ad len cap) xs m ∧ (∀ s ∈ m, s.own = false ∧ s.lies W.heap.size W) := by
  obtain ⟨fuel, hf⟩ := h
  rcases open_ints Try.underlying22 Try.underlying5 cells5 hf with ⟨hcs, hx⟩ | ⟨a, len', cap', zs, hcs, _, hl, hm, hz, hx, hcell, hwz⟩
  · simp [Value.cells] at hcs
    obtain ⟨rfl, rfl, rfl⟩ := hcs
    exact ⟨[], [], ⟨by simp, none, 0, rfl, .inl rfl⟩, by simp⟩
  · simp [Value.cells] at hcs
    obtain ⟨rfl, rfl, rfl⟩ := hcs
    simp only [if_true] at hz
    have hbyte : ∀ z ∈ zs, 0 ≤ z ∧ z ≤ 255 := fun z hz => by
      have := hwz z hz
      simpa [Lit.wf, IntKind.min, IntKind.max, IntKind.signed, IntKind.bits] using this
    have hlen : ((zs.take len).map Int.toNat).length = len := by simp; omega
    have hback : ((zs.take len).map Int.toNat).map (Nat.cast : Nat → Int) = zs.take len := by
      rw [List.map_map]
      conv => rhs; rw [← List.map_id (zs.take len)]
      apply List.map_congr_left
      intro z hz
      have := hbyte z (List.mem_of_mem_take hz)
      simp; omega
    have hlt : ∀ x ∈ (zs.take len).map Int.toNat, x < 256 := by
      intro x hx
      obtain ⟨z, hz, rfl⟩ := List.mem_map.1 hx
      have := hbyte z (List.mem_of_mem_take hz)
      omega
    by_cases h0 : len = 0
    · subst h0
      exact ⟨[], [], ⟨by simp, some a, cap, rfl, .inl rfl⟩, by simp⟩
    · obtain ⟨b, off, spot⟩ := a
      have hc0 := hcell 0 (by omega)
      have hsp : spot = none := by
        cases spot with
        | none => rfl
        | some s =>
          exfalso
          simp only [World.cell?, Addr.add] at hc0
          split at hc0 <;> (try split at hc0) <;> simp_all
      subst hsp
      refine ⟨_, [⟨false, b, off, ints .u8 (((zs.take len).map Int.toNat).map Nat.cast)⟩], ⟨hlt, some ⟨b, off, none⟩, cap, by rw [hlen], .inr ⟨b, off, rfl, .head _⟩⟩, ?_⟩
      intro s hs
      obtain rfl := List.mem_singleton.1 hs
      refine ⟨rfl, ?_⟩
      rw [hback]
      have hcell' : ∀ i, i < zs.length → W.cell? ⟨b, off + i, none⟩ = some (.int .u8 (zs.getD i 0)) := fun i hi => by rw [← add_place]; exact hcell i hi
      cases hh : W.heap[b]? with
      | none => have := hcell' 0 (by omega); simp [World.cell?, hh] at this
      | some o =>
        cases o with
        | cells c T f =>
          obtain ⟨lo, hi⟩ := f
          have hget : ∀ i, i < zs.length → c[off + i]? = some (.int .u8 (zs.getD i 0)) := fun i hi => by
            have := hcell' i hi
            simpa [World.cell?, hh] using this
          refine ⟨c, T, lo, hi, hh, ?_, fun i hi => ?_, fun h => by cases h⟩
          · have h1 := hget (len - 1) (by omega)
            have h2 := (Array.getElem?_eq_some_iff.1 h1).1
            simp only [ints_length, List.length_take]
            omega
          · simp only [ints_length, List.length_take] at hi
            rw [hget i (by omega), ints_get (by simp; omega)]
            simp [show i < len by omega, show i < zs.length by omega]
        | _ => have := hcell' 0 (by omega); simp [World.cell?, hh] at this

end Go.Proofs.Ytjkpfliaflmppaa.Sh

namespace Go.Proofs.Ytjkpfliaflmppaa.Sh
open Go.ChangeShapes Go.WideShapes Go.ChangeAt Go.RowKit Go.Proofs.Ytjkpfliaflmppaa.Vm Go.Proofs.Ytjkpfliaflmppaa.Pc
set_option linter.unusedVariables false
theorem cells40 : Try.prog.cellsOf 40 = 1 := by kernel_rfl
/-- A handed slice of 32-bit numbers, as the engine has it. -/
theorem words_open {H : Type} {enc : TypeId × Value → H} {W : World} {ad : Option Addr} {len cap : Nat} {d : DataW H} {ps : List MemPlace} (h : DataW.Trod enc Try.prog W 0 (fun _ => true) true 46 (.slice ad len cap) d ps) :
    ∃ (xs : List Nat) (m : Mem), Ws (.slice ad len cap) xs m ∧ (∀ s ∈ m, s.own = false ∧ s.lies W.heap.size W) := by
  obtain ⟨fuel, hf⟩ := h
  rcases open_ints Try.underlying46 Try.underlying40 cells40 hf with ⟨hcs, hx⟩ | ⟨a, len', cap', zs, hcs, _, hl, hm, hz, hx, hcell, hwz⟩
  · simp [Value.cells] at hcs
    obtain ⟨rfl, rfl, rfl⟩ := hcs
    exact ⟨[], [], ⟨by simp, none, 0, rfl, .inl rfl⟩, by simp⟩
  · simp [Value.cells] at hcs
    obtain ⟨rfl, rfl, rfl⟩ := hcs
    simp only [if_true] at hz
    have hbyte : ∀ z ∈ zs, 0 ≤ z ∧ z ≤ 4294967295 := fun z hz => by
      have := hwz z hz
      simpa [Lit.wf, IntKind.min, IntKind.max, IntKind.signed, IntKind.bits] using this
    have hlen : ((zs.take len).map Int.toNat).length = len := by simp; omega
    have hback : ((zs.take len).map Int.toNat).map (Nat.cast : Nat → Int) = zs.take len := by
      rw [List.map_map]
      conv => rhs; rw [← List.map_id (zs.take len)]
      apply List.map_congr_left
      intro z hz
      have := hbyte z (List.mem_of_mem_take hz)
      simp; omega
    have hlt : ∀ x ∈ (zs.take len).map Int.toNat, x < 4294967296 := by
      intro x hx
      obtain ⟨z, hz, rfl⟩ := List.mem_map.1 hx
      have := hbyte z (List.mem_of_mem_take hz)
      omega
    by_cases h0 : len = 0
    · subst h0
      exact ⟨[], [], ⟨by simp, some a, cap, rfl, .inl rfl⟩, by simp⟩
    · obtain ⟨b, off, spot⟩ := a
      have hc0 := hcell 0 (by omega)
      have hsp : spot = none := by
        cases spot with
        | none => rfl
        | some s =>
          exfalso
          simp only [World.cell?, Addr.add] at hc0
          split at hc0 <;> (try split at hc0) <;> simp_all
      subst hsp
      refine ⟨_, [⟨false, b, off, ints .u32 (((zs.take len).map Int.toNat).map Nat.cast)⟩], ⟨hlt, some ⟨b, off, none⟩, cap, by rw [hlen], .inr ⟨b, off, rfl, .head _⟩⟩, ?_⟩
      intro s hs
      obtain rfl := List.mem_singleton.1 hs
      refine ⟨rfl, ?_⟩
      rw [hback]
      have hcell' : ∀ i, i < zs.length → W.cell? ⟨b, off + i, none⟩ = some (.int .u32 (zs.getD i 0)) := fun i hi => by rw [← add_place]; exact hcell i hi
      cases hh : W.heap[b]? with
      | none => have := hcell' 0 (by omega); simp [World.cell?, hh] at this
      | some o =>
        cases o with
        | cells c T f =>
          obtain ⟨lo, hi⟩ := f
          have hget : ∀ i, i < zs.length → c[off + i]? = some (.int .u32 (zs.getD i 0)) := fun i hi => by
            have := hcell' i hi
            simpa [World.cell?, hh] using this
          refine ⟨c, T, lo, hi, hh, ?_, fun i hi => ?_, fun h => by cases h⟩
          · have h1 := hget (len - 1) (by omega)
            have h2 := (Array.getElem?_eq_some_iff.1 h1).1
            simp only [ints_length, List.length_take]
            omega
          · simp only [ints_length, List.length_take] at hi
            rw [hget i (by omega), ints_get (by simp; omega)]
            simp [show i < len by omega, show i < zs.length by omega]
        | _ => have := hcell' 0 (by omega); simp [World.cell?, hh] at this

end Go.Proofs.Ytjkpfliaflmppaa.Sh
