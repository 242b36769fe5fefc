/- Canonical codes: no code is ahead of a longer one. No condition. impl.CodeNumbers and laws.FnCodeNumbers, walked: it is true, for any bytes. -/
import Derived.Test.YtjkpfliaflmppaaW11x13
import Derived.Test.YtjkpfliaflmppaaW11x17
import Derived.Test.YtjkpfliaflmppaaW11x25
import Derived.Test.YtjkpfliaflmppaaW11x20
import Derived.Test.YtjkpfliaflmppaaW11x16

namespace Go.Proofs.Ytjkpfliaflmppaa.Pc
open Go Go.Proofs.Ytjkpfliaflmppaa.Vm Go.Proofs.Ytjkpfliaflmppaa.Rev

theorem T_low (L d a : Nat) : T (d + L) a % 2 ^ L = T L (a / 2 ^ d) := by
  have e : a = a % 2 ^ d + 2 ^ d * (a / 2 ^ d) := (Nat.mod_add_div a (2 ^ d)).symm
  have h := T_add L d (a % 2 ^ d) (a / 2 ^ d) (Nat.mod_lt _ (Nat.two_pow_pos d))
  rw [← e] at h
  rw [h, Nat.add_comm, Nat.add_mul_mod_self_right]
  exact Nat.mod_eq_of_lt (T_lt L _)
theorem T_inj : ∀ (n a b : Nat), a < 2 ^ n → b < 2 ^ n → T n a = T n b → a = b
  | 0, a, b, h1, h2, _ => by simp at h1 h2; omega
  | n + 1, a, b, h1, h2, h => by
    have key : ∀ a, T (1 + n) a = (a % 2) * 2 ^ n + T n (a / 2) := by
      intro a
      have e : a = a % 2 ^ 1 + 2 ^ 1 * (a / 2 ^ 1) := (Nat.mod_add_div a (2 ^ 1)).symm
      have h := T_add n 1 (a % 2 ^ 1) (a / 2 ^ 1) (Nat.mod_lt _ (Nat.two_pow_pos 1))
      rw [← e] at h
      rw [h]
      simp [T]
    rw [Nat.add_comm n 1, key, key] at h
    have ta := T_lt n (a / 2)
    have tb := T_lt n (b / 2)
    have hp : 2 ^ (n + 1) = 2 * 2 ^ n := by rw [Nat.pow_succ, Nat.mul_comm]
    have ha : a % 2 < 2 := Nat.mod_lt _ (by omega)
    have hb : b % 2 < 2 := Nat.mod_lt _ (by omega)
    have hm : a % 2 = b % 2 ∧ T n (a / 2) = T n (b / 2) := by
      rcases Nat.lt_or_ge (a % 2) 1 with h3 | h3 <;> rcases Nat.lt_or_ge (b % 2) 1 with h4 | h4
      · rw [show a % 2 = 0 by omega, show b % 2 = 0 by omega] at h ⊢; omega
      · rw [show a % 2 = 0 by omega, show b % 2 = 1 by omega] at h; omega
      · rw [show a % 2 = 1 by omega, show b % 2 = 0 by omega] at h; omega
      · rw [show a % 2 = 1 by omega, show b % 2 = 1 by omega] at h ⊢; omega
    have := T_inj n (a / 2) (b / 2) (by omega) (by omega) hm.2
    omega

theorem st_up (l : List Cd) (n k : Nat) : 2 ^ (k + 1) * kr l n ≤ st l (n + k + 1) := by
  have h1 := kr_mono2 l n k
  have h2 := st_kr l (n + k)
  simp only [st]
  rw [h2, Nat.pow_succ, Nat.mul_comm (2 ^ k) 2, Nat.mul_assoc]
  omega

theorem val_bound (l : List Cd) (hw : whole l) (hlen : ∀ c ∈ l, 1 ≤ c.len ∧ c.len ≤ 20) (i : Nat) (hi : i < l.length) :
    st l (l.getD i Cd.zero).len + cntL (l.take i) (l.getD i Cd.zero).len < kr l (l.getD i Cd.zero).len ∧ kr l (l.getD i Cd.zero).len ≤ 2 ^ (l.getD i Cd.zero).len := by
  have h1 := cntL_take_lt l i hi
  have h2 := st_kr l (l.getD i Cd.zero).len
  have h3 := whole_fits l hw (l.getD i Cd.zero).len (hlen _ (getD_mem l i hi)).2
  omega

theorem canon_free (l : List Cd) (hw : whole l) (hlen : ∀ c ∈ l, 1 ≤ c.len ∧ c.len ≤ 20) (i j : Nat) (hi : i < l.length) (hj : j < l.length) (hij : (l.getD i Cd.zero).len < (l.getD j Cd.zero).len) :
    valAt l j % 2 ^ (l.getD i Cd.zero).len ≠ valAt l i := by
  obtain ⟨a1, a2⟩ := val_bound l hw hlen i hi
  obtain ⟨b1, b2⟩ := val_bound l hw hlen j hj
  intro h
  unfold valAt at h
  generalize (l.getD i Cd.zero).len = L at *
  generalize hLj : (l.getD j Cd.zero).len = L' at *
  generalize cntL (l.take i) L = ri at *
  generalize cntL (l.take j) L' = rj at *
  obtain ⟨d, rfl⟩ : ∃ d, L' = L + d + 1 := ⟨L' - L - 1, by omega⟩
  have hu := st_up l L d
  rw [show L + d + 1 = (d + 1) + L by omega, T_low] at h
  have hpow : 2 ^ (L + d + 1) = 2 ^ (d + 1) * 2 ^ L := by rw [← Nat.pow_add]; congr 1; omega
  have hge : kr l L ≤ (st l (L + d + 1) + rj) / 2 ^ (d + 1) := by
    rw [Nat.le_div_iff_mul_le (Nat.two_pow_pos _), Nat.mul_comm]
    omega
  have hlt : (st l (L + d + 1) + rj) / 2 ^ (d + 1) < 2 ^ L := by
    rw [Nat.div_lt_iff_lt_mul (Nat.two_pow_pos _), Nat.mul_comm (2 ^ L), ← hpow]
    omega
  have := T_inj L _ _ (by rw [show (d + 1) + L = L + d + 1 by omega] ; exact hlt) (by omega) h
  rw [show (d + 1) + L = L + d + 1 by omega] at this
  omega

theorem symAt0 : ∀ i, symAt 0 [] i = i
  | 0 => rfl
  | i + 1 => by simp [symAt, symAt0 i]
theorem pow_le20 {n : Nat} (h : n ≤ 20) : 2 ^ n ≤ 1048576 := Nat.pow_le_pow_right (n := 2) (by omega) h

/-- Canonical codes of handed lengths. -/
theorem canon_numbered (ls : List Nat) (hok : OkL ls) : Numbered (canon (linedL 0 [] ls)) ∧ (canon (linedL 0 [] ls)).length = ls.length ∧ ∀ i, i < ls.length → ((canon (linedL 0 [] ls)).getD i Cd.zero).len = ls.getD i 0 ∧
    ((canon (linedL 0 [] ls)).getD i Cd.zero).val < 2 ^ ls.getD i 0 := by
  have hL := linedL_length 0 [] ls
  have hlen : (canon (linedL 0 [] ls)).length = ls.length := by rw [canon_length, hL]
  have hget : ∀ i, i < ls.length → (canon (linedL 0 [] ls)).getD i Cd.zero = ⟨i, 0, ls.getD i 0, valAt (linedL 0 [] ls) i⟩ := by
    intro i hi
    rw [canon_get _ i (by rw [hL]; exact hi), linedL_get 0 [] ls i hi, symAt0]
  have hv : ∀ i, i < ls.length → valAt (linedL 0 [] ls) i < 2 ^ ls.getD i 0 := by
    intro i hi
    unfold valAt
    rw [linedL_get 0 [] ls i hi]
    exact T_lt _ _
  obtain ⟨o1, o2, o3⟩ := hok
  refine ⟨⟨by rw [hlen]; exact o1, by rw [hlen]; exact o2, ?_, ?_, ?_⟩, hlen, ?_⟩
  · intro i hi; rw [hlen] at hi; rw [hget i hi]
  · intro i hi; rw [hlen] at hi; rw [hget i hi]; exact o3 i hi
  · intro i hi
    rw [hlen] at hi
    rw [hget i hi]
    have := hv i hi
    have := pow_le20 (o3 i hi).2
    simp only
    omega
  · intro i hi; rw [hget i hi]; exact ⟨rfl, hv i hi⟩
theorem canon_free' (ls : List Nat) (hok : OkL ls) (hw : whole (linedL 0 [] ls)) (i j : Nat) (hi : i < ls.length) (hj : j < ls.length) (hij : ls.getD i 0 < ls.getD j 0) :
    ((canon (linedL 0 [] ls)).getD j Cd.zero).val % 2 ^ ls.getD i 0 ≠ ((canon (linedL 0 [] ls)).getD i Cd.zero).val := by
  have hL := linedL_length 0 [] ls
  have hG := lined_good 0 [] ls (by omega) (by simp) hok
  have h := canon_free (linedL 0 [] ls) hw hG.len i j (by rw [hL]; exact hi) (by rw [hL]; exact hj)
  rw [canon_get _ i (by rw [hL]; exact hi), canon_get _ j (by rw [hL]; exact hj)]
  rw [linedL_get 0 [] ls i hi, linedL_get 0 [] ls j hj] at h ⊢
  exact h hij
end Go.Proofs.Ytjkpfliaflmppaa.Pc

namespace Go.Proofs.Ytjkpfliaflmppaa.Pc
open Go Go.RowKit Go.Proofs.Ytjkpfliaflmppaa.Vm Go.Proofs.Ytjkpfliaflmppaa.Sf

theorem zero40' : zeroOf Try.prog 40 = some [.int .u32 0] := by kernel_rfl
theorem zero103' : zeroOf Try.prog 103 = some [.slice none 0 0, .int .u32 0, .int .u32 0] := by kernel_rfl

theorem nums63_c (cs : List Cd) (hN : Numbered cs) (hfree : Free cs) (hfit : Fits cs) (b0 b1 b2 b3 b cap : Nat) (own : Bool) (sp : List Value) (M : Mem) :
    HC Try.prog 63 #[.pointer (some ⟨b0, 0, none⟩), .pointer (some ⟨b1, 0, none⟩), .pointer (some ⟨b2, 0, none⟩), .pointer (some ⟨b3, 0, none⟩)]
      (⟨own, b, 0, codesV cs ++ sp⟩ :: ⟨true, b0, 0, [.slice (some ⟨b, 0, none⟩) cs.length cap]⟩ :: ⟨true, b1, 0, [.int .u32 0]⟩ :: ⟨true, b2, 0, [.int .u32 0]⟩ :: ⟨true, b3, 0, [.int .u32 0]⟩ :: M)
      (fun _ M' => Rk M' (⟨true, b1, 0, [.int .u32 cs.length]⟩ :: ⟨true, b2, 0, [.int .u32 (mnTo cs cs.length : Nat)]⟩ :: ⟨true, b3, 0, [.int .u32 cs.length]⟩ :: M)) := by
  have h60 := hN.most
  refine HC_of_W (fn := Try.f63) Try.func63 rfl rfl rfl rfl ?_
  repeat' (first | (refine isO ?_; first | refine oo (Pc rfl) ?_ | refine oo (Pa rfl (by omega) (by omega)) ?_ | (refine ob rfl ?_ ?_ <;> intro hq <;> try (exfalso; omega)) | refine oo (Pi rfl (by omega)) ?_ | refine oo (Pl rfl) ?_ | refine oo (Px rfl rfl) ?_ | refine oo (Pj rfl (by omega) (by omega)) ?_ | refine oo (Pk rfl (by omega) (by omega)) ?_ | refine oo (Pf rfl) ?_ | refine oo (Pv rfl (by omega) (by omega)) ?_ | refine oo (Pn rfl) ?_ | refine oo (Pm rfl) ?_ | refine os rfl rfl ?_ | refine ot rfl (by omega) ?_ | refine O_nil ?_) | refine wo rfl ?_ | refine wc rfl ?_ | refine wg rfl ?_ | refine go rfl ?_ | refine gc rfl ?_ | refine gg rfl ?_)
  refine O_alloc zero126 trivial rfl fun db => ?_
  repeat' (first | (refine isO ?_; first | refine oo (Pc rfl) ?_ | refine oo (Pa rfl (by omega) (by omega)) ?_ | (refine ob rfl ?_ ?_ <;> intro hq <;> try (exfalso; omega)) | refine oo (Pi rfl (by omega)) ?_ | refine oo (Pl rfl) ?_ | refine oo (Px rfl rfl) ?_ | refine oo (Pj rfl (by omega) (by omega)) ?_ | refine oo (Pk rfl (by omega) (by omega)) ?_ | refine oo (Pf rfl) ?_ | refine oo (Pv rfl (by omega) (by omega)) ?_ | refine oo (Pn rfl) ?_ | refine oo (Pm rfl) ?_ | refine os rfl rfl ?_ | refine ot rfl (by omega) ?_ | refine O_nil ?_) | refine wo rfl ?_ | refine wc rfl ?_ | refine wg rfl ?_ | refine go rfl ?_ | refine gc rfl ?_ | refine gg rfl ?_)
  refine O_alloc zero103' trivial rfl fun eb => ?_
  repeat' (first | (refine isO ?_; first | refine oo (Pc rfl) ?_ | refine oo (Pa rfl (by omega) (by omega)) ?_ | (refine ob rfl ?_ ?_ <;> intro hq <;> try (exfalso; omega)) | refine oo (Pi rfl (by omega)) ?_ | refine oo (Pl rfl) ?_ | refine oo (Px rfl rfl) ?_ | refine oo (Pj rfl (by omega) (by omega)) ?_ | refine oo (Pk rfl (by omega) (by omega)) ?_ | refine oo (Pf rfl) ?_ | refine oo (Pv rfl (by omega) (by omega)) ?_ | refine oo (Pn rfl) ?_ | refine oo (Pm rfl) ?_ | refine os rfl rfl ?_ | refine ot rfl (by omega) ?_ | refine O_nil ?_) | refine wo rfl ?_ | refine wc rfl ?_ | refine wg rfl ?_ | refine go rfl ?_ | refine gc rfl ?_ | refine gg rfl ?_)
  refine O_call rfl rfl Tb.k41 trivial rfl (HCp.take (L := ⟨own, b, 0, codesV cs ++ sp⟩ :: _) (.cons (.tail (.tail .head)) .rfl) (codes_c cs own b cap sp _ (by omega))) ?_
  rintro _ M' ⟨bd, cd, sd, rfl, _, rfl⟩
  refine O_call rfl rfl Tb.k64 trivial rfl (HCp.take (L := DecR db (.slice none 0 0) (.slice none 0 0) 0 0 0 0 0 :: ⟨true, bd, 0, codesV cs ++ sd⟩ :: _) (.cons (.tail (.tail (.tail .head))) (.cons .head .rfl)) (dec64_c cs hN hfree hfit db bd cd true sd _)) ?_
  rintro _ M' ⟨v0, v1, a2, a3, a4, hrk⟩
  refine O_weak hrk ?_
  clear hrk
  repeat' (first | (refine isO ?_; first | refine oo (Pc rfl) ?_ | refine oo (Pa rfl (by omega) (by omega)) ?_ | (refine ob rfl ?_ ?_ <;> intro hq <;> try (exfalso; omega)) | refine oo (Pi rfl (by omega)) ?_ | refine oo (Pl rfl) ?_ | refine oo (Px rfl rfl) ?_ | refine oo (Pj rfl (by omega) (by omega)) ?_ | refine oo (Pk rfl (by omega) (by omega)) ?_ | refine oo (Pf rfl) ?_ | refine oo (Pv rfl (by omega) (by omega)) ?_ | refine oo (Pn rfl) ?_ | refine oo (Pm rfl) ?_ | refine os rfl rfl ?_ | refine ot rfl (by omega) ?_ | refine O_nil ?_) | refine wo rfl ?_ | refine wc rfl ?_ | refine wg rfl ?_ | refine go rfl ?_ | refine gc rfl ?_ | refine gg rfl ?_)
  refine O_call rfl rfl Tb.k41 trivial rfl (HCp.take (L := ⟨own, b, 0, codesV cs ++ sp⟩ :: _) (.cons (.tail .head) .rfl) (codes_c cs own b cap sp _ (by omega))) ?_
  rintro _ M' ⟨be, ce, se, rfl, _, rfl⟩
  refine O_call rfl rfl Tb.k52 trivial rfl (HCp.take (L := ⟨true, eb, 0, [.slice none 0 0, .int .u32 0, .int .u32 0]⟩ :: ⟨true, be, 0, codesV cs ++ se⟩ :: _) (.cons (.tail (.tail (.tail .head))) (.cons .head .rfl)) (enc52_c cs hN eb be ce true se _)) ?_
  rintro _ M' ⟨j, cb, cc, ch, _, hrk⟩
  refine O_weak hrk ?_
  clear hrk
  unfold EncR
  repeat' (first | (refine isO ?_; first | refine oo (Pc rfl) ?_ | refine oo (Pa rfl (by omega) (by omega)) ?_ | (refine ob rfl ?_ ?_ <;> intro hq <;> try (exfalso; omega)) | refine oo (Pi rfl (by omega)) ?_ | refine oo (Pl rfl) ?_ | refine oo (Px rfl rfl) ?_ | refine oo (Pj rfl (by omega) (by omega)) ?_ | refine oo (Pk rfl (by omega) (by omega)) ?_ | refine oo (Pf rfl) ?_ | refine oo (Pv rfl (by omega) (by omega)) ?_ | refine oo (Pn rfl) ?_ | refine oo (Pm rfl) ?_ | refine os rfl rfl ?_ | refine ot rfl (by omega) ?_ | refine O_nil ?_) | refine wo rfl ?_ | refine wc rfl ?_ | refine wg rfl ?_ | refine go rfl ?_ | refine gc rfl ?_ | refine gg rfl ?_)
  exact G_fin ⟨_, rfl, by repeat (first | exact .rfl | exact .nil | (apply Rk.cons; (· exact TakeI.out)) | refine .drop ?_)⟩

theorem nums23_c (cs : List Cd) (hN : Numbered cs) (hfree : Free cs) (hfit : Fits cs) (b cap : Nat) (own : Bool) (sp : List Value) (M : Mem) :
    HC Try.prog 23 #[.slice (some ⟨b, 0, none⟩) cs.length cap] (⟨own, b, 0, codesV cs ++ sp⟩ :: M)
      (fun r M' => r = .tuple #[.int .u32 cs.length, .int .u32 (mnTo cs cs.length : Nat), .int .u32 cs.length] ∧ Rk M' M) := by
  refine HC_of_WM (fn := Try.f23) Try.func23 rfl rfl rfl rfl ?_
  repeat' (first | (refine isO ?_; first | refine oo (Pc rfl) ?_ | refine oo (Pa rfl (by omega) (by omega)) ?_ | (refine ob rfl ?_ ?_ <;> intro hq <;> try (exfalso; omega)) | refine oo (Pi rfl (by omega)) ?_ | refine oo (Pl rfl) ?_ | refine oo (Px rfl rfl) ?_ | refine oo (Pj rfl (by omega) (by omega)) ?_ | refine oo (Pk rfl (by omega) (by omega)) ?_ | refine oo (Pf rfl) ?_ | refine oo (Pv rfl (by omega) (by omega)) ?_ | refine oo (Pn rfl) ?_ | refine oo (Pm rfl) ?_ | refine os rfl rfl ?_ | refine ot rfl (by omega) ?_ | refine O_nil ?_) | refine wo rfl ?_ | refine wc rfl ?_ | refine wg rfl ?_ | refine go rfl ?_ | refine gc rfl ?_ | refine gg rfl ?_)
  refine O_box rfl trivial rfl fun b0 => ?_
  refine O_alloc zero40' trivial rfl fun b1 => ?_
  refine O_alloc zero40' trivial rfl fun b2 => ?_
  refine O_alloc zero40' trivial rfl fun b3 => ?_
  repeat' (first | (refine isO ?_; first | refine oo (Pc rfl) ?_ | refine oo (Pa rfl (by omega) (by omega)) ?_ | (refine ob rfl ?_ ?_ <;> intro hq <;> try (exfalso; omega)) | refine oo (Pi rfl (by omega)) ?_ | refine oo (Pl rfl) ?_ | refine oo (Px rfl rfl) ?_ | refine oo (Pj rfl (by omega) (by omega)) ?_ | refine oo (Pk rfl (by omega) (by omega)) ?_ | refine oo (Pf rfl) ?_ | refine oo (Pv rfl (by omega) (by omega)) ?_ | refine oo (Pn rfl) ?_ | refine oo (Pm rfl) ?_ | refine os rfl rfl ?_ | refine ot rfl (by omega) ?_ | refine O_nil ?_) | refine wo rfl ?_ | refine wc rfl ?_ | refine wg rfl ?_ | refine go rfl ?_ | refine gc rfl ?_ | refine gg rfl ?_)
  refine O_call rfl rfl Tb.k39 trivial rfl (safe_c (f := 63) (R := fun M' => Rk M' (⟨true, b1, 0, [.int .u32 cs.length]⟩ :: ⟨true, b2, 0, [.int .u32 (mnTo cs cs.length : Nat)]⟩ :: ⟨true, b3, 0, [.int .u32 cs.length]⟩ :: M)) Tb.k63 fun bs => ?_) ?_
  · refine (HCp.take (L := ⟨own, b, 0, codesV cs ++ sp⟩ :: ⟨true, b0, 0, [.slice (some ⟨b, 0, none⟩) cs.length cap]⟩ :: ⟨true, b1, 0, [.int .u32 0]⟩ :: ⟨true, b2, 0, [.int .u32 0]⟩ :: ⟨true, b3, 0, [.int .u32 0]⟩ :: ⟨true, bs, 0, [.bool false]⟩ :: M)
      (.cons (.tail (.tail (.tail (.tail (.tail .head))))) (.cons (.tail (.tail (.tail (.tail .head)))) (.cons (.tail (.tail (.tail .head))) (.cons (.tail (.tail .head)) (.cons (.tail .head) .rfl)))))
      (nums63_c cs hN hfree hfit b0 b1 b2 b3 b cap own sp _)).mono ?_
    rintro _ M' hrk
    exact ⟨_, .trans hrk (.cons (.tail (.tail (.tail .head))) .rfl), .rfl⟩
  rintro _ M' ⟨rfl, hrk⟩
  refine O_weak hrk ?_
  repeat' (first | (refine isO ?_; first | refine oo (Pc rfl) ?_ | refine oo (Pa rfl (by omega) (by omega)) ?_ | (refine ob rfl ?_ ?_ <;> intro hq <;> try (exfalso; omega)) | refine oo (Pi rfl (by omega)) ?_ | refine oo (Pl rfl) ?_ | refine oo (Px rfl rfl) ?_ | refine oo (Pj rfl (by omega) (by omega)) ?_ | refine oo (Pk rfl (by omega) (by omega)) ?_ | refine oo (Pf rfl) ?_ | refine oo (Pv rfl (by omega) (by omega)) ?_ | refine oo (Pn rfl) ?_ | refine oo (Pm rfl) ?_ | refine os rfl rfl ?_ | refine ot rfl (by omega) ?_ | refine O_nil ?_) | refine wo rfl ?_ | refine wc rfl ?_ | refine wg rfl ?_ | refine go rfl ?_ | refine gc rfl ?_ | refine gg rfl ?_)
  refine W_region_quiet Tb.mixed [[], [], [], [0], [1], [2]] (by kernel_rfl) (by kernel_rfl) ?_
  repeat' (first | (refine isQS ?_; first | refine qq (Pc rfl) ?_ | refine qq (Pa rfl (by omega) (by omega)) ?_ | (refine qb rfl ?_ ?_ <;> intro hq <;> try (exfalso; omega)) | refine qq (Pi rfl (by omega)) ?_ | refine qq (Pl rfl) ?_ | refine qq (Px rfl rfl) ?_ | refine qq (Pj rfl (by omega) (by omega)) ?_ | refine qq (Pk rfl (by omega) (by omega)) ?_ | refine qq (Pf rfl) ?_ | refine qq (Pv rfl (by omega) (by omega)) ?_ | refine qq (Pn rfl) ?_ | refine qq (Pm rfl) ?_ | (refine QS_nil ⟨rfl, ?_⟩; simp only [List.nil_append, List.cons_append, somes])))
  refine QS_store0 Tb.c40 rfl rfl rfl trivial (.head _) ?_
  refine QS_store0 Tb.c40 rfl rfl rfl trivial (.tail _ (.head _)) ?_
  refine QS_store0 Tb.c40 rfl rfl rfl trivial (.tail _ (.tail _ (.head _))) ?_
  repeat' (first | (refine isQS ?_; first | refine qq (Pc rfl) ?_ | refine qq (Pa rfl (by omega) (by omega)) ?_ | (refine qb rfl ?_ ?_ <;> intro hq <;> try (exfalso; omega)) | refine qq (Pi rfl (by omega)) ?_ | refine qq (Pl rfl) ?_ | refine qq (Px rfl rfl) ?_ | refine qq (Pj rfl (by omega) (by omega)) ?_ | refine qq (Pk rfl (by omega) (by omega)) ?_ | refine qq (Pf rfl) ?_ | refine qq (Pv rfl (by omega) (by omega)) ?_ | refine qq (Pn rfl) ?_ | refine qq (Pm rfl) ?_ | (refine QS_nil ⟨rfl, ?_⟩; simp only [List.nil_append, List.cons_append, somes])))
  repeat' (first | (refine isO ?_; first | refine oo (Pc rfl) ?_ | refine oo (Pa rfl (by omega) (by omega)) ?_ | (refine ob rfl ?_ ?_ <;> intro hq <;> try (exfalso; omega)) | refine oo (Pi rfl (by omega)) ?_ | refine oo (Pl rfl) ?_ | refine oo (Px rfl rfl) ?_ | refine oo (Pj rfl (by omega) (by omega)) ?_ | refine oo (Pk rfl (by omega) (by omega)) ?_ | refine oo (Pf rfl) ?_ | refine oo (Pv rfl (by omega) (by omega)) ?_ | refine oo (Pn rfl) ?_ | refine oo (Pm rfl) ?_ | refine os rfl rfl ?_ | refine ot rfl (by omega) ?_ | refine O_nil ?_) | refine wo rfl ?_ | refine wc rfl ?_ | refine wg rfl ?_ | refine go rfl ?_ | refine gc rfl ?_ | refine gg rfl ?_)
  exact G_fin ⟨[.int .u32 cs.length, .int .u32 (mnTo cs cs.length : Nat), .int .u32 cs.length], ⟨⟨_, _, _, _, _, rfl, .head _, Try.underlying40, rfl⟩, ⟨_, _, _, _, _, rfl, .tail _ (.head _), Try.underlying40, rfl⟩, ⟨_, _, _, _, _, rfl, .tail _ (.tail _ (.head _)), Try.underlying40, rfl⟩, trivial⟩, rfl, .drop (.drop (.drop .rfl))⟩

theorem run_min (ts : Array TypeId) (ty : TypeId) (p q : Nat) (w : World) (P : Program) : (Builtin.min_ ts ty #[.int .u32 (p : Int), .int .u32 (q : Int)]).run P w = .ok (.int .u32 ((min p q : Nat) : Int)) w := by
  unfold Builtin.min_
  by_cases h : q < p
  · have e : min p q = q := by omega
    rw [e]
    simp [Builtin.min2, h]
  · have e : min p q = p := by omega
    rw [e]
    simp [Builtin.min2, h]
theorem P_min {P : Program} {N : Fm} {E : Env} {M : Mem} {x y : Operand} {t t2 : TypeId} {p q : Nat} (hx : ev E x = some (.int .u32 (p : Int))) (hy : ev E y = some (.int .u32 (q : Int))) :
    Pure P N E M (.call { callee := .builtin .min, args := #[x, y], argTypes := #[t, t2] }) (.int .u32 ((min p q : Nat) : Int)) := by
  constructor
  intro pr bs w0 a w hA hS d ty pos after g
  simp [execOp, resolve, invoke, builtin, hA.eval hx, hA.eval hy, run_min]

theorem law5_c (s : Value) (ls : List Nat) (M : Mem) (hb : Bs s ls M) : HC Try.prog 5 #[s] M (fun r M' => r = .bool true ∧ Rk M' M) := by
  obtain ⟨ad, cp, e⟩ : ∃ a c, s = .slice a ls.length c := ⟨_, _, hb.2.choose_spec.choose_spec.1⟩
  subst e
  refine HC_of_W (fn := Try.f5) Try.func5 rfl rfl rfl rfl ?_
  repeat' (first | (refine isO ?_; first | refine oo (Pc rfl) ?_ | refine oo (Pa rfl (by omega) (by omega)) ?_ | (refine ob rfl ?_ ?_ <;> intro hq <;> try (exfalso; omega)) | refine oo (Pi rfl (by omega)) ?_ | refine oo (Pl rfl) ?_ | refine oo (Px rfl rfl) ?_ | refine oo (Pj rfl (by omega) (by omega)) ?_ | refine oo (Pk rfl (by omega) (by omega)) ?_ | refine oo (Pf rfl) ?_ | refine oo (Pv rfl (by omega) (by omega)) ?_ | refine oo (Pn rfl) ?_ | refine oo (Pm rfl) ?_ | refine os rfl rfl ?_ | refine ot rfl (by omega) ?_ | refine O_nil ?_) | refine wo rfl ?_ | refine wc rfl ?_ | refine wg rfl ?_ | refine go rfl ?_ | refine gc rfl ?_ | refine gg rfl ?_)
  · exact G_fin ⟨_, rfl, rfl, .rfl⟩
  refine O_call rfl rfl Tb.k19 trivial rfl (given_c _ _ ls [] M hb (Bs.nil M)) ?_
  rintro v M' (⟨hok, b, c, sp, sv, m, rfl, hown, hrk⟩ | ⟨hno, rfl, hrk⟩)
  · refine O_weak hrk ?_
    clear hrk
    obtain ⟨hN, hlen, hget⟩ := canon_numbered ls hok.1
    have hfree := canon_free' ls hok.1 hok.2.1
    generalize canon (linedL 0 [] ls) = cs at *
    have hF : Free cs := by
      intro i j hi hj hij
      rw [hlen] at hi hj
      have h := hfree i j hi hj (by rw [← (hget i hi).1, ← (hget j hj).1]; exact hij)
      rw [← (hget i hi).1] at h
      exact h
    have hT : Fits cs := by
      intro i hi
      rw [hlen] at hi
      rw [(hget i hi).1]
      exact (hget i hi).2
    have h2 := hN.two
    have h60 := hN.most
    rw [← hlen]
    have hl0 := codesV_get cs sp 0 2 (by omega) (by omega)
    repeat' (first | (refine isO ?_; first | refine oo (Pc rfl) ?_ | refine oo (Pa rfl (by omega) (by omega)) ?_ | (refine ob rfl ?_ ?_ <;> intro hq <;> try (exfalso; omega)) | refine oo (Pi rfl (by omega)) ?_ | refine oo (Pl rfl) ?_ | refine oo (Px rfl rfl) ?_ | refine oo (Pj rfl (by omega) (by omega)) ?_ | refine oo (Pk rfl (by omega) (by omega)) ?_ | refine oo (Pf rfl) ?_ | refine oo (Pv rfl (by omega) (by omega)) ?_ | refine oo (Pn rfl) ?_ | refine oo (Pm rfl) ?_ | refine os rfl rfl ?_ | refine ot rfl (by omega) ?_ | refine O_nil ?_) | refine wo rfl ?_ | refine wc rfl ?_ | refine wg rfl ?_ | refine go rfl ?_ | refine gc rfl ?_ | refine gg rfl ?_)
    refine O_pure (P_loadAt (o := 0) (n := 0 * 4 + 2) Tb.p40 rfl rfl (.head _) hl0) trivial rfl ?_
    repeat' (first | (refine isO ?_; first | refine oo (Pc rfl) ?_ | refine oo (Pa rfl (by omega) (by omega)) ?_ | (refine ob rfl ?_ ?_ <;> intro hq <;> try (exfalso; omega)) | refine oo (Pi rfl (by omega)) ?_ | refine oo (Pl rfl) ?_ | refine oo (Px rfl rfl) ?_ | refine oo (Pj rfl (by omega) (by omega)) ?_ | refine oo (Pk rfl (by omega) (by omega)) ?_ | refine oo (Pf rfl) ?_ | refine oo (Pv rfl (by omega) (by omega)) ?_ | refine oo (Pn rfl) ?_ | refine oo (Pm rfl) ?_ | refine os rfl rfl ?_ | refine ot rfl (by omega) ?_ | refine O_nil ?_) | refine wo rfl ?_ | refine wc rfl ?_ | refine wg rfl ?_ | refine go rfl ?_ | refine gc rfl ?_ | refine gg rfl ?_)
    refine W_loop (α := Nat) (fun i => [(3, .slice (some ⟨b, 0, none⟩) cs.length c), (6, .int .u32 (min (cs.getD 0 Cd.zero).len (mnTo cs i) : Nat)), (7, .int .i64 i)])
      (fun _ => ⟨true, b, 0, codesV cs ++ sp⟩ :: (m ++ M)) (fun i => i ≤ cs.length) (fun i => cs.length - i) 0 (by omega) ⟨rfl, congrArg (fun q : Nat => some (Value.int .u32 (q : Int))) ?_, rfl, trivial⟩ .rfl ?_
    · have := hN.len 0 (by omega)
      simp only [mnTo]; omega
    intro i hi
    try dsimp only
    repeat' (first | (refine isO ?_; first | refine oo (Pc rfl) ?_ | refine oo (Pa rfl (by omega) (by omega)) ?_ | (refine ob rfl ?_ ?_ <;> intro hq <;> try (exfalso; omega)) | refine oo (Pi rfl (by omega)) ?_ | refine oo (Pl rfl) ?_ | refine oo (Px rfl rfl) ?_ | refine oo (Pj rfl (by omega) (by omega)) ?_ | refine oo (Pk rfl (by omega) (by omega)) ?_ | refine oo (Pf rfl) ?_ | refine oo (Pv rfl (by omega) (by omega)) ?_ | refine oo (Pn rfl) ?_ | refine oo (Pm rfl) ?_ | refine os rfl rfl ?_ | refine ot rfl (by omega) ?_ | refine O_nil ?_) | refine wo rfl ?_ | refine wc rfl ?_ | refine wg rfl ?_ | refine go rfl ?_ | refine gc rfl ?_ | refine gg rfl ?_)
    · have hil : i < cs.length := by omega
      have hli := codesV_get cs sp i 2 hil (by omega)
      have hm1 : mnTo cs (i + 1) = min (mnTo cs i) (cs.getD i Cd.zero).len := rfl
      refine O_pure (P_loadAt (o := 0) (n := i * 4 + 2) Tb.p40 rfl (by omega) (.head _) hli) trivial rfl ?_
      refine O_pure (P_min (p := min (cs.getD 0 Cd.zero).len (mnTo cs i)) (q := (cs.getD i Cd.zero).len) rfl rfl) trivial rfl ?_
      repeat' (first | (refine isO ?_; first | refine oo (Pc rfl) ?_ | refine oo (Pa rfl (by omega) (by omega)) ?_ | (refine ob rfl ?_ ?_ <;> intro hq <;> try (exfalso; omega)) | refine oo (Pi rfl (by omega)) ?_ | refine oo (Pl rfl) ?_ | refine oo (Px rfl rfl) ?_ | refine oo (Pj rfl (by omega) (by omega)) ?_ | refine oo (Pk rfl (by omega) (by omega)) ?_ | refine oo (Pf rfl) ?_ | refine oo (Pv rfl (by omega) (by omega)) ?_ | refine oo (Pn rfl) ?_ | refine oo (Pm rfl) ?_ | refine os rfl rfl ?_ | refine ot rfl (by omega) ?_ | refine O_nil ?_) | refine wo rfl ?_ | refine wc rfl ?_ | refine wg rfl ?_ | refine go rfl ?_ | refine gc rfl ?_ | refine gg rfl ?_)
      exact G_stop ⟨i + 1, by omega, by omega, ⟨rfl, congrArg (fun q : Nat => some (Value.int .u32 (q : Int))) (by omega), rfl, trivial⟩, .rfl⟩
    · obtain rfl : i = cs.length := by omega
      have hle : min (cs.getD 0 Cd.zero).len (mnTo cs cs.length) = mnTo cs cs.length := by
        have : ∀ n, 1 ≤ n → mnTo cs n ≤ (cs.getD 0 Cd.zero).len := by
          intro n
          induction n with
          | zero => intro h; omega
          | succ n ih =>
            intro _
            simp only [mnTo]
            by_cases h0 : n = 0
            · subst h0; omega
            · have := ih (by omega); omega
        have := this cs.length (by omega)
        omega
      rw [hle]
      refine O_call rfl rfl Tb.k23 trivial rfl (nums23_c cs hN hF hT b c true sp _) ?_
      rintro _ M' ⟨rfl, hrk⟩
      refine O_weak hrk ?_
      clear hrk
      repeat' (first | (refine isO ?_; first | refine oo (Pc rfl) ?_ | refine oo (Pa rfl (by omega) (by omega)) ?_ | (refine ob rfl ?_ ?_ <;> intro hq <;> try (exfalso; omega)) | refine oo (Pi rfl (by omega)) ?_ | refine oo (Pl rfl) ?_ | refine oo (Px rfl rfl) ?_ | refine oo (Pj rfl (by omega) (by omega)) ?_ | refine oo (Pk rfl (by omega) (by omega)) ?_ | refine oo (Pf rfl) ?_ | refine oo (Pv rfl (by omega) (by omega)) ?_ | refine oo (Pn rfl) ?_ | refine oo (Pm rfl) ?_ | refine os rfl rfl ?_ | refine ot rfl (by omega) ?_ | refine O_nil ?_) | refine wo rfl ?_ | refine wc rfl ?_ | refine wg rfl ?_ | refine go rfl ?_ | refine gc rfl ?_ | refine gg rfl ?_)
      refine O_call rfl rfl Tb.k13 trivial rfl (awake_c _) ?_
      rintro v M' ⟨rfl, hrk⟩
      refine O_weak hrk ?_
      clear hrk
      repeat' (first | (refine isO ?_; first | refine oo (Pc rfl) ?_ | refine oo (Pa rfl (by omega) (by omega)) ?_ | (refine ob rfl ?_ ?_ <;> intro hq <;> try (exfalso; omega)) | refine oo (Pi rfl (by omega)) ?_ | refine oo (Pl rfl) ?_ | refine oo (Px rfl rfl) ?_ | refine oo (Pj rfl (by omega) (by omega)) ?_ | refine oo (Pk rfl (by omega) (by omega)) ?_ | refine oo (Pf rfl) ?_ | refine oo (Pv rfl (by omega) (by omega)) ?_ | refine oo (Pn rfl) ?_ | refine oo (Pm rfl) ?_ | refine os rfl rfl ?_ | refine ot rfl (by omega) ?_ | refine O_nil ?_) | refine wo rfl ?_ | refine wc rfl ?_ | refine wg rfl ?_ | refine go rfl ?_ | refine gc rfl ?_ | refine gg rfl ?_)
      exact G_fin ⟨_, rfl, rfl, Rk.right m M⟩
  · refine O_weak hrk ?_
    clear hrk
    repeat' (first | (refine isO ?_; first | refine oo (Pc rfl) ?_ | refine oo (Pa rfl (by omega) (by omega)) ?_ | (refine ob rfl ?_ ?_ <;> intro hq <;> try (exfalso; omega)) | refine oo (Pi rfl (by omega)) ?_ | refine oo (Pl rfl) ?_ | refine oo (Px rfl rfl) ?_ | refine oo (Pj rfl (by omega) (by omega)) ?_ | refine oo (Pk rfl (by omega) (by omega)) ?_ | refine oo (Pf rfl) ?_ | refine oo (Pv rfl (by omega) (by omega)) ?_ | refine oo (Pn rfl) ?_ | refine oo (Pm rfl) ?_ | refine os rfl rfl ?_ | refine ot rfl (by omega) ?_ | refine O_nil ?_) | refine wo rfl ?_ | refine wc rfl ?_ | refine wg rfl ?_ | refine go rfl ?_ | refine gc rfl ?_ | refine gg rfl ?_)
    refine O_call rfl rfl Tb.k13 trivial rfl (awake_c _) ?_
    rintro v M' ⟨rfl, hrk⟩
    refine O_weak hrk ?_
    repeat' (first | (refine isO ?_; first | refine oo (Pc rfl) ?_ | refine oo (Pa rfl (by omega) (by omega)) ?_ | (refine ob rfl ?_ ?_ <;> intro hq <;> try (exfalso; omega)) | refine oo (Pi rfl (by omega)) ?_ | refine oo (Pl rfl) ?_ | refine oo (Px rfl rfl) ?_ | refine oo (Pj rfl (by omega) (by omega)) ?_ | refine oo (Pk rfl (by omega) (by omega)) ?_ | refine oo (Pf rfl) ?_ | refine oo (Pv rfl (by omega) (by omega)) ?_ | refine oo (Pn rfl) ?_ | refine oo (Pm rfl) ?_ | refine os rfl rfl ?_ | refine ot rfl (by omega) ?_ | refine O_nil ?_) | refine wo rfl ?_ | refine wc rfl ?_ | refine wg rfl ?_ | refine go rfl ?_ | refine gc rfl ?_ | refine gg rfl ?_)
    exact G_fin ⟨_, rfl, rfl, .rfl⟩
end Go.Proofs.Ytjkpfliaflmppaa.Pc
