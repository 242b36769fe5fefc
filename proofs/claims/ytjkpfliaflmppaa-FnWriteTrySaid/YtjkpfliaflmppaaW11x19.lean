/- spec.MakeRanges, MakeRangeCodes, rangeCodes, Base, End, walked. Base, End, checkValid, rangeCodes, spec.RangeOf, walked. RangeCodes.checkValid and spec.RangeOf, walked. -/
import Derived.Test.YtjkpfliaflmppaaW11x18
import Derived.Test.YtjkpfliaflmppaaW11x07
import Derived.Test.YtjkpfliaflmppaaW11x04
import Derived.Test.YtjkpfliaflmppaaW11x05

namespace Go.Proofs.Ytjkpfliaflmppaa.Pc
open Go Go.RowKit Go.Proofs.Ytjkpfliaflmppaa.Vm

theorem mk34_c (a : Nat) (s : Value) (ls : List Nat) (M : Mem) (ha : a ≤ 1048576) (hu : Us s ls M) (hok : OkN ls) :
    HC Try.prog 34 #[.int .u64 a, s] M (fun v M' => ∃ sv m, Own sv 2 (rangesV (mkR a ls)) m ∧ v = .tuple #[sv, .int .u32 (rAt a ls ls.length)] ∧ Rk M' (m ++ M)) := by
  obtain ⟨I, hI, hI1, hI2, hI3⟩ := of_info info69
  obtain ⟨ad, cp, e⟩ : ∃ a c, s = .slice a ls.length c := ⟨_, _, hu.choose_spec.choose_spec.1⟩
  subst e
  have h30 := hok.1
  refine HC_of_W (fn := Try.f34) Try.func34 rfl rfl rfl rfl ?_
  repeat' (first | (refine isO ?_; first | refine oo (Pc rfl) ?_ | refine oo (Pa rfl (by omega) (by omega)) ?_ | (refine ob rfl ?_ ?_ <;> intro hq <;> try (exfalso; omega)) | refine oo (Pi rfl (by omega)) ?_ | refine oo (Pl rfl) ?_ | refine oo (Px rfl rfl) ?_ | refine oo (Pj rfl (by omega) (by omega)) ?_ | refine oo (Pk rfl (by omega) (by omega)) ?_ | refine oo (Pf rfl) ?_ | refine oo (Pv rfl (by omega) (by omega)) ?_ | refine oo (Pn rfl) ?_ | refine oo (Pm rfl) ?_ | refine os rfl rfl ?_ | refine ot rfl (by omega) ?_ | refine O_nil ?_) | refine wo rfl ?_ | refine wc rfl ?_ | refine wg rfl ?_ | refine go rfl ?_ | refine gc rfl ?_ | refine gg rfl ?_)
  refine W_loop (α := Nat × Value × Mem) (fun x => [(1, .slice ad ls.length cp), (6, x.2.1), (7, .int .u32 (rAt a ls x.1 : Nat)), (8, .int .i64 x.1)])
    (fun x => x.2.2 ++ M) (fun x => x.1 ≤ ls.length ∧ Own x.2.1 2 (rangesV ((mkR a ls).take x.1)) x.2.2) (fun x => ls.length - x.1)
    (0, .slice none 0 0, []) ⟨by omega, .inl ⟨rfl, by simp [rangesV], rfl⟩⟩ ⟨rfl, rfl, rfl, rfl, trivial⟩ .rfl ?_
  rintro ⟨i, sv, m⟩ ⟨hi, hown⟩
  dsimp only at hi hown ⊢
  repeat' (first | (refine isO ?_; first | refine oo (Pc rfl) ?_ | refine oo (Pa rfl (by omega) (by omega)) ?_ | (refine ob rfl ?_ ?_ <;> intro hq <;> try (exfalso; omega)) | refine oo (Pi rfl (by omega)) ?_ | refine oo (Pl rfl) ?_ | refine oo (Px rfl rfl) ?_ | refine oo (Pj rfl (by omega) (by omega)) ?_ | refine oo (Pk rfl (by omega) (by omega)) ?_ | refine oo (Pf rfl) ?_ | refine oo (Pv rfl (by omega) (by omega)) ?_ | refine oo (Pn rfl) ?_ | refine oo (Pm rfl) ?_ | refine os rfl rfl ?_ | refine ot rfl (by omega) ?_ | refine O_nil ?_) | refine wo rfl ?_ | refine wc rfl ?_ | refine wg rfl ?_ | refine go rfl ?_ | refine gc rfl ?_ | refine gg rfl ?_)
  · have hil : i < ls.length := by omega
    obtain ⟨b, own, sp, cap, e, hm, hg⟩ := hu.at hil
    cases e
    have hm' : (⟨own, b, 0, ints .u64 (ls.map Nat.cast) ++ sp⟩ : Sg) ∈ m ++ M := List.mem_append_right _ hm
    have hz := hok.2 i hil
    have hr := rAt_le (a := a) hok i (by omega)
    have hr1 : rAt a ls (i + 1) = rAt a ls i + 2 ^ ls.getD i 0 := rfl
    have hget := mkR_get a ls i hil
    have htake := rangesV_take (mkR a ls) i (by rw [mkR_length]; exact hil) hget
    have hlen : (rangesV ((mkR a ls).take i)).length = i * 2 := by rw [rangesV_length, List.length_take, mkR_length]; omega
    have hp := pow20 hz
    generalize ls.getD i 0 = z at *
    repeat' (first | (refine isO ?_; first | refine oo (Pc rfl) ?_ | refine oo (Pa rfl (by omega) (by omega)) ?_ | (refine ob rfl ?_ ?_ <;> intro hq <;> try (exfalso; omega)) | refine oo (Pi rfl (by omega)) ?_ | refine oo (Pl rfl) ?_ | refine oo (Px rfl rfl) ?_ | refine oo (Pj rfl (by omega) (by omega)) ?_ | refine oo (Pk rfl (by omega) (by omega)) ?_ | refine oo (Pf rfl) ?_ | refine oo (Pv rfl (by omega) (by omega)) ?_ | refine oo (Pn rfl) ?_ | refine oo (Pm rfl) ?_ | refine os rfl rfl ?_ | refine ot rfl (by omega) ?_ | refine O_nil ?_) | refine wo rfl ?_ | refine wc rfl ?_ | refine wg rfl ?_ | refine go rfl ?_ | refine gc rfl ?_ | refine gg rfl ?_)
    refine O_pure (P_loadAt (o := 0) (n := i) Tb.p49 rfl (by omega) hm' hg) trivial rfl ?_
    repeat' (first | (refine isO ?_; first | refine oo (Pc rfl) ?_ | refine oo (Pa rfl (by omega) (by omega)) ?_ | (refine ob rfl ?_ ?_ <;> intro hq <;> try (exfalso; omega)) | refine oo (Pi rfl (by omega)) ?_ | refine oo (Pl rfl) ?_ | refine oo (Px rfl rfl) ?_ | refine oo (Pj rfl (by omega) (by omega)) ?_ | refine oo (Pk rfl (by omega) (by omega)) ?_ | refine oo (Pf rfl) ?_ | refine oo (Pv rfl (by omega) (by omega)) ?_ | refine oo (Pn rfl) ?_ | refine oo (Pm rfl) ?_ | refine os rfl rfl ?_ | refine ot rfl (by omega) ?_ | refine O_nil ?_) | refine wo rfl ?_ | refine wc rfl ?_ | refine wg rfl ?_ | refine go rfl ?_ | refine gc rfl ?_ | refine gg rfl ?_)
    refine O_pure (P_build rfl (build69 _ _)) trivial rfl ?_
    refine O_buildSlice rfl (row34_1 _ _) trivial rfl fun by1 => ?_
    refine O_append (m := m) (M0 := ⟨true, by1, 0, _⟩ :: M) Tb.u34 Tb.u34 hI hI1 (by decide) (by omega) hI3 rfl rfl rfl hown (.perm List.perm_middle.symm) hlen (.head _) (Nat.le_refl 2) (lit2_one _ _) (.inl (by omega)) (by rw [hI2]; omega) trivial rfl fun b2 c2 s2 h2 => ?_
    rw [htake] at h2 ⊢
    repeat' (first | (refine isO ?_; first | refine oo (Pc rfl) ?_ | refine oo (Pa rfl (by omega) (by omega)) ?_ | (refine ob rfl ?_ ?_ <;> intro hq <;> try (exfalso; omega)) | refine oo (Pi rfl (by omega)) ?_ | refine oo (Pl rfl) ?_ | refine oo (Px rfl rfl) ?_ | refine oo (Pj rfl (by omega) (by omega)) ?_ | refine oo (Pk rfl (by omega) (by omega)) ?_ | refine oo (Pf rfl) ?_ | refine oo (Pv rfl (by omega) (by omega)) ?_ | refine oo (Pn rfl) ?_ | refine oo (Pm rfl) ?_ | refine os rfl rfl ?_ | refine ot rfl (by omega) ?_ | refine O_nil ?_) | refine wo rfl ?_ | refine wc rfl ?_ | refine wg rfl ?_ | refine go rfl ?_ | refine gc rfl ?_ | refine gg rfl ?_)
    refine O_pure (P_loadAt (o := 0) (n := i) Tb.p49 rfl (by omega) (.tail _ (.tail _ hm)) hg) trivial rfl ?_
    refine O_pure (P_shlE (p := 1) (q := z) (r := 2 ^ z) rfl rfl rfl (by rw [Nat.one_mul]; exact Nat.mod_eq_of_lt (by simp only [IntKind.bits]; omega))) trivial rfl ?_
    repeat' (first | (refine isO ?_; first | refine oo (Pc rfl) ?_ | refine oo (Pa rfl (by omega) (by omega)) ?_ | (refine ob rfl ?_ ?_ <;> intro hq <;> try (exfalso; omega)) | refine oo (Pi rfl (by omega)) ?_ | refine oo (Pl rfl) ?_ | refine oo (Px rfl rfl) ?_ | refine oo (Pj rfl (by omega) (by omega)) ?_ | refine oo (Pk rfl (by omega) (by omega)) ?_ | refine oo (Pf rfl) ?_ | refine oo (Pv rfl (by omega) (by omega)) ?_ | refine oo (Pn rfl) ?_ | refine oo (Pm rfl) ?_ | refine os rfl rfl ?_ | refine ot rfl (by omega) ?_ | refine O_nil ?_) | refine wo rfl ?_ | refine wc rfl ?_ | refine wg rfl ?_ | refine go rfl ?_ | refine gc rfl ?_ | refine gg rfl ?_)
    refine G_stop ⟨(i + 1, .slice (some ⟨b2, 0, none⟩) (i + 1) c2, [⟨true, b2, 0, rangesV ((mkR a ls).take (i + 1)) ++ s2⟩]), ⟨by omega, .inr ⟨b2, i + 1, c2, s2, rfl, rfl, by rw [rangesV_length, List.length_take, mkR_length]; omega, h2⟩⟩, by dsimp only; omega, ⟨rfl, rfl, ?_, rfl, trivial⟩, .cons .head (.drop .rfl)⟩
    rw [hr1]; rfl
  · obtain rfl : i = ls.length := by omega
    rw [← mkR_length a ls, List.take_length] at hown
    exact G_fin ⟨_, rfl, sv, m, hown, rfl, .rfl⟩

theorem mk81_c (a : Nat) (s : Value) (ls : List Nat) (M : Mem) (ha : a ≤ 1048576) (hu : Us s ls M) (hok : OkN ls) :
    HC Try.prog 81 #[.int .u64 a, s] M (fun v M' => ∃ m, Own v 2 (rangesV (mkR a ls)) m ∧ Rk M' (m ++ M)) := by
  obtain ⟨I, hI, hI1, hI2, hI3⟩ := of_info info141
  obtain ⟨ad, cp, e⟩ : ∃ a c, s = .slice a ls.length c := ⟨_, _, hu.choose_spec.choose_spec.1⟩
  subst e
  have h30 := hok.1
  refine HC_of_W (fn := Try.f81) Try.func81 rfl rfl rfl rfl ?_
  repeat' (first | (refine isO ?_; first | refine oo (Pc rfl) ?_ | refine oo (Pa rfl (by omega) (by omega)) ?_ | (refine ob rfl ?_ ?_ <;> intro hq <;> try (exfalso; omega)) | refine oo (Pi rfl (by omega)) ?_ | refine oo (Pl rfl) ?_ | refine oo (Px rfl rfl) ?_ | refine oo (Pj rfl (by omega) (by omega)) ?_ | refine oo (Pk rfl (by omega) (by omega)) ?_ | refine oo (Pf rfl) ?_ | refine oo (Pv rfl (by omega) (by omega)) ?_ | refine oo (Pn rfl) ?_ | refine oo (Pm rfl) ?_ | refine os rfl rfl ?_ | refine ot rfl (by omega) ?_ | refine O_nil ?_) | refine wo rfl ?_ | refine wc rfl ?_ | refine wg rfl ?_ | refine go rfl ?_ | refine gc rfl ?_ | refine gg rfl ?_)
  refine W_loop (α := Nat × Value × Mem) (fun x => [(0, .int .u64 (rAt a ls x.1 : Nat)), (4, x.2.1), (7, .slice ad ls.length cp), (8, .int .i64 ls.length), (9, .int .i64 x.1)])
    (fun x => x.2.2 ++ M) (fun x => x.1 ≤ ls.length ∧ Own x.2.1 2 (rangesV ((mkR a ls).take x.1)) x.2.2) (fun x => ls.length - x.1)
    (0, .slice none 0 0, []) ⟨by omega, .inl ⟨rfl, by simp [rangesV], rfl⟩⟩ ⟨rfl, rfl, rfl, rfl, rfl, trivial⟩ .rfl ?_
  rintro ⟨i, sv, m⟩ ⟨hi, hown⟩
  dsimp only at hi hown ⊢
  repeat' (first | (refine isO ?_; first | refine oo (Pc rfl) ?_ | refine oo (Pa rfl (by omega) (by omega)) ?_ | (refine ob rfl ?_ ?_ <;> intro hq <;> try (exfalso; omega)) | refine oo (Pi rfl (by omega)) ?_ | refine oo (Pl rfl) ?_ | refine oo (Px rfl rfl) ?_ | refine oo (Pj rfl (by omega) (by omega)) ?_ | refine oo (Pk rfl (by omega) (by omega)) ?_ | refine oo (Pf rfl) ?_ | refine oo (Pv rfl (by omega) (by omega)) ?_ | refine oo (Pn rfl) ?_ | refine oo (Pm rfl) ?_ | refine os rfl rfl ?_ | refine ot rfl (by omega) ?_ | refine O_nil ?_) | refine wo rfl ?_ | refine wc rfl ?_ | refine wg rfl ?_ | refine go rfl ?_ | refine gc rfl ?_ | refine gg rfl ?_)
  · have hil : i < ls.length := by omega
    obtain ⟨b, own, sp, cap, e, hm, hg⟩ := hu.at hil
    cases e
    have hm' : (⟨own, b, 0, ints .u64 (ls.map Nat.cast) ++ sp⟩ : Sg) ∈ m ++ M := List.mem_append_right _ hm
    have hz := hok.2 i hil
    have hr := rAt_le (a := a) hok i (by omega)
    have hr1 : rAt a ls (i + 1) = rAt a ls i + 2 ^ ls.getD i 0 := rfl
    have hget := mkR_get a ls i hil
    have htake := rangesV_take (mkR a ls) i (by rw [mkR_length]; exact hil) hget
    have hlen : (rangesV ((mkR a ls).take i)).length = i * 2 := by rw [rangesV_length, List.length_take, mkR_length]; omega
    have hp := pow20 hz
    generalize ls.getD i 0 = z at *
    repeat' (first | (refine isO ?_; first | refine oo (Pc rfl) ?_ | refine oo (Pa rfl (by omega) (by omega)) ?_ | (refine ob rfl ?_ ?_ <;> intro hq <;> try (exfalso; omega)) | refine oo (Pi rfl (by omega)) ?_ | refine oo (Pl rfl) ?_ | refine oo (Px rfl rfl) ?_ | refine oo (Pj rfl (by omega) (by omega)) ?_ | refine oo (Pk rfl (by omega) (by omega)) ?_ | refine oo (Pf rfl) ?_ | refine oo (Pv rfl (by omega) (by omega)) ?_ | refine oo (Pn rfl) ?_ | refine oo (Pm rfl) ?_ | refine os rfl rfl ?_ | refine ot rfl (by omega) ?_ | refine O_nil ?_) | refine wo rfl ?_ | refine wc rfl ?_ | refine wg rfl ?_ | refine go rfl ?_ | refine gc rfl ?_ | refine gg rfl ?_)
    refine O_pure (P_loadAt (o := 0) (n := i) Tb.p49 rfl (by omega) hm' hg) trivial rfl ?_
    repeat' (first | (refine isO ?_; first | refine oo (Pc rfl) ?_ | refine oo (Pa rfl (by omega) (by omega)) ?_ | (refine ob rfl ?_ ?_ <;> intro hq <;> try (exfalso; omega)) | refine oo (Pi rfl (by omega)) ?_ | refine oo (Pl rfl) ?_ | refine oo (Px rfl rfl) ?_ | refine oo (Pj rfl (by omega) (by omega)) ?_ | refine oo (Pk rfl (by omega) (by omega)) ?_ | refine oo (Pf rfl) ?_ | refine oo (Pv rfl (by omega) (by omega)) ?_ | refine oo (Pn rfl) ?_ | refine oo (Pm rfl) ?_ | refine os rfl rfl ?_ | refine ot rfl (by omega) ?_ | refine O_nil ?_) | refine wo rfl ?_ | refine wc rfl ?_ | refine wg rfl ?_ | refine go rfl ?_ | refine gc rfl ?_ | refine gg rfl ?_)
    refine O_pure (P_build rfl (build141 _ _)) trivial rfl ?_
    refine O_buildSlice rfl (row106_1 _ _) trivial rfl fun by1 => ?_
    refine O_append (m := m) (M0 := ⟨true, by1, 0, _⟩ :: M) Tb.u106 Tb.u106 hI hI1 (by decide) (by omega) hI3 rfl rfl rfl hown (.perm List.perm_middle.symm) hlen (.head _) (Nat.le_refl 2) (lit2_one _ _) (.inl (by omega)) (by rw [hI2]; omega) trivial rfl fun b2 c2 s2 h2 => ?_
    rw [htake] at h2 ⊢
    repeat' (first | (refine isO ?_; first | refine oo (Pc rfl) ?_ | refine oo (Pa rfl (by omega) (by omega)) ?_ | (refine ob rfl ?_ ?_ <;> intro hq <;> try (exfalso; omega)) | refine oo (Pi rfl (by omega)) ?_ | refine oo (Pl rfl) ?_ | refine oo (Px rfl rfl) ?_ | refine oo (Pj rfl (by omega) (by omega)) ?_ | refine oo (Pk rfl (by omega) (by omega)) ?_ | refine oo (Pf rfl) ?_ | refine oo (Pv rfl (by omega) (by omega)) ?_ | refine oo (Pn rfl) ?_ | refine oo (Pm rfl) ?_ | refine os rfl rfl ?_ | refine ot rfl (by omega) ?_ | refine O_nil ?_) | refine wo rfl ?_ | refine wc rfl ?_ | refine wg rfl ?_ | refine go rfl ?_ | refine gc rfl ?_ | refine gg rfl ?_)
    refine O_pure (P_shlE (p := 1) (q := z) (r := 2 ^ z) rfl rfl rfl (by rw [Nat.one_mul]; exact Nat.mod_eq_of_lt (by simp only [IntKind.bits]; omega))) trivial rfl ?_
    repeat' (first | (refine isO ?_; first | refine oo (Pc rfl) ?_ | refine oo (Pa rfl (by omega) (by omega)) ?_ | (refine ob rfl ?_ ?_ <;> intro hq <;> try (exfalso; omega)) | refine oo (Pi rfl (by omega)) ?_ | refine oo (Pl rfl) ?_ | refine oo (Px rfl rfl) ?_ | refine oo (Pj rfl (by omega) (by omega)) ?_ | refine oo (Pk rfl (by omega) (by omega)) ?_ | refine oo (Pf rfl) ?_ | refine oo (Pv rfl (by omega) (by omega)) ?_ | refine oo (Pn rfl) ?_ | refine oo (Pm rfl) ?_ | refine os rfl rfl ?_ | refine ot rfl (by omega) ?_ | refine O_nil ?_) | refine wo rfl ?_ | refine wc rfl ?_ | refine wg rfl ?_ | refine go rfl ?_ | refine gc rfl ?_ | refine gg rfl ?_)
    refine G_stop ⟨(i + 1, .slice (some ⟨b2, 0, none⟩) (i + 1) c2, [⟨true, b2, 0, rangesV ((mkR a ls).take (i + 1)) ++ s2⟩]), ⟨by omega, .inr ⟨b2, i + 1, c2, s2, rfl, rfl, by rw [rangesV_length, List.length_take, mkR_length]; omega, h2⟩⟩, by dsimp only; omega, ⟨?_, rfl, rfl, rfl, rfl, trivial⟩, .cons .head (.drop .rfl)⟩
    rw [hr1]; rfl
  · obtain rfl : i = ls.length := by omega
    rw [← mkR_length a ls, List.take_length] at hown
    exact G_fin ⟨_, rfl, m, hown, .rfl⟩
end Go.Proofs.Ytjkpfliaflmppaa.Pc

namespace Go.Proofs.Ytjkpfliaflmppaa.Pc
open Go Go.RowKit Go.Proofs.Ytjkpfliaflmppaa.Vm

theorem P_tail {P : Program} {N : Fm} {E : Env} {M : Mem} {t e : TypeId} {x : Operand} {b len cap n : Nat} (ht : Und P t (.slice e)) (he : Cel P e n) (hn : 0 < n) (hx : ev E x = some (.slice (some ⟨b, 0, none⟩) len cap)) (h1 : 1 ≤ len) (h2 : len ≤ cap) :
    Pure P N E M (.slice t x (some (.const (.int .i64 1))) none none) (.slice (some ⟨b, if cap = 1 then 0 else n, none⟩) (len - 1) (cap - 1)) := by
  by_cases hc : cap = 1
  · rw [if_pos hc]
    have := P_slice_end (N := N) (M := M) (lo := some (.const (.int .i64 1))) (hi := none) (l := 1) (h := len) ht he hn hx ⟨_, rfl⟩ rfl (by omega) (by omega) (by omega) (by omega)
    rw [show len - 1 = 0 by omega, show cap - 1 = 0 by omega]
    exact this
  · rw [if_neg hc]
    have := P_slice (N := N) (M := M) (lo := some (.const (.int .i64 1))) (hi := none) (l := 1) (h := len) ht he hn hx ⟨_, rfl⟩ rfl (by omega) (by omega) (by omega) (by omega)
    simpa using this

theorem end98_c (p n : Nat) (M : Mem) (hp : p + 2 ^ n < 2 ^ 32) :
    HC Try.prog 98 #[.agg [.int .u32 p, .int .u32 n].toArray] M (fun v M' => v = .int .u32 (p + 2 ^ n : Nat) ∧ Rk M' M) := by
  refine HC_of_W (fn := Try.f98) Try.func98 rfl rfl rfl rfl ?_
  repeat' (first | (refine isO ?_; first | refine oo (Pc rfl) ?_ | refine oo (Pa rfl (by omega) (by omega)) ?_ | (refine ob rfl ?_ ?_ <;> intro hq <;> try (exfalso; omega)) | refine oo (Pi rfl (by omega)) ?_ | refine oo (Pl rfl) ?_ | refine oo (Px rfl rfl) ?_ | refine oo (Pj rfl (by omega) (by omega)) ?_ | refine oo (Pk rfl (by omega) (by omega)) ?_ | refine oo (Pf rfl) ?_ | refine oo (Pv rfl (by omega) (by omega)) ?_ | refine oo (Pn rfl) ?_ | refine oo (Pm rfl) ?_ | refine os rfl rfl ?_ | refine ot rfl (by omega) ?_ | refine O_nil ?_) | refine wo rfl ?_ | refine wc rfl ?_ | refine wg rfl ?_ | refine go rfl ?_ | refine gc rfl ?_ | refine gg rfl ?_)
  refine O_box rfl trivial rfl fun b => ?_
  refine O_weak (M' := ⟨true, b, 0, [.int .u32 p, .int .u32 n]⟩ :: M) .rfl ?_
  repeat' (first | (refine isO ?_; first | refine oo (Pc rfl) ?_ | refine oo (Pa rfl (by omega) (by omega)) ?_ | (refine ob rfl ?_ ?_ <;> intro hq <;> try (exfalso; omega)) | refine oo (Pi rfl (by omega)) ?_ | refine oo (Pl rfl) ?_ | refine oo (Px rfl rfl) ?_ | refine oo (Pj rfl (by omega) (by omega)) ?_ | refine oo (Pk rfl (by omega) (by omega)) ?_ | refine oo (Pf rfl) ?_ | refine oo (Pv rfl (by omega) (by omega)) ?_ | refine oo (Pn rfl) ?_ | refine oo (Pm rfl) ?_ | refine os rfl rfl ?_ | refine ot rfl (by omega) ?_ | refine O_nil ?_) | refine wo rfl ?_ | refine wc rfl ?_ | refine wg rfl ?_ | refine go rfl ?_ | refine gc rfl ?_ | refine gg rfl ?_)
  refine O_pure (P_shlE (p := 1) (q := n) (r := 2 ^ n) rfl rfl rfl (by rw [Nat.one_mul]; exact Nat.mod_eq_of_lt (by simp only [IntKind.bits]; omega))) trivial rfl ?_
  refine O_pure (P_addE (p := p) (q := 2 ^ n) (r := p + 2 ^ n) rfl rfl rfl (Nat.mod_eq_of_lt hp)) trivial rfl ?_
  repeat' (first | (refine isO ?_; first | refine oo (Pc rfl) ?_ | refine oo (Pa rfl (by omega) (by omega)) ?_ | (refine ob rfl ?_ ?_ <;> intro hq <;> try (exfalso; omega)) | refine oo (Pi rfl (by omega)) ?_ | refine oo (Pl rfl) ?_ | refine oo (Px rfl rfl) ?_ | refine oo (Pj rfl (by omega) (by omega)) ?_ | refine oo (Pk rfl (by omega) (by omega)) ?_ | refine oo (Pf rfl) ?_ | refine oo (Pv rfl (by omega) (by omega)) ?_ | refine oo (Pn rfl) ?_ | refine oo (Pm rfl) ?_ | refine os rfl rfl ?_ | refine ot rfl (by omega) ?_ | refine O_nil ?_) | refine wo rfl ?_ | refine wc rfl ?_ | refine wg rfl ?_ | refine go rfl ?_ | refine gc rfl ?_ | refine gg rfl ?_)
  exact G_fin ⟨_, rfl, rfl, .drop .rfl⟩

theorem base82_c (s : Value) (l : List Rg) (M : Mem) (hs : Rs s l M) (h0 : 0 < l.length) : HP Try.prog 82 #[s] M (.int .u32 (l.getD 0 Rg.zero).base) := by
  obtain ⟨b, own, sp, cap, rfl, hc, hm⟩ := hs.at h0
  have hg := rangesV_get l sp 0 0 h0 (by omega)
  refine HP.of (HC_of_W (fn := Try.f82) Try.func82 rfl rfl rfl rfl ?_)
  repeat' (first | (refine isO ?_; first | refine oo (Pc rfl) ?_ | refine oo (Pa rfl (by omega) (by omega)) ?_ | (refine ob rfl ?_ ?_ <;> intro hq <;> try (exfalso; omega)) | refine oo (Pi rfl (by omega)) ?_ | refine oo (Pl rfl) ?_ | refine oo (Px rfl rfl) ?_ | refine oo (Pj rfl (by omega) (by omega)) ?_ | refine oo (Pk rfl (by omega) (by omega)) ?_ | refine oo (Pf rfl) ?_ | refine oo (Pv rfl (by omega) (by omega)) ?_ | refine oo (Pn rfl) ?_ | refine oo (Pm rfl) ?_ | refine os rfl rfl ?_ | refine ot rfl (by omega) ?_ | refine O_nil ?_) | refine wo rfl ?_ | refine wc rfl ?_ | refine wg rfl ?_ | refine go rfl ?_ | refine gc rfl ?_ | refine gg rfl ?_)
  refine O_pure (P_loadAt (o := 0) (n := 0 * 2 + 0) Tb.p40 rfl rfl hm hg) trivial rfl ?_
  repeat' (first | (refine isO ?_; first | refine oo (Pc rfl) ?_ | refine oo (Pa rfl (by omega) (by omega)) ?_ | (refine ob rfl ?_ ?_ <;> intro hq <;> try (exfalso; omega)) | refine oo (Pi rfl (by omega)) ?_ | refine oo (Pl rfl) ?_ | refine oo (Px rfl rfl) ?_ | refine oo (Pj rfl (by omega) (by omega)) ?_ | refine oo (Pk rfl (by omega) (by omega)) ?_ | refine oo (Pf rfl) ?_ | refine oo (Pv rfl (by omega) (by omega)) ?_ | refine oo (Pn rfl) ?_ | refine oo (Pm rfl) ?_ | refine os rfl rfl ?_ | refine ot rfl (by omega) ?_ | refine O_nil ?_) | refine wo rfl ?_ | refine wc rfl ?_ | refine wg rfl ?_ | refine go rfl ?_ | refine gc rfl ?_ | refine gg rfl ?_)
  exact G_fin ⟨_, rfl, rfl⟩

theorem end83_c (s : Value) (l : List Rg) (M : Mem) (hs : Rs s l M) (h0 : 0 < l.length) (h100 : l.length ≤ 100) {p n : Nat} (he : l.getD (l.length - 1) Rg.zero = ⟨p, n⟩) (hp : p + 2 ^ n < 2 ^ 32) :
    HC Try.prog 83 #[s] M (fun v M' => v = .int .u32 (p + 2 ^ n : Nat) ∧ Rk M' M) := by
  obtain ⟨b, own, sp, cap, rfl, hc, hm⟩ := hs.at h0
  have hg := rangesV_block l sp (l.length - 1) (by omega) he
  refine HC_of_W (fn := Try.f83) Try.func83 rfl rfl rfl rfl ?_
  repeat' (first | (refine isO ?_; first | refine oo (Pc rfl) ?_ | refine oo (Pa rfl (by omega) (by omega)) ?_ | (refine ob rfl ?_ ?_ <;> intro hq <;> try (exfalso; omega)) | refine oo (Pi rfl (by omega)) ?_ | refine oo (Pl rfl) ?_ | refine oo (Px rfl rfl) ?_ | refine oo (Pj rfl (by omega) (by omega)) ?_ | refine oo (Pk rfl (by omega) (by omega)) ?_ | refine oo (Pf rfl) ?_ | refine oo (Pv rfl (by omega) (by omega)) ?_ | refine oo (Pn rfl) ?_ | refine oo (Pm rfl) ?_ | refine os rfl rfl ?_ | refine ot rfl (by omega) ?_ | refine O_nil ?_) | refine wo rfl ?_ | refine wc rfl ?_ | refine wg rfl ?_ | refine go rfl ?_ | refine gc rfl ?_ | refine gg rfl ?_)
  refine O_pure (P_loadAggAt (o := 0) (i := (l.length - 1) * 2) (cs := [.int .u32 p, .int .u32 n]) Tb.a141 Tb.c141 (by decide) rfl (by omega) hm (by rw [List.length_append, rangesV_length]; omega) hg) trivial rfl ?_
  refine O_call rfl rfl Tb.k98 trivial rfl (end98_c p n M hp) ?_
  rintro v M' ⟨rfl, hrk⟩
  refine O_weak hrk ?_
  repeat' (first | (refine isO ?_; first | refine oo (Pc rfl) ?_ | refine oo (Pa rfl (by omega) (by omega)) ?_ | (refine ob rfl ?_ ?_ <;> intro hq <;> try (exfalso; omega)) | refine oo (Pi rfl (by omega)) ?_ | refine oo (Pl rfl) ?_ | refine oo (Px rfl rfl) ?_ | refine oo (Pj rfl (by omega) (by omega)) ?_ | refine oo (Pk rfl (by omega) (by omega)) ?_ | refine oo (Pf rfl) ?_ | refine oo (Pv rfl (by omega) (by omega)) ?_ | refine oo (Pn rfl) ?_ | refine oo (Pm rfl) ?_ | refine os rfl rfl ?_ | refine ot rfl (by omega) ?_ | refine O_nil ?_) | refine wo rfl ?_ | refine wc rfl ?_ | refine wg rfl ?_ | refine go rfl ?_ | refine gc rfl ?_ | refine gg rfl ?_)
  exact G_fin ⟨_, rfl, rfl, .rfl⟩

theorem codes54_c (s : Value) (l : List Rg) (M : Mem) (hs : Rs s l M) (h100 : l.length ≤ 100) : HC Try.prog 54 #[s] M (fun v M' => ∃ m, Own v 2 (rangesV l) m ∧ Rk M' (m ++ M)) := by
  obtain ⟨I, hI, hI1, hI2, hI3⟩ := of_info info141
  obtain ⟨ad, cp, e⟩ : ∃ a c, s = .slice a l.length c := ⟨_, _, hs.choose_spec.choose_spec.1⟩
  subst e
  refine HC_of_W (fn := Try.f54) Try.func54 rfl rfl rfl rfl ?_
  repeat' (first | (refine isO ?_; first | refine oo (Pc rfl) ?_ | refine oo (Pa rfl (by omega) (by omega)) ?_ | (refine ob rfl ?_ ?_ <;> intro hq <;> try (exfalso; omega)) | refine oo (Pi rfl (by omega)) ?_ | refine oo (Pl rfl) ?_ | refine oo (Px rfl rfl) ?_ | refine oo (Pj rfl (by omega) (by omega)) ?_ | refine oo (Pk rfl (by omega) (by omega)) ?_ | refine oo (Pf rfl) ?_ | refine oo (Pv rfl (by omega) (by omega)) ?_ | refine oo (Pn rfl) ?_ | refine oo (Pm rfl) ?_ | refine os rfl rfl ?_ | refine ot rfl (by omega) ?_ | refine O_nil ?_) | refine wo rfl ?_ | refine wc rfl ?_ | refine wg rfl ?_ | refine go rfl ?_ | refine gc rfl ?_ | refine gg rfl ?_)
  refine W_loop (α := Nat × Value × Mem) (fun x => [(3, x.2.1), (6, .slice ad l.length cp), (7, .int .i64 l.length), (8, .int .i64 x.1)])
    (fun x => x.2.2 ++ M) (fun x => x.1 ≤ l.length ∧ Own x.2.1 2 (rangesV (l.take x.1)) x.2.2) (fun x => l.length - x.1)
    (0, .slice none 0 0, []) ⟨by omega, .inl ⟨rfl, by simp [rangesV], rfl⟩⟩ ⟨rfl, rfl, rfl, rfl, trivial⟩ .rfl ?_
  rintro ⟨i, sv, m⟩ ⟨hi, hown⟩
  dsimp only at hi hown ⊢
  repeat' (first | (refine isO ?_; first | refine oo (Pc rfl) ?_ | refine oo (Pa rfl (by omega) (by omega)) ?_ | (refine ob rfl ?_ ?_ <;> intro hq <;> try (exfalso; omega)) | refine oo (Pi rfl (by omega)) ?_ | refine oo (Pl rfl) ?_ | refine oo (Px rfl rfl) ?_ | refine oo (Pj rfl (by omega) (by omega)) ?_ | refine oo (Pk rfl (by omega) (by omega)) ?_ | refine oo (Pf rfl) ?_ | refine oo (Pv rfl (by omega) (by omega)) ?_ | refine oo (Pn rfl) ?_ | refine oo (Pm rfl) ?_ | refine os rfl rfl ?_ | refine ot rfl (by omega) ?_ | refine O_nil ?_) | refine wo rfl ?_ | refine wc rfl ?_ | refine wg rfl ?_ | refine go rfl ?_ | refine gc rfl ?_ | refine gg rfl ?_)
  · have hil : i < l.length := by omega
    obtain ⟨b, own, sp, cap, e, _, hm⟩ := hs.at (by omega)
    cases e
    obtain ⟨p, n, hget⟩ : ∃ p n, l.getD i Rg.zero = ⟨p, n⟩ := ⟨_, _, rfl⟩
    have htake := rangesV_take l i hil hget
    have hlen : (rangesV (l.take i)).length = i * 2 := by rw [rangesV_length, List.length_take]; omega
    repeat' (first | (refine isO ?_; first | refine oo (Pc rfl) ?_ | refine oo (Pa rfl (by omega) (by omega)) ?_ | (refine ob rfl ?_ ?_ <;> intro hq <;> try (exfalso; omega)) | refine oo (Pi rfl (by omega)) ?_ | refine oo (Pl rfl) ?_ | refine oo (Px rfl rfl) ?_ | refine oo (Pj rfl (by omega) (by omega)) ?_ | refine oo (Pk rfl (by omega) (by omega)) ?_ | refine oo (Pf rfl) ?_ | refine oo (Pv rfl (by omega) (by omega)) ?_ | refine oo (Pn rfl) ?_ | refine oo (Pm rfl) ?_ | refine os rfl rfl ?_ | refine ot rfl (by omega) ?_ | refine O_nil ?_) | refine wo rfl ?_ | refine wc rfl ?_ | refine wg rfl ?_ | refine go rfl ?_ | refine gc rfl ?_ | refine gg rfl ?_)
    refine O_pure (P_loadAggAt (o := 0) (i := i * 2) (cs := [.int .u32 p, .int .u32 n]) Tb.a69 Tb.c69 (by decide) rfl (by omega) (List.mem_append_right _ hm) (by rw [List.length_append, rangesV_length]; omega) (rangesV_block l sp i hil hget)) trivial rfl ?_
    refine O_alloc zero69 trivial rfl fun bx => ?_
    refine O_storeAgg0 Tb.c69 (by decide) rfl rfl rfl (lit2_one _ _) trivial .head rfl ?_
    repeat' (first | (refine isO ?_; first | refine oo (Pc rfl) ?_ | refine oo (Pa rfl (by omega) (by omega)) ?_ | (refine ob rfl ?_ ?_ <;> intro hq <;> try (exfalso; omega)) | refine oo (Pi rfl (by omega)) ?_ | refine oo (Pl rfl) ?_ | refine oo (Px rfl rfl) ?_ | refine oo (Pj rfl (by omega) (by omega)) ?_ | refine oo (Pk rfl (by omega) (by omega)) ?_ | refine oo (Pf rfl) ?_ | refine oo (Pv rfl (by omega) (by omega)) ?_ | refine oo (Pn rfl) ?_ | refine oo (Pm rfl) ?_ | refine os rfl rfl ?_ | refine ot rfl (by omega) ?_ | refine O_nil ?_) | refine wo rfl ?_ | refine wc rfl ?_ | refine wg rfl ?_ | refine go rfl ?_ | refine gc rfl ?_ | refine gg rfl ?_)
    refine O_pure (P_build rfl (build141 _ _)) trivial rfl ?_
    refine O_buildSlice rfl (row106_1 _ _) trivial rfl fun by1 => ?_
    refine O_append (m := m) (M0 := ⟨true, by1, 0, [.int .u32 p, .int .u32 n]⟩ :: M) Tb.u106 Tb.u106 hI hI1 (by decide) (by omega) hI3 rfl rfl rfl hown (Rk.trans (Rk.cons .head (.drop .rfl)) (.perm List.perm_middle.symm)) hlen (.head _) (Nat.le_refl 2) (lit2_one _ _) (.inl (by omega)) (by rw [hI2]; omega) trivial rfl fun b2 c2 s2 h2 => ?_
    rw [htake] at h2 ⊢
    repeat' (first | (refine isO ?_; first | refine oo (Pc rfl) ?_ | refine oo (Pa rfl (by omega) (by omega)) ?_ | (refine ob rfl ?_ ?_ <;> intro hq <;> try (exfalso; omega)) | refine oo (Pi rfl (by omega)) ?_ | refine oo (Pl rfl) ?_ | refine oo (Px rfl rfl) ?_ | refine oo (Pj rfl (by omega) (by omega)) ?_ | refine oo (Pk rfl (by omega) (by omega)) ?_ | refine oo (Pf rfl) ?_ | refine oo (Pv rfl (by omega) (by omega)) ?_ | refine oo (Pn rfl) ?_ | refine oo (Pm rfl) ?_ | refine os rfl rfl ?_ | refine ot rfl (by omega) ?_ | refine O_nil ?_) | refine wo rfl ?_ | refine wc rfl ?_ | refine wg rfl ?_ | refine go rfl ?_ | refine gc rfl ?_ | refine gg rfl ?_)
    exact G_stop ⟨(i + 1, .slice (some ⟨b2, 0, none⟩) (i + 1) c2, [⟨true, b2, 0, rangesV (l.take (i + 1)) ++ s2⟩]), ⟨by omega, .inr ⟨b2, i + 1, c2, s2, rfl, rfl, by rw [rangesV_length, List.length_take]; omega, h2⟩⟩, by dsimp only; omega, ⟨rfl, rfl, rfl, rfl, trivial⟩, .cons .head (.drop .rfl)⟩
  · obtain rfl : i = l.length := by omega
    rw [List.take_length] at hown
    exact G_fin ⟨_, rfl, m, hown, .rfl⟩
end Go.Proofs.Ytjkpfliaflmppaa.Pc

namespace Go.Proofs.Ytjkpfliaflmppaa.Pc
open Go Go.RowKit Go.Proofs.Ytjkpfliaflmppaa.Vm

theorem rget0 {l : List Rg} {i p n : Nat} (sp : List Value) (h : i < l.length) (he : l.getD i Rg.zero = ⟨p, n⟩) : (rangesV l ++ sp)[i * 2 + 0]? = some (.int .u32 p) := by
  rw [rangesV_get l sp i 0 h (by omega), he]; rfl
theorem rget1 {l : List Rg} {i p n : Nat} (sp : List Value) (h : i < l.length) (he : l.getD i Rg.zero = ⟨p, n⟩) : (rangesV l ++ sp)[i * 2 + 1]? = some (.int .u32 n) := by
  rw [rangesV_get l sp i 1 h (by omega), he]; rfl

theorem valid97_c (a : Nat) (s : Value) (ls : List Nat) (M : Mem) (ha : a ≤ 1048576) (hs : Rs s (mkR a ls) M) (hok : OkN ls) (h0 : 0 < ls.length) :
    HC Try.prog 97 #[s] M (fun v M' => v = .bool true ∧ Rk M' M) := by
  obtain ⟨b, own, sp, cap, rfl, hc, hm⟩ := hs.at (by rw [mkR_length]; exact h0)
  have h30 := hok.1
  rw [List.length_append, rangesV_length, mkR_length] at hc
  rw [mkR_length]
  refine HC_of_W (fn := Try.f97) Try.func97 rfl rfl rfl rfl ?_
  repeat' (first | (refine isO ?_; first | refine oo (Pc rfl) ?_ | refine oo (Pa rfl (by omega) (by omega)) ?_ | (refine ob rfl ?_ ?_ <;> intro hq <;> try (exfalso; omega)) | refine oo (Pi rfl (by omega)) ?_ | refine oo (Pl rfl) ?_ | refine oo (Px rfl rfl) ?_ | refine oo (Pj rfl (by omega) (by omega)) ?_ | refine oo (Pk rfl (by omega) (by omega)) ?_ | refine oo (Pf rfl) ?_ | refine oo (Pv rfl (by omega) (by omega)) ?_ | refine oo (Pn rfl) ?_ | refine oo (Pm rfl) ?_ | refine os rfl rfl ?_ | refine ot rfl (by omega) ?_ | refine O_nil ?_) | refine wo rfl ?_ | refine wc rfl ?_ | refine wg rfl ?_ | refine go rfl ?_ | refine gc rfl ?_ | refine gg rfl ?_)
  refine O_pure (P_loadAggAt (o := 0) (i := 0 * 2) (cs := [.int .u32 (rAt a ls 0 : Nat), .int .u32 (ls.getD 0 0 : Nat)]) Tb.a141 Tb.c141 (by decide) rfl rfl hm (by rw [List.length_append, rangesV_length, mkR_length]; omega) (rangesV_block _ sp 0 (by rw [mkR_length]; exact h0) (mkR_get a ls 0 h0))) trivial rfl ?_
  refine O_alloc zero141 trivial rfl fun b3 => ?_
  refine O_storeAgg0 Tb.c141 (by decide) rfl rfl rfl (lit2_one _ _) trivial .head rfl ?_
  repeat' (first | (refine isO ?_; first | refine oo (Pc rfl) ?_ | refine oo (Pa rfl (by omega) (by omega)) ?_ | (refine ob rfl ?_ ?_ <;> intro hq <;> try (exfalso; omega)) | refine oo (Pi rfl (by omega)) ?_ | refine oo (Pl rfl) ?_ | refine oo (Px rfl rfl) ?_ | refine oo (Pj rfl (by omega) (by omega)) ?_ | refine oo (Pk rfl (by omega) (by omega)) ?_ | refine oo (Pf rfl) ?_ | refine oo (Pv rfl (by omega) (by omega)) ?_ | refine oo (Pn rfl) ?_ | refine oo (Pm rfl) ?_ | refine os rfl rfl ?_ | refine ot rfl (by omega) ?_ | refine O_nil ?_) | refine wo rfl ?_ | refine wc rfl ?_ | refine wg rfl ?_ | refine go rfl ?_ | refine gc rfl ?_ | refine gg rfl ?_)
  refine O_pure (P_tail Tb.u106 Tb.c141 (by decide) rfl (by omega) (by omega)) trivial rfl ?_
  repeat' (first | (refine isO ?_; first | refine oo (Pc rfl) ?_ | refine oo (Pa rfl (by omega) (by omega)) ?_ | (refine ob rfl ?_ ?_ <;> intro hq <;> try (exfalso; omega)) | refine oo (Pi rfl (by omega)) ?_ | refine oo (Pl rfl) ?_ | refine oo (Px rfl rfl) ?_ | refine oo (Pj rfl (by omega) (by omega)) ?_ | refine oo (Pk rfl (by omega) (by omega)) ?_ | refine oo (Pf rfl) ?_ | refine oo (Pv rfl (by omega) (by omega)) ?_ | refine oo (Pn rfl) ?_ | refine oo (Pm rfl) ?_ | refine os rfl rfl ?_ | refine ot rfl (by omega) ?_ | refine O_nil ?_) | refine wo rfl ?_ | refine wc rfl ?_ | refine wg rfl ?_ | refine go rfl ?_ | refine gc rfl ?_ | refine gg rfl ?_)
  refine W_loop (α := Nat) (fun j => [(3, .pointer (some ⟨b3, 0, none⟩)), (17, .slice (some ⟨b, if cap = 1 then 0 else 2, none⟩) (ls.length - 1) (cap - 1)), (18, .int .i64 (ls.length - 1 : Nat)), (19, .int .i64 j)])
    (fun j => ⟨true, b3, 0, [.int .u32 (rAt a ls j : Nat), .int .u32 (ls.getD j 0 : Nat)]⟩ :: M) (fun j => j ≤ ls.length - 1) (fun j => ls.length - j) 0 (by omega) ⟨rfl, rfl, rfl, rfl, trivial⟩ .rfl ?_
  intro j hj
  try dsimp only
  repeat' (first | (refine isO ?_; first | refine oo (Pc rfl) ?_ | refine oo (Pa rfl (by omega) (by omega)) ?_ | (refine ob rfl ?_ ?_ <;> intro hq <;> try (exfalso; omega)) | refine oo (Pi rfl (by omega)) ?_ | refine oo (Pl rfl) ?_ | refine oo (Px rfl rfl) ?_ | refine oo (Pj rfl (by omega) (by omega)) ?_ | refine oo (Pk rfl (by omega) (by omega)) ?_ | refine oo (Pf rfl) ?_ | refine oo (Pv rfl (by omega) (by omega)) ?_ | refine oo (Pn rfl) ?_ | refine oo (Pm rfl) ?_ | refine os rfl rfl ?_ | refine ot rfl (by omega) ?_ | refine O_nil ?_) | refine wo rfl ?_ | refine wc rfl ?_ | refine wg rfl ?_ | refine go rfl ?_ | refine gc rfl ?_ | refine gg rfl ?_)
  · have hjl : j + 1 < ls.length := by omega
    have hz := hok.2 j (by omega)
    have hz' := hok.2 (j + 1) hjl
    have hr := rAt_le (a := a) hok j (by omega)
    have hr1 : rAt a ls (j + 1) = rAt a ls j + 2 ^ ls.getD j 0 := rfl
    have hr2 : rAt a ls (j + 1 + 1) = rAt a ls (j + 1) + 2 ^ ls.getD (j + 1) 0 := rfl
    have hget := mkR_get a ls (j + 1) hjl
    have hp := pow20 hz
    have hp' := pow20 hz'
    refine O_pure (P_loadAggAt (o := 0) (i := (j + 1) * 2) (cs := [.int .u32 (rAt a ls (j + 1) : Nat), .int .u32 (ls.getD (j + 1) 0 : Nat)]) Tb.a141 Tb.c141 (by decide) rfl (by rw [if_neg (by omega)]; omega) (.tail _ hm) (by rw [List.length_append, rangesV_length, mkR_length]; omega)
      (rangesV_block _ sp (j + 1) (by rw [mkR_length]; exact hjl) hget)) trivial rfl ?_
    generalize ls.getD j 0 = z at *
    generalize hz2 : ls.getD (j + 1) 0 = z' at *
    refine O_alloc zero141 trivial rfl fun bx => ?_
    refine O_storeAgg0 Tb.c141 (by decide) rfl rfl rfl (lit2_one _ _) trivial .head rfl ?_
    repeat' (first | (refine isO ?_; first | refine oo (Pc rfl) ?_ | refine oo (Pa rfl (by omega) (by omega)) ?_ | (refine ob rfl ?_ ?_ <;> intro hq <;> try (exfalso; omega)) | refine oo (Pi rfl (by omega)) ?_ | refine oo (Pl rfl) ?_ | refine oo (Px rfl rfl) ?_ | refine oo (Pj rfl (by omega) (by omega)) ?_ | refine oo (Pk rfl (by omega) (by omega)) ?_ | refine oo (Pf rfl) ?_ | refine oo (Pv rfl (by omega) (by omega)) ?_ | refine oo (Pn rfl) ?_ | refine oo (Pm rfl) ?_ | refine os rfl rfl ?_ | refine ot rfl (by omega) ?_ | refine O_nil ?_) | refine wo rfl ?_ | refine wc rfl ?_ | refine wg rfl ?_ | refine go rfl ?_ | refine gc rfl ?_ | refine gg rfl ?_)
    refine W_region_quiet Tb.mixed [[], [0], [], [2], [1], [3]] (by kernel_rfl) (by kernel_rfl) ?_
    repeat' (first | (refine isQS ?_; first | refine qq (Pc rfl) ?_ | refine qq (Pa rfl (by omega) (by omega)) ?_ | (refine qb rfl ?_ ?_ <;> intro hq <;> try (exfalso; omega)) | refine qq (Pi rfl (by omega)) ?_ | refine qq (Pl rfl) ?_ | refine qq (Px rfl rfl) ?_ | refine qq (Pj rfl (by omega) (by omega)) ?_ | refine qq (Pk rfl (by omega) (by omega)) ?_ | refine qq (Pf rfl) ?_ | refine qq (Pv rfl (by omega) (by omega)) ?_ | refine qq (Pn rfl) ?_ | refine qq (Pm rfl) ?_ | (refine QS_nil ⟨rfl, ?_⟩; simp only [List.nil_append, List.cons_append, somes])))
    refine QS_pure (P_loadAggAt (o := 0) (i := 0) (cs := [.int .u32 (rAt a ls j : Nat), .int .u32 (z : Nat)]) Tb.a141 Tb.c141 (by decide) rfl rfl (.tail _ (.head _)) (Nat.le_refl _) rfl) trivial rfl ?_
    refine QS_call rfl rfl Tb.k98 trivial rfl (end98_c (rAt a ls j) z _ (by omega)) ?_
    repeat' (first | (refine isQS ?_; first | refine qq (Pc rfl) ?_ | refine qq (Pa rfl (by omega) (by omega)) ?_ | (refine qb rfl ?_ ?_ <;> intro hq <;> try (exfalso; omega)) | refine qq (Pi rfl (by omega)) ?_ | refine qq (Pl rfl) ?_ | refine qq (Px rfl rfl) ?_ | refine qq (Pj rfl (by omega) (by omega)) ?_ | refine qq (Pk rfl (by omega) (by omega)) ?_ | refine qq (Pf rfl) ?_ | refine qq (Pv rfl (by omega) (by omega)) ?_ | refine qq (Pn rfl) ?_ | refine qq (Pm rfl) ?_ | (refine QS_nil ⟨rfl, ?_⟩; simp only [List.nil_append, List.cons_append, somes])))
    repeat' (first | (refine isO ?_; first | refine oo (Pc rfl) ?_ | refine oo (Pa rfl (by omega) (by omega)) ?_ | (refine ob rfl ?_ ?_ <;> intro hq <;> try (exfalso; omega)) | refine oo (Pi rfl (by omega)) ?_ | refine oo (Pl rfl) ?_ | refine oo (Px rfl rfl) ?_ | refine oo (Pj rfl (by omega) (by omega)) ?_ | refine oo (Pk rfl (by omega) (by omega)) ?_ | refine oo (Pf rfl) ?_ | refine oo (Pv rfl (by omega) (by omega)) ?_ | refine oo (Pn rfl) ?_ | refine oo (Pm rfl) ?_ | refine os rfl rfl ?_ | refine ot rfl (by omega) ?_ | refine O_nil ?_) | refine wo rfl ?_ | refine wc rfl ?_ | refine wg rfl ?_ | refine go rfl ?_ | refine gc rfl ?_ | refine gg rfl ?_)
    refine W_region_quiet Tb.mixed [[], [0], [], [2], [1], [3]] (by kernel_rfl) (by kernel_rfl) ?_
    repeat' (first | (refine isQS ?_; first | refine qq (Pc rfl) ?_ | refine qq (Pa rfl (by omega) (by omega)) ?_ | (refine qb rfl ?_ ?_ <;> intro hq <;> try (exfalso; omega)) | refine qq (Pi rfl (by omega)) ?_ | refine qq (Pl rfl) ?_ | refine qq (Px rfl rfl) ?_ | refine qq (Pj rfl (by omega) (by omega)) ?_ | refine qq (Pk rfl (by omega) (by omega)) ?_ | refine qq (Pf rfl) ?_ | refine qq (Pv rfl (by omega) (by omega)) ?_ | refine qq (Pn rfl) ?_ | refine qq (Pm rfl) ?_ | (refine QS_nil ⟨rfl, ?_⟩; simp only [List.nil_append, List.cons_append, somes])))
    refine QS_pure (P_loadAggAt (o := 0) (i := 0) (cs := [.int .u32 (rAt a ls (j + 1) : Nat), .int .u32 (z' : Nat)]) Tb.a141 Tb.c141 (by decide) rfl rfl (.head _) (Nat.le_refl _) rfl) trivial rfl ?_
    refine QS_call rfl rfl Tb.k98 trivial rfl (end98_c (rAt a ls (j + 1)) z' _ (by omega)) ?_
    repeat' (first | (refine isQS ?_; first | refine qq (Pc rfl) ?_ | refine qq (Pa rfl (by omega) (by omega)) ?_ | (refine qb rfl ?_ ?_ <;> intro hq <;> try (exfalso; omega)) | refine qq (Pi rfl (by omega)) ?_ | refine qq (Pl rfl) ?_ | refine qq (Px rfl rfl) ?_ | refine qq (Pj rfl (by omega) (by omega)) ?_ | refine qq (Pk rfl (by omega) (by omega)) ?_ | refine qq (Pf rfl) ?_ | refine qq (Pv rfl (by omega) (by omega)) ?_ | refine qq (Pn rfl) ?_ | refine qq (Pm rfl) ?_ | (refine QS_nil ⟨rfl, ?_⟩; simp only [List.nil_append, List.cons_append, somes])))
    repeat' (first | (refine isO ?_; first | refine oo (Pc rfl) ?_ | refine oo (Pa rfl (by omega) (by omega)) ?_ | (refine ob rfl ?_ ?_ <;> intro hq <;> try (exfalso; omega)) | refine oo (Pi rfl (by omega)) ?_ | refine oo (Pl rfl) ?_ | refine oo (Px rfl rfl) ?_ | refine oo (Pj rfl (by omega) (by omega)) ?_ | refine oo (Pk rfl (by omega) (by omega)) ?_ | refine oo (Pf rfl) ?_ | refine oo (Pv rfl (by omega) (by omega)) ?_ | refine oo (Pn rfl) ?_ | refine oo (Pm rfl) ?_ | refine os rfl rfl ?_ | refine ot rfl (by omega) ?_ | refine O_nil ?_) | refine wo rfl ?_ | refine wc rfl ?_ | refine wg rfl ?_ | refine go rfl ?_ | refine gc rfl ?_ | refine gg rfl ?_)
    refine O_pure (P_loadAggAt (o := 0) (i := 0) (cs := [.int .u32 (rAt a ls (j + 1) : Nat), .int .u32 (z' : Nat)]) Tb.a141 Tb.c141 (by decide) rfl rfl (.head _) (Nat.le_refl _) rfl) trivial rfl ?_
    refine O_storeAgg0 Tb.c141 (by decide) rfl rfl rfl (lit2_one _ _) trivial (.tail .head) rfl ?_
    repeat' (first | (refine isO ?_; first | refine oo (Pc rfl) ?_ | refine oo (Pa rfl (by omega) (by omega)) ?_ | (refine ob rfl ?_ ?_ <;> intro hq <;> try (exfalso; omega)) | refine oo (Pi rfl (by omega)) ?_ | refine oo (Pl rfl) ?_ | refine oo (Px rfl rfl) ?_ | refine oo (Pj rfl (by omega) (by omega)) ?_ | refine oo (Pk rfl (by omega) (by omega)) ?_ | refine oo (Pf rfl) ?_ | refine oo (Pv rfl (by omega) (by omega)) ?_ | refine oo (Pn rfl) ?_ | refine oo (Pm rfl) ?_ | refine os rfl rfl ?_ | refine ot rfl (by omega) ?_ | refine O_nil ?_) | refine wo rfl ?_ | refine wc rfl ?_ | refine wg rfl ?_ | refine go rfl ?_ | refine gc rfl ?_ | refine gg rfl ?_)
    exact G_stop ⟨j + 1, by omega, by omega, ⟨rfl, rfl, rfl, rfl, trivial⟩, by rw [hz2]; exact .cons .head (.drop .rfl)⟩
  · exact G_fin ⟨_, rfl, rfl, .drop .rfl⟩

theorem of36_c (a v : Nat) (s : Value) (ls : List Nat) (M : Mem) (ha : a ≤ 1048576) (hs : Rs s (mkR a ls) M) (hok : OkN ls) :
    HC Try.prog 36 #[s, .int .u64 v] M (fun r M' => ((∃ i, i < ls.length ∧ rAt a ls i ≤ v ∧ v < rAt a ls (i + 1) ∧ r = .tuple #[.int .u64 i, .bool true]) ∨
      ((∀ i, i < ls.length → v < rAt a ls i ∨ rAt a ls (i + 1) ≤ v) ∧ r = .tuple #[.int .u64 0, .bool false])) ∧ Rk M' M) := by
  obtain ⟨ad, cp, e⟩ : ∃ a c, s = .slice a ls.length c := ⟨_, _, by rw [← mkR_length a ls]; exact hs.choose_spec.choose_spec.1⟩
  subst e
  have h30 := hok.1
  refine HC_of_W (fn := Try.f36) Try.func36 rfl rfl rfl rfl ?_
  repeat' (first | (refine isO ?_; first | refine oo (Pc rfl) ?_ | refine oo (Pa rfl (by omega) (by omega)) ?_ | (refine ob rfl ?_ ?_ <;> intro hq <;> try (exfalso; omega)) | refine oo (Pi rfl (by omega)) ?_ | refine oo (Pl rfl) ?_ | refine oo (Px rfl rfl) ?_ | refine oo (Pj rfl (by omega) (by omega)) ?_ | refine oo (Pk rfl (by omega) (by omega)) ?_ | refine oo (Pf rfl) ?_ | refine oo (Pv rfl (by omega) (by omega)) ?_ | refine oo (Pn rfl) ?_ | refine oo (Pm rfl) ?_ | refine os rfl rfl ?_ | refine ot rfl (by omega) ?_ | refine O_nil ?_) | refine wo rfl ?_ | refine wc rfl ?_ | refine wg rfl ?_ | refine go rfl ?_ | refine gc rfl ?_ | refine gg rfl ?_)
  refine W_loop (α := Nat) (fun i => [(0, .slice ad ls.length cp), (1, .int .u64 v), (6, .int .i64 i)]) (fun _ => M) (fun i => i ≤ ls.length ∧ ∀ j, j < i → v < rAt a ls j ∨ rAt a ls (j + 1) ≤ v) (fun i => ls.length - i)
    0 ⟨by omega, by intro j hj; omega⟩ ⟨rfl, rfl, rfl, trivial⟩ .rfl ?_
  rintro i ⟨hi, hno⟩
  try dsimp only
  repeat' (first | (refine isO ?_; first | refine oo (Pc rfl) ?_ | refine oo (Pa rfl (by omega) (by omega)) ?_ | (refine ob rfl ?_ ?_ <;> intro hq <;> try (exfalso; omega)) | refine oo (Pi rfl (by omega)) ?_ | refine oo (Pl rfl) ?_ | refine oo (Px rfl rfl) ?_ | refine oo (Pj rfl (by omega) (by omega)) ?_ | refine oo (Pk rfl (by omega) (by omega)) ?_ | refine oo (Pf rfl) ?_ | refine oo (Pv rfl (by omega) (by omega)) ?_ | refine oo (Pn rfl) ?_ | refine oo (Pm rfl) ?_ | refine os rfl rfl ?_ | refine ot rfl (by omega) ?_ | refine O_nil ?_) | refine wo rfl ?_ | refine wc rfl ?_ | refine wg rfl ?_ | refine go rfl ?_ | refine gc rfl ?_ | refine gg rfl ?_)
  · have hil : i < ls.length := by omega
    obtain ⟨b, own, sp, cap, e, _, hm⟩ := hs.at (by rw [mkR_length]; omega)
    rw [mkR_length] at e
    cases e
    have hz := hok.2 i hil
    have hr := rAt_le (a := a) hok i (by omega)
    have hr1 : rAt a ls (i + 1) = rAt a ls i + 2 ^ ls.getD i 0 := rfl
    have hget := mkR_get a ls i hil
    have hp := pow20 hz
    have hg0 := rget0 sp (by rw [mkR_length]; exact hil) hget
    have hg1 := rget1 sp (by rw [mkR_length]; exact hil) hget
    generalize ls.getD i 0 = z at *
    have hnext : (v < rAt a ls i ∨ rAt a ls (i + 1) ≤ v) → ∀ j, j < i + 1 → v < rAt a ls j ∨ rAt a ls (j + 1) ≤ v := by
      intro h j hj
      by_cases hji : j = i
      · subst hji; exact h
      · exact hno j (by omega)
    refine W_region_still Tb.mixed (by kernel_rfl) ?_
    repeat' (first | (refine isS ?_; first | refine ss (Pc rfl) ?_ | refine ss (Pa rfl (by omega) (by omega)) ?_ | (refine sb rfl ?_ ?_ <;> intro hq <;> try (exfalso; omega)) | refine ss (Pi rfl (by omega)) ?_ | refine ss (Pl rfl) ?_ | refine ss (Px rfl rfl) ?_ | refine ss (Pj rfl (by omega) (by omega)) ?_ | refine ss (Pk rfl (by omega) (by omega)) ?_ | refine ss (Pf rfl) ?_ | refine ss (Pv rfl (by omega) (by omega)) ?_ | refine ss (Pn rfl) ?_ | refine ss (Pm rfl) ?_ | refine OS_nil ?_))
    refine OS_pure (P_loadAt (o := 0) (n := i * 2 + 0) Tb.p40 rfl (by omega) hm hg0) trivial rfl ?_
    repeat' (first | (refine isS ?_; first | refine ss (Pc rfl) ?_ | refine ss (Pa rfl (by omega) (by omega)) ?_ | (refine sb rfl ?_ ?_ <;> intro hq <;> try (exfalso; omega)) | refine ss (Pi rfl (by omega)) ?_ | refine ss (Pl rfl) ?_ | refine ss (Px rfl rfl) ?_ | refine ss (Pj rfl (by omega) (by omega)) ?_ | refine ss (Pk rfl (by omega) (by omega)) ?_ | refine ss (Pf rfl) ?_ | refine ss (Pv rfl (by omega) (by omega)) ?_ | refine ss (Pn rfl) ?_ | refine ss (Pm rfl) ?_ | refine OS_nil ?_))
    · refine OS_pure (P_loadAt (o := 0) (n := i * 2 + 0) Tb.p40 rfl (by omega) hm hg0) ⟨_, rfl, rfl⟩ rfl ?_
      repeat' (first | (refine isS ?_; first | refine ss (Pc rfl) ?_ | refine ss (Pa rfl (by omega) (by omega)) ?_ | (refine sb rfl ?_ ?_ <;> intro hq <;> try (exfalso; omega)) | refine ss (Pi rfl (by omega)) ?_ | refine ss (Pl rfl) ?_ | refine ss (Px rfl rfl) ?_ | refine ss (Pj rfl (by omega) (by omega)) ?_ | refine ss (Pk rfl (by omega) (by omega)) ?_ | refine ss (Pf rfl) ?_ | refine ss (Pv rfl (by omega) (by omega)) ?_ | refine ss (Pn rfl) ?_ | refine ss (Pm rfl) ?_ | refine OS_nil ?_))
      refine OS_pure (P_loadAt (o := 0) (n := i * 2 + 1) Tb.p40 rfl (by omega) hm hg1) ⟨_, rfl, rfl⟩ rfl ?_
      refine OS_pure (P_shlE (p := 1) (q := z) (r := 2 ^ z) rfl rfl rfl (by rw [Nat.one_mul]; exact Nat.mod_eq_of_lt (by simp only [IntKind.bits]; omega))) ⟨_, rfl, rfl⟩ rfl ?_
      repeat' (first | (refine isS ?_; first | refine ss (Pc rfl) ?_ | refine ss (Pa rfl (by omega) (by omega)) ?_ | (refine sb rfl ?_ ?_ <;> intro hq <;> try (exfalso; omega)) | refine ss (Pi rfl (by omega)) ?_ | refine ss (Pl rfl) ?_ | refine ss (Px rfl rfl) ?_ | refine ss (Pj rfl (by omega) (by omega)) ?_ | refine ss (Pk rfl (by omega) (by omega)) ?_ | refine ss (Pf rfl) ?_ | refine ss (Pv rfl (by omega) (by omega)) ?_ | refine ss (Pn rfl) ?_ | refine ss (Pm rfl) ?_ | refine OS_nil ?_))
      · repeat' (first | (refine isO ?_; first | refine oo (Pc rfl) ?_ | refine oo (Pa rfl (by omega) (by omega)) ?_ | (refine ob rfl ?_ ?_ <;> intro hq <;> try (exfalso; omega)) | refine oo (Pi rfl (by omega)) ?_ | refine oo (Pl rfl) ?_ | refine oo (Px rfl rfl) ?_ | refine oo (Pj rfl (by omega) (by omega)) ?_ | refine oo (Pk rfl (by omega) (by omega)) ?_ | refine oo (Pf rfl) ?_ | refine oo (Pv rfl (by omega) (by omega)) ?_ | refine oo (Pn rfl) ?_ | refine oo (Pm rfl) ?_ | refine os rfl rfl ?_ | refine ot rfl (by omega) ?_ | refine O_nil ?_) | refine wo rfl ?_ | refine wc rfl ?_ | refine wg rfl ?_ | refine go rfl ?_ | refine gc rfl ?_ | refine gg rfl ?_)
        exact G_fin ⟨_, rfl, .inl ⟨i, hil, by omega, by omega, rfl⟩, .rfl⟩
      · repeat' (first | (refine isO ?_; first | refine oo (Pc rfl) ?_ | refine oo (Pa rfl (by omega) (by omega)) ?_ | (refine ob rfl ?_ ?_ <;> intro hq <;> try (exfalso; omega)) | refine oo (Pi rfl (by omega)) ?_ | refine oo (Pl rfl) ?_ | refine oo (Px rfl rfl) ?_ | refine oo (Pj rfl (by omega) (by omega)) ?_ | refine oo (Pk rfl (by omega) (by omega)) ?_ | refine oo (Pf rfl) ?_ | refine oo (Pv rfl (by omega) (by omega)) ?_ | refine oo (Pn rfl) ?_ | refine oo (Pm rfl) ?_ | refine os rfl rfl ?_ | refine ot rfl (by omega) ?_ | refine O_nil ?_) | refine wo rfl ?_ | refine wc rfl ?_ | refine wg rfl ?_ | refine go rfl ?_ | refine gc rfl ?_ | refine gg rfl ?_)
        exact G_stop ⟨i + 1, ⟨by omega, hnext (by omega)⟩, by omega, ⟨rfl, rfl, rfl, trivial⟩, .rfl⟩
    · repeat' (first | (refine isO ?_; first | refine oo (Pc rfl) ?_ | refine oo (Pa rfl (by omega) (by omega)) ?_ | (refine ob rfl ?_ ?_ <;> intro hq <;> try (exfalso; omega)) | refine oo (Pi rfl (by omega)) ?_ | refine oo (Pl rfl) ?_ | refine oo (Px rfl rfl) ?_ | refine oo (Pj rfl (by omega) (by omega)) ?_ | refine oo (Pk rfl (by omega) (by omega)) ?_ | refine oo (Pf rfl) ?_ | refine oo (Pv rfl (by omega) (by omega)) ?_ | refine oo (Pn rfl) ?_ | refine oo (Pm rfl) ?_ | refine os rfl rfl ?_ | refine ot rfl (by omega) ?_ | refine O_nil ?_) | refine wo rfl ?_ | refine wc rfl ?_ | refine wg rfl ?_ | refine go rfl ?_ | refine gc rfl ?_ | refine gg rfl ?_)
      exact G_stop ⟨i + 1, ⟨by omega, hnext (by omega)⟩, by omega, ⟨rfl, rfl, rfl, trivial⟩, .rfl⟩
  · exact G_fin ⟨_, rfl, .inr ⟨fun j hj => hno j (by omega), rfl⟩, .rfl⟩
end Go.Proofs.Ytjkpfliaflmppaa.Pc
