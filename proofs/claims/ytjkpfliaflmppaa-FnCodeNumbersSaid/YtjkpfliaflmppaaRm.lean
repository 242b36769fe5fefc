/- spec.MakeRanges, MakeRangeCodes, rangeCodes, Base, End, walked. -/
import Derived.Test.YtjkpfliaflmppaaRg
import Derived.Test.YtjkpfliaflmppaaTi
namespace Go.Proofs.Ytjkpfliaflmppaa.Pc
open Go Go.RowKit Go.Proofs.Ytjkpfliaflmppaa.Vm

theorem mk34_c (a : Nat) (s : Value) (ls : List Nat) (M : Mem) (ha : a ≤ 1048576) (hu : Us s ls M) (hok : OkN ls) :
    HC Try.prog 34 #[.int .u64 a, s] M (fun v M' => ∃ sv m, Own sv 2 (rangesV (mkR a ls)) m ∧ v = .tuple #[sv, .int .u32 (rAt a ls ls.length)] ∧ Rk M' (m ++ M)) := by
  obtain ⟨I, hI, hI1, hI2, hI3⟩ := of_info info69
  obtain ⟨ad, cp, e⟩ : ∃ a c, s = .slice a ls.length c := ⟨_, _, hu.choose_spec.choose_spec.1⟩
  subst e
  have h30 := hok.1
  refine HC_of_W (fn := Try.f34) Try.func34 rfl rfl rfl rfl ?_
  repeat' (first | (refine isO ?_; first | refine oo (Pc rfl) ?_ | refine oo (Pa rfl (by omega) (by omega)) ?_ | (refine ob rfl ?_ ?_ <;> intro hq <;> try (exfalso; omega)) | refine oo (Pi rfl (by omega)) ?_ | refine oo (Pl rfl) ?_ | refine oo (Px rfl rfl) ?_ | refine oo (Pj rfl (by omega) (by omega)) ?_ | refine oo (Pk rfl (by omega) (by omega)) ?_ | refine oo (Pf rfl) ?_ | refine oo (Pv rfl (by omega) (by omega)) ?_ | refine oo (Pn rfl) ?_ | refine oo (Pm rfl) ?_ | refine os rfl rfl ?_ | refine ot rfl (by omega) ?_ | refine O_nil ?_) | refine wo rfl ?_ | refine wc rfl ?_ | refine wg rfl ?_ | refine go rfl ?_ | refine gc rfl ?_ | refine gg rfl ?_)
  refine W_loop (α := Nat × Value × Mem) (fun x => [(1, .slice ad ls.length cp), (6, x.2.1), (7, .int .u32 (rAt a ls x.1 : Nat)), (8, .int .i64 x.1)])
    (fun x => x.2.2 ++ M) (fun x => x.1 ≤ ls.length ∧ Own x.2.1 2 (rangesV ((mkR a ls).take x.1)) x.2.2) (fun x => ls.length - x.1)
    (0, .slice none 0 0, []) ⟨by omega, .inl ⟨rfl, by simp [rangesV], rfl⟩⟩ ⟨rfl, rfl, rfl, rfl, trivial⟩ .rfl ?_
  rintro ⟨i, sv, m⟩ ⟨hi, hown⟩
  dsimp only at hi hown ⊢
  repeat' (first | (refine isO ?_; first | refine oo (Pc rfl) ?_ | refine oo (Pa rfl (by omega) (by omega)) ?_ | (refine ob rfl ?_ ?_ <;> intro hq <;> try (exfalso; omega)) | refine oo (Pi rfl (by omega)) ?_ | refine oo (Pl rfl) ?_ | refine oo (Px rfl rfl) ?_ | refine oo (Pj rfl (by omega) (by omega)) ?_ | refine oo (Pk rfl (by omega) (by omega)) ?_ | refine oo (Pf rfl) ?_ | refine oo (Pv rfl (by omega) (by omega)) ?_ | refine oo (Pn rfl) ?_ | refine oo (Pm rfl) ?_ | refine os rfl rfl ?_ | refine ot rfl (by omega) ?_ | refine O_nil ?_) | refine wo rfl ?_ | refine wc rfl ?_ | refine wg rfl ?_ | refine go rfl ?_ | refine gc rfl ?_ | refine gg rfl ?_)
  · have hil : i < ls.length := by omega
    obtain ⟨b, own, sp, cap, e, hm, hg⟩ := hu.at hil
    cases e
    have hm' : (⟨own, b, 0, ints .u64 (ls.map Nat.cast) ++ sp⟩ : Sg) ∈ m ++ M := List.mem_append_right _ hm
    have hz := hok.2 i hil
    have hr := rAt_le (a := a) hok i (by omega)
    have hr1 : rAt a ls (i + 1) = rAt a ls i + 2 ^ ls.getD i 0 := rfl
    have hget := mkR_get a ls i hil
    have htake := rangesV_take (mkR a ls) i (by rw [mkR_length]; exact hil) hget
    have hlen : (rangesV ((mkR a ls).take i)).length = i * 2 := by rw [rangesV_length, List.length_take, mkR_length]; omega
    have hp := pow20 hz
    generalize ls.getD i 0 = z at *
    repeat' (first | (refine isO ?_; first | refine oo (Pc rfl) ?_ | refine oo (Pa rfl (by omega) (by omega)) ?_ | (refine ob rfl ?_ ?_ <;> intro hq <;> try (exfalso; omega)) | refine oo (Pi rfl (by omega)) ?_ | refine oo (Pl rfl) ?_ | refine oo (Px rfl rfl) ?_ | refine oo (Pj rfl (by omega) (by omega)) ?_ | refine oo (Pk rfl (by omega) (by omega)) ?_ | refine oo (Pf rfl) ?_ | refine oo (Pv rfl (by omega) (by omega)) ?_ | refine oo (Pn rfl) ?_ | refine oo (Pm rfl) ?_ | refine os rfl rfl ?_ | refine ot rfl (by omega) ?_ | refine O_nil ?_) | refine wo rfl ?_ | refine wc rfl ?_ | refine wg rfl ?_ | refine go rfl ?_ | refine gc rfl ?_ | refine gg rfl ?_)
    refine O_pure (P_loadAt (o := 0) (n := i) Tb.p49 rfl (by omega) hm' hg) trivial rfl ?_
    repeat' (first | (refine isO ?_; first | refine oo (Pc rfl) ?_ | refine oo (Pa rfl (by omega) (by omega)) ?_ | (refine ob rfl ?_ ?_ <;> intro hq <;> try (exfalso; omega)) | refine oo (Pi rfl (by omega)) ?_ | refine oo (Pl rfl) ?_ | refine oo (Px rfl rfl) ?_ | refine oo (Pj rfl (by omega) (by omega)) ?_ | refine oo (Pk rfl (by omega) (by omega)) ?_ | refine oo (Pf rfl) ?_ | refine oo (Pv rfl (by omega) (by omega)) ?_ | refine oo (Pn rfl) ?_ | refine oo (Pm rfl) ?_ | refine os rfl rfl ?_ | refine ot rfl (by omega) ?_ | refine O_nil ?_) | refine wo rfl ?_ | refine wc rfl ?_ | refine wg rfl ?_ | refine go rfl ?_ | refine gc rfl ?_ | refine gg rfl ?_)
    refine O_pure (P_build rfl (build69 _ _)) trivial rfl ?_
    refine O_buildSlice rfl (row34_1 _ _) trivial rfl fun by1 => ?_
    refine O_append (m := m) (M0 := ⟨true, by1, 0, _⟩ :: M) Tb.u34 Tb.u34 hI hI1 (by decide) (by omega) hI3 rfl rfl rfl hown (.perm List.perm_middle.symm) hlen (.head _) (Nat.le_refl 2) (lit2_one _ _) (.inl (by omega)) (by rw [hI2]; omega) trivial rfl fun b2 c2 s2 h2 => ?_
    rw [htake] at h2 ⊢
    repeat' (first | (refine isO ?_; first | refine oo (Pc rfl) ?_ | refine oo (Pa rfl (by omega) (by omega)) ?_ | (refine ob rfl ?_ ?_ <;> intro hq <;> try (exfalso; omega)) | refine oo (Pi rfl (by omega)) ?_ | refine oo (Pl rfl) ?_ | refine oo (Px rfl rfl) ?_ | refine oo (Pj rfl (by omega) (by omega)) ?_ | refine oo (Pk rfl (by omega) (by omega)) ?_ | refine oo (Pf rfl) ?_ | refine oo (Pv rfl (by omega) (by omega)) ?_ | refine oo (Pn rfl) ?_ | refine oo (Pm rfl) ?_ | refine os rfl rfl ?_ | refine ot rfl (by omega) ?_ | refine O_nil ?_) | refine wo rfl ?_ | refine wc rfl ?_ | refine wg rfl ?_ | refine go rfl ?_ | refine gc rfl ?_ | refine gg rfl ?_)
    refine O_pure (P_loadAt (o := 0) (n := i) Tb.p49 rfl (by omega) (.tail _ (.tail _ hm)) hg) trivial rfl ?_
    refine O_pure (P_shlE (p := 1) (q := z) (r := 2 ^ z) rfl rfl rfl (by rw [Nat.one_mul]; exact Nat.mod_eq_of_lt (by simp only [IntKind.bits]; omega))) trivial rfl ?_
    repeat' (first | (refine isO ?_; first | refine oo (Pc rfl) ?_ | refine oo (Pa rfl (by omega) (by omega)) ?_ | (refine ob rfl ?_ ?_ <;> intro hq <;> try (exfalso; omega)) | refine oo (Pi rfl (by omega)) ?_ | refine oo (Pl rfl) ?_ | refine oo (Px rfl rfl) ?_ | refine oo (Pj rfl (by omega) (by omega)) ?_ | refine oo (Pk rfl (by omega) (by omega)) ?_ | refine oo (Pf rfl) ?_ | refine oo (Pv rfl (by omega) (by omega)) ?_ | refine oo (Pn rfl) ?_ | refine oo (Pm rfl) ?_ | refine os rfl rfl ?_ | refine ot rfl (by omega) ?_ | refine O_nil ?_) | refine wo rfl ?_ | refine wc rfl ?_ | refine wg rfl ?_ | refine go rfl ?_ | refine gc rfl ?_ | refine gg rfl ?_)
    refine G_stop ⟨(i + 1, .slice (some ⟨b2, 0, none⟩) (i + 1) c2, [⟨true, b2, 0, rangesV ((mkR a ls).take (i + 1)) ++ s2⟩]), ⟨by omega, .inr ⟨b2, i + 1, c2, s2, rfl, rfl, by rw [rangesV_length, List.length_take, mkR_length]; omega, h2⟩⟩, by dsimp only; omega, ⟨rfl, rfl, ?_, rfl, trivial⟩, .cons .head (.drop .rfl)⟩
    rw [hr1]; rfl
  · obtain rfl : i = ls.length := by omega
    rw [← mkR_length a ls, List.take_length] at hown
    exact G_fin ⟨_, rfl, sv, m, hown, rfl, .rfl⟩

theorem mk81_c (a : Nat) (s : Value) (ls : List Nat) (M : Mem) (ha : a ≤ 1048576) (hu : Us s ls M) (hok : OkN ls) :
    HC Try.prog 81 #[.int .u64 a, s] M (fun v M' => ∃ m, Own v 2 (rangesV (mkR a ls)) m ∧ Rk M' (m ++ M)) := by
  obtain ⟨I, hI, hI1, hI2, hI3⟩ := of_info info141
  obtain ⟨ad, cp, e⟩ : ∃ a c, s = .slice a ls.length c := ⟨_, _, hu.choose_spec.choose_spec.1⟩
  subst e
  have h30 := hok.1
  refine HC_of_W (fn := Try.f81) Try.func81 rfl rfl rfl rfl ?_
  repeat' (first | (refine isO ?_; first | refine oo (Pc rfl) ?_ | refine oo (Pa rfl (by omega) (by omega)) ?_ | (refine ob rfl ?_ ?_ <;> intro hq <;> try (exfalso; omega)) | refine oo (Pi rfl (by omega)) ?_ | refine oo (Pl rfl) ?_ | refine oo (Px rfl rfl) ?_ | refine oo (Pj rfl (by omega) (by omega)) ?_ | refine oo (Pk rfl (by omega) (by omega)) ?_ | refine oo (Pf rfl) ?_ | refine oo (Pv rfl (by omega) (by omega)) ?_ | refine oo (Pn rfl) ?_ | refine oo (Pm rfl) ?_ | refine os rfl rfl ?_ | refine ot rfl (by omega) ?_ | refine O_nil ?_) | refine wo rfl ?_ | refine wc rfl ?_ | refine wg rfl ?_ | refine go rfl ?_ | refine gc rfl ?_ | refine gg rfl ?_)
  refine W_loop (α := Nat × Value × Mem) (fun x => [(0, .int .u64 (rAt a ls x.1 : Nat)), (4, x.2.1), (7, .slice ad ls.length cp), (8, .int .i64 ls.length), (9, .int .i64 x.1)])
    (fun x => x.2.2 ++ M) (fun x => x.1 ≤ ls.length ∧ Own x.2.1 2 (rangesV ((mkR a ls).take x.1)) x.2.2) (fun x => ls.length - x.1)
    (0, .slice none 0 0, []) ⟨by omega, .inl ⟨rfl, by simp [rangesV], rfl⟩⟩ ⟨rfl, rfl, rfl, rfl, rfl, trivial⟩ .rfl ?_
  rintro ⟨i, sv, m⟩ ⟨hi, hown⟩
  dsimp only at hi hown ⊢
  repeat' (first | (refine isO ?_; first | refine oo (Pc rfl) ?_ | refine oo (Pa rfl (by omega) (by omega)) ?_ | (refine ob rfl ?_ ?_ <;> intro hq <;> try (exfalso; omega)) | refine oo (Pi rfl (by omega)) ?_ | refine oo (Pl rfl) ?_ | refine oo (Px rfl rfl) ?_ | refine oo (Pj rfl (by omega) (by omega)) ?_ | refine oo (Pk rfl (by omega) (by omega)) ?_ | refine oo (Pf rfl) ?_ | refine oo (Pv rfl (by omega) (by omega)) ?_ | refine oo (Pn rfl) ?_ | refine oo (Pm rfl) ?_ | refine os rfl rfl ?_ | refine ot rfl (by omega) ?_ | refine O_nil ?_) | refine wo rfl ?_ | refine wc rfl ?_ | refine wg rfl ?_ | refine go rfl ?_ | refine gc rfl ?_ | refine gg rfl ?_)
  · have hil : i < ls.length := by omega
    obtain ⟨b, own, sp, cap, e, hm, hg⟩ := hu.at hil
    cases e
    have hm' : (⟨own, b, 0, ints .u64 (ls.map Nat.cast) ++ sp⟩ : Sg) ∈ m ++ M := List.mem_append_right _ hm
    have hz := hok.2 i hil
    have hr := rAt_le (a := a) hok i (by omega)
    have hr1 : rAt a ls (i + 1) = rAt a ls i + 2 ^ ls.getD i 0 := rfl
    have hget := mkR_get a ls i hil
    have htake := rangesV_take (mkR a ls) i (by rw [mkR_length]; exact hil) hget
    have hlen : (rangesV ((mkR a ls).take i)).length = i * 2 := by rw [rangesV_length, List.length_take, mkR_length]; omega
    have hp := pow20 hz
    generalize ls.getD i 0 = z at *
    repeat' (first | (refine isO ?_; first | refine oo (Pc rfl) ?_ | refine oo (Pa rfl (by omega) (by omega)) ?_ | (refine ob rfl ?_ ?_ <;> intro hq <;> try (exfalso; omega)) | refine oo (Pi rfl (by omega)) ?_ | refine oo (Pl rfl) ?_ | refine oo (Px rfl rfl) ?_ | refine oo (Pj rfl (by omega) (by omega)) ?_ | refine oo (Pk rfl (by omega) (by omega)) ?_ | refine oo (Pf rfl) ?_ | refine oo (Pv rfl (by omega) (by omega)) ?_ | refine oo (Pn rfl) ?_ | refine oo (Pm rfl) ?_ | refine os rfl rfl ?_ | refine ot rfl (by omega) ?_ | refine O_nil ?_) | refine wo rfl ?_ | refine wc rfl ?_ | refine wg rfl ?_ | refine go rfl ?_ | refine gc rfl ?_ | refine gg rfl ?_)
    refine O_pure (P_loadAt (o := 0) (n := i) Tb.p49 rfl (by omega) hm' hg) trivial rfl ?_
    repeat' (first | (refine isO ?_; first | refine oo (Pc rfl) ?_ | refine oo (Pa rfl (by omega) (by omega)) ?_ | (refine ob rfl ?_ ?_ <;> intro hq <;> try (exfalso; omega)) | refine oo (Pi rfl (by omega)) ?_ | refine oo (Pl rfl) ?_ | refine oo (Px rfl rfl) ?_ | refine oo (Pj rfl (by omega) (by omega)) ?_ | refine oo (Pk rfl (by omega) (by omega)) ?_ | refine oo (Pf rfl) ?_ | refine oo (Pv rfl (by omega) (by omega)) ?_ | refine oo (Pn rfl) ?_ | refine oo (Pm rfl) ?_ | refine os rfl rfl ?_ | refine ot rfl (by omega) ?_ | refine O_nil ?_) | refine wo rfl ?_ | refine wc rfl ?_ | refine wg rfl ?_ | refine go rfl ?_ | refine gc rfl ?_ | refine gg rfl ?_)
    refine O_pure (P_build rfl (build141 _ _)) trivial rfl ?_
    refine O_buildSlice rfl (row106_1 _ _) trivial rfl fun by1 => ?_
    refine O_append (m := m) (M0 := ⟨true, by1, 0, _⟩ :: M) Tb.u106 Tb.u106 hI hI1 (by decide) (by omega) hI3 rfl rfl rfl hown (.perm List.perm_middle.symm) hlen (.head _) (Nat.le_refl 2) (lit2_one _ _) (.inl (by omega)) (by rw [hI2]; omega) trivial rfl fun b2 c2 s2 h2 => ?_
    rw [htake] at h2 ⊢
    repeat' (first | (refine isO ?_; first | refine oo (Pc rfl) ?_ | refine oo (Pa rfl (by omega) (by omega)) ?_ | (refine ob rfl ?_ ?_ <;> intro hq <;> try (exfalso; omega)) | refine oo (Pi rfl (by omega)) ?_ | refine oo (Pl rfl) ?_ | refine oo (Px rfl rfl) ?_ | refine oo (Pj rfl (by omega) (by omega)) ?_ | refine oo (Pk rfl (by omega) (by omega)) ?_ | refine oo (Pf rfl) ?_ | refine oo (Pv rfl (by omega) (by omega)) ?_ | refine oo (Pn rfl) ?_ | refine oo (Pm rfl) ?_ | refine os rfl rfl ?_ | refine ot rfl (by omega) ?_ | refine O_nil ?_) | refine wo rfl ?_ | refine wc rfl ?_ | refine wg rfl ?_ | refine go rfl ?_ | refine gc rfl ?_ | refine gg rfl ?_)
    refine O_pure (P_shlE (p := 1) (q := z) (r := 2 ^ z) rfl rfl rfl (by rw [Nat.one_mul]; exact Nat.mod_eq_of_lt (by simp only [IntKind.bits]; omega))) trivial rfl ?_
    repeat' (first | (refine isO ?_; first | refine oo (Pc rfl) ?_ | refine oo (Pa rfl (by omega) (by omega)) ?_ | (refine ob rfl ?_ ?_ <;> intro hq <;> try (exfalso; omega)) | refine oo (Pi rfl (by omega)) ?_ | refine oo (Pl rfl) ?_ | refine oo (Px rfl rfl) ?_ | refine oo (Pj rfl (by omega) (by omega)) ?_ | refine oo (Pk rfl (by omega) (by omega)) ?_ | refine oo (Pf rfl) ?_ | refine oo (Pv rfl (by omega) (by omega)) ?_ | refine oo (Pn rfl) ?_ | refine oo (Pm rfl) ?_ | refine os rfl rfl ?_ | refine ot rfl (by omega) ?_ | refine O_nil ?_) | refine wo rfl ?_ | refine wc rfl ?_ | refine wg rfl ?_ | refine go rfl ?_ | refine gc rfl ?_ | refine gg rfl ?_)
    refine G_stop ⟨(i + 1, .slice (some ⟨b2, 0, none⟩) (i + 1) c2, [⟨true, b2, 0, rangesV ((mkR a ls).take (i + 1)) ++ s2⟩]), ⟨by omega, .inr ⟨b2, i + 1, c2, s2, rfl, rfl, by rw [rangesV_length, List.length_take, mkR_length]; omega, h2⟩⟩, by dsimp only; omega, ⟨?_, rfl, rfl, rfl, rfl, trivial⟩, .cons .head (.drop .rfl)⟩
    rw [hr1]; rfl
  · obtain rfl : i = ls.length := by omega
    rw [← mkR_length a ls, List.take_length] at hown
    exact G_fin ⟨_, rfl, m, hown, .rfl⟩
end Go.Proofs.Ytjkpfliaflmppaa.Pc
