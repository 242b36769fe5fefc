/- Base, End, checkValid, rangeCodes, spec.RangeOf, walked. -/
import Derived.Test.YtjkpfliaflmppaaRm
import Derived.Test.YtjkpfliaflmppaaVm9
import Derived.Test.YtjkpfliaflmppaaTi
namespace Go.Proofs.Ytjkpfliaflmppaa.Pc
open Go Go.RowKit Go.Proofs.Ytjkpfliaflmppaa.Vm

theorem P_tail {P : Program} {N : Fm} {E : Env} {M : Mem} {t e : TypeId} {x : Operand} {b len cap n : Nat} (ht : Und P t (.slice e)) (he : Cel P e n) (hn : 0 < n) (hx : ev E x = some (.slice (some ⟨b, 0, none⟩) len cap)) (h1 : 1 ≤ len) (h2 : len ≤ cap) :
    Pure P N E M (.slice t x (some (.const (.int .i64 1))) none none) (.slice (some ⟨b, if cap = 1 then 0 else n, none⟩) (len - 1) (cap - 1)) := by
  by_cases hc : cap = 1
  · rw [if_pos hc]
    have := P_slice_end (N := N) (M := M) (lo := some (.const (.int .i64 1))) (hi := none) (l := 1) (h := len) ht he hn hx ⟨_, rfl⟩ rfl (by omega) (by omega) (by omega) (by omega)
    rw [show len - 1 = 0 by omega, show cap - 1 = 0 by omega]
    exact this
  · rw [if_neg hc]
    have := P_slice (N := N) (M := M) (lo := some (.const (.int .i64 1))) (hi := none) (l := 1) (h := len) ht he hn hx ⟨_, rfl⟩ rfl (by omega) (by omega) (by omega) (by omega)
    simpa using this

theorem end98_c (p n : Nat) (M : Mem) (hp : p + 2 ^ n < 2 ^ 32) :
    HC Try.prog 98 #[.agg [.int .u32 p, .int .u32 n].toArray] M (fun v M' => v = .int .u32 (p + 2 ^ n : Nat) ∧ Rk M' M) := by
  refine HC_of_W (fn := Try.f98) Try.func98 rfl rfl rfl rfl ?_
  repeat' (first | (refine isO ?_; first | refine oo (Pc rfl) ?_ | refine oo (Pa rfl (by omega) (by omega)) ?_ | (refine ob rfl ?_ ?_ <;> intro hq <;> try (exfalso; omega)) | refine oo (Pi rfl (by omega)) ?_ | refine oo (Pl rfl) ?_ | refine oo (Px rfl rfl) ?_ | refine oo (Pj rfl (by omega) (by omega)) ?_ | refine oo (Pk rfl (by omega) (by omega)) ?_ | refine oo (Pf rfl) ?_ | refine oo (Pv rfl (by omega) (by omega)) ?_ | refine oo (Pn rfl) ?_ | refine oo (Pm rfl) ?_ | refine os rfl rfl ?_ | refine ot rfl (by omega) ?_ | refine O_nil ?_) | refine wo rfl ?_ | refine wc rfl ?_ | refine wg rfl ?_ | refine go rfl ?_ | refine gc rfl ?_ | refine gg rfl ?_)
  refine O_box rfl trivial rfl fun b => ?_
  refine O_weak (M' := ⟨true, b, 0, [.int .u32 p, .int .u32 n]⟩ :: M) .rfl ?_
  repeat' (first | (refine isO ?_; first | refine oo (Pc rfl) ?_ | refine oo (Pa rfl (by omega) (by omega)) ?_ | (refine ob rfl ?_ ?_ <;> intro hq <;> try (exfalso; omega)) | refine oo (Pi rfl (by omega)) ?_ | refine oo (Pl rfl) ?_ | refine oo (Px rfl rfl) ?_ | refine oo (Pj rfl (by omega) (by omega)) ?_ | refine oo (Pk rfl (by omega) (by omega)) ?_ | refine oo (Pf rfl) ?_ | refine oo (Pv rfl (by omega) (by omega)) ?_ | refine oo (Pn rfl) ?_ | refine oo (Pm rfl) ?_ | refine os rfl rfl ?_ | refine ot rfl (by omega) ?_ | refine O_nil ?_) | refine wo rfl ?_ | refine wc rfl ?_ | refine wg rfl ?_ | refine go rfl ?_ | refine gc rfl ?_ | refine gg rfl ?_)
  refine O_pure (P_shlE (p := 1) (q := n) (r := 2 ^ n) rfl rfl rfl (by rw [Nat.one_mul]; exact Nat.mod_eq_of_lt (by simp only [IntKind.bits]; omega))) trivial rfl ?_
  refine O_pure (P_addE (p := p) (q := 2 ^ n) (r := p + 2 ^ n) rfl rfl rfl (Nat.mod_eq_of_lt hp)) trivial rfl ?_
  repeat' (first | (refine isO ?_; first | refine oo (Pc rfl) ?_ | refine oo (Pa rfl (by omega) (by omega)) ?_ | (refine ob rfl ?_ ?_ <;> intro hq <;> try (exfalso; omega)) | refine oo (Pi rfl (by omega)) ?_ | refine oo (Pl rfl) ?_ | refine oo (Px rfl rfl) ?_ | refine oo (Pj rfl (by omega) (by omega)) ?_ | refine oo (Pk rfl (by omega) (by omega)) ?_ | refine oo (Pf rfl) ?_ | refine oo (Pv rfl (by omega) (by omega)) ?_ | refine oo (Pn rfl) ?_ | refine oo (Pm rfl) ?_ | refine os rfl rfl ?_ | refine ot rfl (by omega) ?_ | refine O_nil ?_) | refine wo rfl ?_ | refine wc rfl ?_ | refine wg rfl ?_ | refine go rfl ?_ | refine gc rfl ?_ | refine gg rfl ?_)
  exact G_fin ⟨_, rfl, rfl, .drop .rfl⟩

theorem base82_c (s : Value) (l : List Rg) (M : Mem) (hs : Rs s l M) (h0 : 0 < l.length) : HP Try.prog 82 #[s] M (.int .u32 (l.getD 0 Rg.zero).base) := by
  obtain ⟨b, own, sp, cap, rfl, hc, hm⟩ := hs.at h0
  have hg := rangesV_get l sp 0 0 h0 (by omega)
  refine HP.of (HC_of_W (fn := Try.f82) Try.func82 rfl rfl rfl rfl ?_)
  repeat' (first | (refine isO ?_; first | refine oo (Pc rfl) ?_ | refine oo (Pa rfl (by omega) (by omega)) ?_ | (refine ob rfl ?_ ?_ <;> intro hq <;> try (exfalso; omega)) | refine oo (Pi rfl (by omega)) ?_ | refine oo (Pl rfl) ?_ | refine oo (Px rfl rfl) ?_ | refine oo (Pj rfl (by omega) (by omega)) ?_ | refine oo (Pk rfl (by omega) (by omega)) ?_ | refine oo (Pf rfl) ?_ | refine oo (Pv rfl (by omega) (by omega)) ?_ | refine oo (Pn rfl) ?_ | refine oo (Pm rfl) ?_ | refine os rfl rfl ?_ | refine ot rfl (by omega) ?_ | refine O_nil ?_) | refine wo rfl ?_ | refine wc rfl ?_ | refine wg rfl ?_ | refine go rfl ?_ | refine gc rfl ?_ | refine gg rfl ?_)
  refine O_pure (P_loadAt (o := 0) (n := 0 * 2 + 0) Tb.p40 rfl rfl hm hg) trivial rfl ?_
  repeat' (first | (refine isO ?_; first | refine oo (Pc rfl) ?_ | refine oo (Pa rfl (by omega) (by omega)) ?_ | (refine ob rfl ?_ ?_ <;> intro hq <;> try (exfalso; omega)) | refine oo (Pi rfl (by omega)) ?_ | refine oo (Pl rfl) ?_ | refine oo (Px rfl rfl) ?_ | refine oo (Pj rfl (by omega) (by omega)) ?_ | refine oo (Pk rfl (by omega) (by omega)) ?_ | refine oo (Pf rfl) ?_ | refine oo (Pv rfl (by omega) (by omega)) ?_ | refine oo (Pn rfl) ?_ | refine oo (Pm rfl) ?_ | refine os rfl rfl ?_ | refine ot rfl (by omega) ?_ | refine O_nil ?_) | refine wo rfl ?_ | refine wc rfl ?_ | refine wg rfl ?_ | refine go rfl ?_ | refine gc rfl ?_ | refine gg rfl ?_)
  exact G_fin ⟨_, rfl, rfl⟩

theorem end83_c (s : Value) (l : List Rg) (M : Mem) (hs : Rs s l M) (h0 : 0 < l.length) (h100 : l.length ≤ 100) {p n : Nat} (he : l.getD (l.length - 1) Rg.zero = ⟨p, n⟩) (hp : p + 2 ^ n < 2 ^ 32) :
    HC Try.prog 83 #[s] M (fun v M' => v = .int .u32 (p + 2 ^ n : Nat) ∧ Rk M' M) := by
  obtain ⟨b, own, sp, cap, rfl, hc, hm⟩ := hs.at h0
  have hg := rangesV_block l sp (l.length - 1) (by omega) he
  refine HC_of_W (fn := Try.f83) Try.func83 rfl rfl rfl rfl ?_
  repeat' (first | (refine isO ?_; first | refine oo (Pc rfl) ?_ | refine oo (Pa rfl (by omega) (by omega)) ?_ | (refine ob rfl ?_ ?_ <;> intro hq <;> try (exfalso; omega)) | refine oo (Pi rfl (by omega)) ?_ | refine oo (Pl rfl) ?_ | refine oo (Px rfl rfl) ?_ | refine oo (Pj rfl (by omega) (by omega)) ?_ | refine oo (Pk rfl (by omega) (by omega)) ?_ | refine oo (Pf rfl) ?_ | refine oo (Pv rfl (by omega) (by omega)) ?_ | refine oo (Pn rfl) ?_ | refine oo (Pm rfl) ?_ | refine os rfl rfl ?_ | refine ot rfl (by omega) ?_ | refine O_nil ?_) | refine wo rfl ?_ | refine wc rfl ?_ | refine wg rfl ?_ | refine go rfl ?_ | refine gc rfl ?_ | refine gg rfl ?_)
  refine O_pure (P_loadAggAt (o := 0) (i := (l.length - 1) * 2) (cs := [.int .u32 p, .int .u32 n]) Tb.a141 Tb.c141 (by decide) rfl (by omega) hm (by rw [List.length_append, rangesV_length]; omega) hg) trivial rfl ?_
  refine O_call rfl rfl Tb.k98 trivial rfl (end98_c p n M hp) ?_
  rintro v M' ⟨rfl, hrk⟩
  refine O_weak hrk ?_
  repeat' (first | (refine isO ?_; first | refine oo (Pc rfl) ?_ | refine oo (Pa rfl (by omega) (by omega)) ?_ | (refine ob rfl ?_ ?_ <;> intro hq <;> try (exfalso; omega)) | refine oo (Pi rfl (by omega)) ?_ | refine oo (Pl rfl) ?_ | refine oo (Px rfl rfl) ?_ | refine oo (Pj rfl (by omega) (by omega)) ?_ | refine oo (Pk rfl (by omega) (by omega)) ?_ | refine oo (Pf rfl) ?_ | refine oo (Pv rfl (by omega) (by omega)) ?_ | refine oo (Pn rfl) ?_ | refine oo (Pm rfl) ?_ | refine os rfl rfl ?_ | refine ot rfl (by omega) ?_ | refine O_nil ?_) | refine wo rfl ?_ | refine wc rfl ?_ | refine wg rfl ?_ | refine go rfl ?_ | refine gc rfl ?_ | refine gg rfl ?_)
  exact G_fin ⟨_, rfl, rfl, .rfl⟩

theorem codes54_c (s : Value) (l : List Rg) (M : Mem) (hs : Rs s l M) (h100 : l.length ≤ 100) : HC Try.prog 54 #[s] M (fun v M' => ∃ m, Own v 2 (rangesV l) m ∧ Rk M' (m ++ M)) := by
  obtain ⟨I, hI, hI1, hI2, hI3⟩ := of_info info141
  obtain ⟨ad, cp, e⟩ : ∃ a c, s = .slice a l.length c := ⟨_, _, hs.choose_spec.choose_spec.1⟩
  subst e
  refine HC_of_W (fn := Try.f54) Try.func54 rfl rfl rfl rfl ?_
  repeat' (first | (refine isO ?_; first | refine oo (Pc rfl) ?_ | refine oo (Pa rfl (by omega) (by omega)) ?_ | (refine ob rfl ?_ ?_ <;> intro hq <;> try (exfalso; omega)) | refine oo (Pi rfl (by omega)) ?_ | refine oo (Pl rfl) ?_ | refine oo (Px rfl rfl) ?_ | refine oo (Pj rfl (by omega) (by omega)) ?_ | refine oo (Pk rfl (by omega) (by omega)) ?_ | refine oo (Pf rfl) ?_ | refine oo (Pv rfl (by omega) (by omega)) ?_ | refine oo (Pn rfl) ?_ | refine oo (Pm rfl) ?_ | refine os rfl rfl ?_ | refine ot rfl (by omega) ?_ | refine O_nil ?_) | refine wo rfl ?_ | refine wc rfl ?_ | refine wg rfl ?_ | refine go rfl ?_ | refine gc rfl ?_ | refine gg rfl ?_)
  refine W_loop (α := Nat × Value × Mem) (fun x => [(3, x.2.1), (6, .slice ad l.length cp), (7, .int .i64 l.length), (8, .int .i64 x.1)])
    (fun x => x.2.2 ++ M) (fun x => x.1 ≤ l.length ∧ Own x.2.1 2 (rangesV (l.take x.1)) x.2.2) (fun x => l.length - x.1)
    (0, .slice none 0 0, []) ⟨by omega, .inl ⟨rfl, by simp [rangesV], rfl⟩⟩ ⟨rfl, rfl, rfl, rfl, trivial⟩ .rfl ?_
  rintro ⟨i, sv, m⟩ ⟨hi, hown⟩
  dsimp only at hi hown ⊢
  repeat' (first | (refine isO ?_; first | refine oo (Pc rfl) ?_ | refine oo (Pa rfl (by omega) (by omega)) ?_ | (refine ob rfl ?_ ?_ <;> intro hq <;> try (exfalso; omega)) | refine oo (Pi rfl (by omega)) ?_ | refine oo (Pl rfl) ?_ | refine oo (Px rfl rfl) ?_ | refine oo (Pj rfl (by omega) (by omega)) ?_ | refine oo (Pk rfl (by omega) (by omega)) ?_ | refine oo (Pf rfl) ?_ | refine oo (Pv rfl (by omega) (by omega)) ?_ | refine oo (Pn rfl) ?_ | refine oo (Pm rfl) ?_ | refine os rfl rfl ?_ | refine ot rfl (by omega) ?_ | refine O_nil ?_) | refine wo rfl ?_ | refine wc rfl ?_ | refine wg rfl ?_ | refine go rfl ?_ | refine gc rfl ?_ | refine gg rfl ?_)
  · have hil : i < l.length := by omega
    obtain ⟨b, own, sp, cap, e, _, hm⟩ := hs.at (by omega)
    cases e
    obtain ⟨p, n, hget⟩ : ∃ p n, l.getD i Rg.zero = ⟨p, n⟩ := ⟨_, _, rfl⟩
    have htake := rangesV_take l i hil hget
    have hlen : (rangesV (l.take i)).length = i * 2 := by rw [rangesV_length, List.length_take]; omega
    repeat' (first | (refine isO ?_; first | refine oo (Pc rfl) ?_ | refine oo (Pa rfl (by omega) (by omega)) ?_ | (refine ob rfl ?_ ?_ <;> intro hq <;> try (exfalso; omega)) | refine oo (Pi rfl (by omega)) ?_ | refine oo (Pl rfl) ?_ | refine oo (Px rfl rfl) ?_ | refine oo (Pj rfl (by omega) (by omega)) ?_ | refine oo (Pk rfl (by omega) (by omega)) ?_ | refine oo (Pf rfl) ?_ | refine oo (Pv rfl (by omega) (by omega)) ?_ | refine oo (Pn rfl) ?_ | refine oo (Pm rfl) ?_ | refine os rfl rfl ?_ | refine ot rfl (by omega) ?_ | refine O_nil ?_) | refine wo rfl ?_ | refine wc rfl ?_ | refine wg rfl ?_ | refine go rfl ?_ | refine gc rfl ?_ | refine gg rfl ?_)
    refine O_pure (P_loadAggAt (o := 0) (i := i * 2) (cs := [.int .u32 p, .int .u32 n]) Tb.a69 Tb.c69 (by decide) rfl (by omega) (List.mem_append_right _ hm) (by rw [List.length_append, rangesV_length]; omega) (rangesV_block l sp i hil hget)) trivial rfl ?_
    refine O_alloc zero69 trivial rfl fun bx => ?_
    refine O_storeAgg0 Tb.c69 (by decide) rfl rfl rfl (lit2_one _ _) trivial .head rfl ?_
    repeat' (first | (refine isO ?_; first | refine oo (Pc rfl) ?_ | refine oo (Pa rfl (by omega) (by omega)) ?_ | (refine ob rfl ?_ ?_ <;> intro hq <;> try (exfalso; omega)) | refine oo (Pi rfl (by omega)) ?_ | refine oo (Pl rfl) ?_ | refine oo (Px rfl rfl) ?_ | refine oo (Pj rfl (by omega) (by omega)) ?_ | refine oo (Pk rfl (by omega) (by omega)) ?_ | refine oo (Pf rfl) ?_ | refine oo (Pv rfl (by omega) (by omega)) ?_ | refine oo (Pn rfl) ?_ | refine oo (Pm rfl) ?_ | refine os rfl rfl ?_ | refine ot rfl (by omega) ?_ | refine O_nil ?_) | refine wo rfl ?_ | refine wc rfl ?_ | refine wg rfl ?_ | refine go rfl ?_ | refine gc rfl ?_ | refine gg rfl ?_)
    refine O_pure (P_build rfl (build141 _ _)) trivial rfl ?_
    refine O_buildSlice rfl (row106_1 _ _) trivial rfl fun by1 => ?_
    refine O_append (m := m) (M0 := ⟨true, by1, 0, [.int .u32 p, .int .u32 n]⟩ :: M) Tb.u106 Tb.u106 hI hI1 (by decide) (by omega) hI3 rfl rfl rfl hown (Rk.trans (Rk.cons .head (.drop .rfl)) (.perm List.perm_middle.symm)) hlen (.head _) (Nat.le_refl 2) (lit2_one _ _) (.inl (by omega)) (by rw [hI2]; omega) trivial rfl fun b2 c2 s2 h2 => ?_
    rw [htake] at h2 ⊢
    repeat' (first | (refine isO ?_; first | refine oo (Pc rfl) ?_ | refine oo (Pa rfl (by omega) (by omega)) ?_ | (refine ob rfl ?_ ?_ <;> intro hq <;> try (exfalso; omega)) | refine oo (Pi rfl (by omega)) ?_ | refine oo (Pl rfl) ?_ | refine oo (Px rfl rfl) ?_ | refine oo (Pj rfl (by omega) (by omega)) ?_ | refine oo (Pk rfl (by omega) (by omega)) ?_ | refine oo (Pf rfl) ?_ | refine oo (Pv rfl (by omega) (by omega)) ?_ | refine oo (Pn rfl) ?_ | refine oo (Pm rfl) ?_ | refine os rfl rfl ?_ | refine ot rfl (by omega) ?_ | refine O_nil ?_) | refine wo rfl ?_ | refine wc rfl ?_ | refine wg rfl ?_ | refine go rfl ?_ | refine gc rfl ?_ | refine gg rfl ?_)
    exact G_stop ⟨(i + 1, .slice (some ⟨b2, 0, none⟩) (i + 1) c2, [⟨true, b2, 0, rangesV (l.take (i + 1)) ++ s2⟩]), ⟨by omega, .inr ⟨b2, i + 1, c2, s2, rfl, rfl, by rw [rangesV_length, List.length_take]; omega, h2⟩⟩, by dsimp only; omega, ⟨rfl, rfl, rfl, rfl, trivial⟩, .cons .head (.drop .rfl)⟩
  · obtain rfl : i = l.length := by omega
    rw [List.take_length] at hown
    exact G_fin ⟨_, rfl, m, hown, .rfl⟩
end Go.Proofs.Ytjkpfliaflmppaa.Pc
