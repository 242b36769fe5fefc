/- Base, End, checkValid, rangeCodes, spec.RangeOf, walked. RangeCodes.checkValid and spec.RangeOf, walked. RangeEncoder.Init and Encode, walked: for ranges that stand one behind the other, and an offset that has one. -/
import Derived.Test.YtjkpfliaflmppaaW4x15
import Derived.Test.YtjkpfliaflmppaaW4x04
import Derived.Test.YtjkpfliaflmppaaW4x06
import Derived.Test.YtjkpfliaflmppaaW4x05

namespace Go.Proofs.Ytjkpfliaflmppaa.Pc
open Go Go.RowKit Go.Proofs.Ytjkpfliaflmppaa.Vm

theorem P_tail {P : Program} {N : Fm} {E : Env} {M : Mem} {t e : TypeId} {x : Operand} {b len cap n : Nat} (ht : Und P t (.slice e)) (he : Cel P e n) (hn : 0 < n) (hx : ev E x = some (.slice (some ⟨b, 0, none⟩) len cap)) (h1 : 1 ≤ len) (h2 : len ≤ cap) :
    Pure P N E M (.slice t x (some (.const (.int .i64 1))) none none) (.slice (some ⟨b, if cap = 1 then 0 else n, none⟩) (len - 1) (cap - 1)) := by
  by_cases hc : cap = 1
  · rw [if_pos hc]
    have := P_slice_end (N := N) (M := M) (lo := some (.const (.int .i64 1))) (hi := none) (l := 1) (h := len) ht he hn hx ⟨_, rfl⟩ rfl (by omega) (by omega) (by omega) (by omega)
    rw [show len - 1 = 0 by omega, show cap - 1 = 0 by omega]
    exact this
  · rw [if_neg hc]
    have := P_slice (N := N) (M := M) (lo := some (.const (.int .i64 1))) (hi := none) (l := 1) (h := len) ht he hn hx ⟨_, rfl⟩ rfl (by omega) (by omega) (by omega) (by omega)
    simpa using this

theorem end98_c (p n : Nat) (M : Mem) (hp : p + 2 ^ n < 2 ^ 32) :
    HC Try.prog 98 #[.agg [.int .u32 p, .int .u32 n].toArray] M (fun v M' => v = .int .u32 (p + 2 ^ n : Nat) ∧ Rk M' M) := by
  refine HC_of_W (fn := Try.f98) Try.func98 rfl rfl rfl rfl ?_
  repeat' (first | (refine isO ?_; first | refine oo (Pc rfl) ?_ | refine oo (Pa rfl (by omega) (by omega)) ?_ | (refine ob rfl ?_ ?_ <;> intro hq <;> try (exfalso; omega)) | refine oo (Pi rfl (by omega)) ?_ | refine oo (Pl rfl) ?_ | refine oo (Px rfl rfl) ?_ | refine oo (Pj rfl (by omega) (by omega)) ?_ | refine oo (Pk rfl (by omega) (by omega)) ?_ | refine oo (Pf rfl) ?_ | refine oo (Pv rfl (by omega) (by omega)) ?_ | refine oo (Pn rfl) ?_ | refine oo (Pm rfl) ?_ | refine os rfl rfl ?_ | refine ot rfl (by omega) ?_ | refine O_nil ?_) | refine wo rfl ?_ | refine wc rfl ?_ | refine wg rfl ?_ | refine go rfl ?_ | refine gc rfl ?_ | refine gg rfl ?_)
  refine O_box rfl trivial rfl fun b => ?_
  refine O_weak (M' := ⟨true, b, 0, [.int .u32 p, .int .u32 n]⟩ :: M) .rfl ?_
  repeat' (first | (refine isO ?_; first | refine oo (Pc rfl) ?_ | refine oo (Pa rfl (by omega) (by omega)) ?_ | (refine ob rfl ?_ ?_ <;> intro hq <;> try (exfalso; omega)) | refine oo (Pi rfl (by omega)) ?_ | refine oo (Pl rfl) ?_ | refine oo (Px rfl rfl) ?_ | refine oo (Pj rfl (by omega) (by omega)) ?_ | refine oo (Pk rfl (by omega) (by omega)) ?_ | refine oo (Pf rfl) ?_ | refine oo (Pv rfl (by omega) (by omega)) ?_ | refine oo (Pn rfl) ?_ | refine oo (Pm rfl) ?_ | refine os rfl rfl ?_ | refine ot rfl (by omega) ?_ | refine O_nil ?_) | refine wo rfl ?_ | refine wc rfl ?_ | refine wg rfl ?_ | refine go rfl ?_ | refine gc rfl ?_ | refine gg rfl ?_)
  refine O_pure (P_shlE (p := 1) (q := n) (r := 2 ^ n) rfl rfl rfl (by rw [Nat.one_mul]; exact Nat.mod_eq_of_lt (by simp only [IntKind.bits]; omega))) trivial rfl ?_
  refine O_pure (P_addE (p := p) (q := 2 ^ n) (r := p + 2 ^ n) rfl rfl rfl (Nat.mod_eq_of_lt hp)) trivial rfl ?_
  repeat' (first | (refine isO ?_; first | refine oo (Pc rfl) ?_ | refine oo (Pa rfl (by omega) (by omega)) ?_ | (refine ob rfl ?_ ?_ <;> intro hq <;> try (exfalso; omega)) | refine oo (Pi rfl (by omega)) ?_ | refine oo (Pl rfl) ?_ | refine oo (Px rfl rfl) ?_ | refine oo (Pj rfl (by omega) (by omega)) ?_ | refine oo (Pk rfl (by omega) (by omega)) ?_ | refine oo (Pf rfl) ?_ | refine oo (Pv rfl (by omega) (by omega)) ?_ | refine oo (Pn rfl) ?_ | refine oo (Pm rfl) ?_ | refine os rfl rfl ?_ | refine ot rfl (by omega) ?_ | refine O_nil ?_) | refine wo rfl ?_ | refine wc rfl ?_ | refine wg rfl ?_ | refine go rfl ?_ | refine gc rfl ?_ | refine gg rfl ?_)
  exact G_fin ⟨_, rfl, rfl, .drop .rfl⟩

theorem base82_c (s : Value) (l : List Rg) (M : Mem) (hs : Rs s l M) (h0 : 0 < l.length) : HP Try.prog 82 #[s] M (.int .u32 (l.getD 0 Rg.zero).base) := by
  obtain ⟨b, own, sp, cap, rfl, hc, hm⟩ := hs.at h0
  have hg := rangesV_get l sp 0 0 h0 (by omega)
  refine HP.of (HC_of_W (fn := Try.f82) Try.func82 rfl rfl rfl rfl ?_)
  repeat' (first | (refine isO ?_; first | refine oo (Pc rfl) ?_ | refine oo (Pa rfl (by omega) (by omega)) ?_ | (refine ob rfl ?_ ?_ <;> intro hq <;> try (exfalso; omega)) | refine oo (Pi rfl (by omega)) ?_ | refine oo (Pl rfl) ?_ | refine oo (Px rfl rfl) ?_ | refine oo (Pj rfl (by omega) (by omega)) ?_ | refine oo (Pk rfl (by omega) (by omega)) ?_ | refine oo (Pf rfl) ?_ | refine oo (Pv rfl (by omega) (by omega)) ?_ | refine oo (Pn rfl) ?_ | refine oo (Pm rfl) ?_ | refine os rfl rfl ?_ | refine ot rfl (by omega) ?_ | refine O_nil ?_) | refine wo rfl ?_ | refine wc rfl ?_ | refine wg rfl ?_ | refine go rfl ?_ | refine gc rfl ?_ | refine gg rfl ?_)
  refine O_pure (P_loadAt (o := 0) (n := 0 * 2 + 0) Tb.p40 rfl rfl hm hg) trivial rfl ?_
  repeat' (first | (refine isO ?_; first | refine oo (Pc rfl) ?_ | refine oo (Pa rfl (by omega) (by omega)) ?_ | (refine ob rfl ?_ ?_ <;> intro hq <;> try (exfalso; omega)) | refine oo (Pi rfl (by omega)) ?_ | refine oo (Pl rfl) ?_ | refine oo (Px rfl rfl) ?_ | refine oo (Pj rfl (by omega) (by omega)) ?_ | refine oo (Pk rfl (by omega) (by omega)) ?_ | refine oo (Pf rfl) ?_ | refine oo (Pv rfl (by omega) (by omega)) ?_ | refine oo (Pn rfl) ?_ | refine oo (Pm rfl) ?_ | refine os rfl rfl ?_ | refine ot rfl (by omega) ?_ | refine O_nil ?_) | refine wo rfl ?_ | refine wc rfl ?_ | refine wg rfl ?_ | refine go rfl ?_ | refine gc rfl ?_ | refine gg rfl ?_)
  exact G_fin ⟨_, rfl, rfl⟩

theorem end83_c (s : Value) (l : List Rg) (M : Mem) (hs : Rs s l M) (h0 : 0 < l.length) (h100 : l.length ≤ 100) {p n : Nat} (he : l.getD (l.length - 1) Rg.zero = ⟨p, n⟩) (hp : p + 2 ^ n < 2 ^ 32) :
    HC Try.prog 83 #[s] M (fun v M' => v = .int .u32 (p + 2 ^ n : Nat) ∧ Rk M' M) := by
  obtain ⟨b, own, sp, cap, rfl, hc, hm⟩ := hs.at h0
  have hg := rangesV_block l sp (l.length - 1) (by omega) he
  refine HC_of_W (fn := Try.f83) Try.func83 rfl rfl rfl rfl ?_
  repeat' (first | (refine isO ?_; first | refine oo (Pc rfl) ?_ | refine oo (Pa rfl (by omega) (by omega)) ?_ | (refine ob rfl ?_ ?_ <;> intro hq <;> try (exfalso; omega)) | refine oo (Pi rfl (by omega)) ?_ | refine oo (Pl rfl) ?_ | refine oo (Px rfl rfl) ?_ | refine oo (Pj rfl (by omega) (by omega)) ?_ | refine oo (Pk rfl (by omega) (by omega)) ?_ | refine oo (Pf rfl) ?_ | refine oo (Pv rfl (by omega) (by omega)) ?_ | refine oo (Pn rfl) ?_ | refine oo (Pm rfl) ?_ | refine os rfl rfl ?_ | refine ot rfl (by omega) ?_ | refine O_nil ?_) | refine wo rfl ?_ | refine wc rfl ?_ | refine wg rfl ?_ | refine go rfl ?_ | refine gc rfl ?_ | refine gg rfl ?_)
  refine O_pure (P_loadAggAt (o := 0) (i := (l.length - 1) * 2) (cs := [.int .u32 p, .int .u32 n]) Tb.a141 Tb.c141 (by decide) rfl (by omega) hm (by rw [List.length_append, rangesV_length]; omega) hg) trivial rfl ?_
  refine O_call rfl rfl Tb.k98 trivial rfl (end98_c p n M hp) ?_
  rintro v M' ⟨rfl, hrk⟩
  refine O_weak hrk ?_
  repeat' (first | (refine isO ?_; first | refine oo (Pc rfl) ?_ | refine oo (Pa rfl (by omega) (by omega)) ?_ | (refine ob rfl ?_ ?_ <;> intro hq <;> try (exfalso; omega)) | refine oo (Pi rfl (by omega)) ?_ | refine oo (Pl rfl) ?_ | refine oo (Px rfl rfl) ?_ | refine oo (Pj rfl (by omega) (by omega)) ?_ | refine oo (Pk rfl (by omega) (by omega)) ?_ | refine oo (Pf rfl) ?_ | refine oo (Pv rfl (by omega) (by omega)) ?_ | refine oo (Pn rfl) ?_ | refine oo (Pm rfl) ?_ | refine os rfl rfl ?_ | refine ot rfl (by omega) ?_ | refine O_nil ?_) | refine wo rfl ?_ | refine wc rfl ?_ | refine wg rfl ?_ | refine go rfl ?_ | refine gc rfl ?_ | refine gg rfl ?_)
  exact G_fin ⟨_, rfl, rfl, .rfl⟩

theorem codes54_c (s : Value) (l : List Rg) (M : Mem) (hs : Rs s l M) (h100 : l.length ≤ 100) : HC Try.prog 54 #[s] M (fun v M' => ∃ m, Own v 2 (rangesV l) m ∧ Rk M' (m ++ M)) := by
  obtain ⟨I, hI, hI1, hI2, hI3⟩ := of_info info141
  obtain ⟨ad, cp, e⟩ : ∃ a c, s = .slice a l.length c := ⟨_, _, hs.choose_spec.choose_spec.1⟩
  subst e
  refine HC_of_W (fn := Try.f54) Try.func54 rfl rfl rfl rfl ?_
  repeat' (first | (refine isO ?_; first | refine oo (Pc rfl) ?_ | refine oo (Pa rfl (by omega) (by omega)) ?_ | (refine ob rfl ?_ ?_ <;> intro hq <;> try (exfalso; omega)) | refine oo (Pi rfl (by omega)) ?_ | refine oo (Pl rfl) ?_ | refine oo (Px rfl rfl) ?_ | refine oo (Pj rfl (by omega) (by omega)) ?_ | refine oo (Pk rfl (by omega) (by omega)) ?_ | refine oo (Pf rfl) ?_ | refine oo (Pv rfl (by omega) (by omega)) ?_ | refine oo (Pn rfl) ?_ | refine oo (Pm rfl) ?_ | refine os rfl rfl ?_ | refine ot rfl (by omega) ?_ | refine O_nil ?_) | refine wo rfl ?_ | refine wc rfl ?_ | refine wg rfl ?_ | refine go rfl ?_ | refine gc rfl ?_ | refine gg rfl ?_)
  refine W_loop (α := Nat × Value × Mem) (fun x => [(3, x.2.1), (6, .slice ad l.length cp), (7, .int .i64 l.length), (8, .int .i64 x.1)])
    (fun x => x.2.2 ++ M) (fun x => x.1 ≤ l.length ∧ Own x.2.1 2 (rangesV (l.take x.1)) x.2.2) (fun x => l.length - x.1)
    (0, .slice none 0 0, []) ⟨by omega, .inl ⟨rfl, by simp [rangesV], rfl⟩⟩ ⟨rfl, rfl, rfl, rfl, trivial⟩ .rfl ?_
  rintro ⟨i, sv, m⟩ ⟨hi, hown⟩
  dsimp only at hi hown ⊢
  repeat' (first | (refine isO ?_; first | refine oo (Pc rfl) ?_ | refine oo (Pa rfl (by omega) (by omega)) ?_ | (refine ob rfl ?_ ?_ <;> intro hq <;> try (exfalso; omega)) | refine oo (Pi rfl (by omega)) ?_ | refine oo (Pl rfl) ?_ | refine oo (Px rfl rfl) ?_ | refine oo (Pj rfl (by omega) (by omega)) ?_ | refine oo (Pk rfl (by omega) (by omega)) ?_ | refine oo (Pf rfl) ?_ | refine oo (Pv rfl (by omega) (by omega)) ?_ | refine oo (Pn rfl) ?_ | refine oo (Pm rfl) ?_ | refine os rfl rfl ?_ | refine ot rfl (by omega) ?_ | refine O_nil ?_) | refine wo rfl ?_ | refine wc rfl ?_ | refine wg rfl ?_ | refine go rfl ?_ | refine gc rfl ?_ | refine gg rfl ?_)
  · have hil : i < l.length := by omega
    obtain ⟨b, own, sp, cap, e, _, hm⟩ := hs.at (by omega)
    cases e
    obtain ⟨p, n, hget⟩ : ∃ p n, l.getD i Rg.zero = ⟨p, n⟩ := ⟨_, _, rfl⟩
    have htake := rangesV_take l i hil hget
    have hlen : (rangesV (l.take i)).length = i * 2 := by rw [rangesV_length, List.length_take]; omega
    repeat' (first | (refine isO ?_; first | refine oo (Pc rfl) ?_ | refine oo (Pa rfl (by omega) (by omega)) ?_ | (refine ob rfl ?_ ?_ <;> intro hq <;> try (exfalso; omega)) | refine oo (Pi rfl (by omega)) ?_ | refine oo (Pl rfl) ?_ | refine oo (Px rfl rfl) ?_ | refine oo (Pj rfl (by omega) (by omega)) ?_ | refine oo (Pk rfl (by omega) (by omega)) ?_ | refine oo (Pf rfl) ?_ | refine oo (Pv rfl (by omega) (by omega)) ?_ | refine oo (Pn rfl) ?_ | refine oo (Pm rfl) ?_ | refine os rfl rfl ?_ | refine ot rfl (by omega) ?_ | refine O_nil ?_) | refine wo rfl ?_ | refine wc rfl ?_ | refine wg rfl ?_ | refine go rfl ?_ | refine gc rfl ?_ | refine gg rfl ?_)
    refine O_pure (P_loadAggAt (o := 0) (i := i * 2) (cs := [.int .u32 p, .int .u32 n]) Tb.a69 Tb.c69 (by decide) rfl (by omega) (List.mem_append_right _ hm) (by rw [List.length_append, rangesV_length]; omega) (rangesV_block l sp i hil hget)) trivial rfl ?_
    refine O_alloc zero69 trivial rfl fun bx => ?_
    refine O_storeAgg0 Tb.c69 (by decide) rfl rfl rfl (lit2_one _ _) trivial .head rfl ?_
    repeat' (first | (refine isO ?_; first | refine oo (Pc rfl) ?_ | refine oo (Pa rfl (by omega) (by omega)) ?_ | (refine ob rfl ?_ ?_ <;> intro hq <;> try (exfalso; omega)) | refine oo (Pi rfl (by omega)) ?_ | refine oo (Pl rfl) ?_ | refine oo (Px rfl rfl) ?_ | refine oo (Pj rfl (by omega) (by omega)) ?_ | refine oo (Pk rfl (by omega) (by omega)) ?_ | refine oo (Pf rfl) ?_ | refine oo (Pv rfl (by omega) (by omega)) ?_ | refine oo (Pn rfl) ?_ | refine oo (Pm rfl) ?_ | refine os rfl rfl ?_ | refine ot rfl (by omega) ?_ | refine O_nil ?_) | refine wo rfl ?_ | refine wc rfl ?_ | refine wg rfl ?_ | refine go rfl ?_ | refine gc rfl ?_ | refine gg rfl ?_)
    refine O_pure (P_build rfl (build141 _ _)) trivial rfl ?_
    refine O_buildSlice rfl (row106_1 _ _) trivial rfl fun by1 => ?_
    refine O_append (m := m) (M0 := ⟨true, by1, 0, [.int .u32 p, .int .u32 n]⟩ :: M) Tb.u106 Tb.u106 hI hI1 (by decide) (by omega) hI3 rfl rfl rfl hown (Rk.trans (Rk.cons .head (.drop .rfl)) (.perm List.perm_middle.symm)) hlen (.head _) (Nat.le_refl 2) (lit2_one _ _) (.inl (by omega)) (by rw [hI2]; omega) trivial rfl fun b2 c2 s2 h2 => ?_
    rw [htake] at h2 ⊢
    repeat' (first | (refine isO ?_; first | refine oo (Pc rfl) ?_ | refine oo (Pa rfl (by omega) (by omega)) ?_ | (refine ob rfl ?_ ?_ <;> intro hq <;> try (exfalso; omega)) | refine oo (Pi rfl (by omega)) ?_ | refine oo (Pl rfl) ?_ | refine oo (Px rfl rfl) ?_ | refine oo (Pj rfl (by omega) (by omega)) ?_ | refine oo (Pk rfl (by omega) (by omega)) ?_ | refine oo (Pf rfl) ?_ | refine oo (Pv rfl (by omega) (by omega)) ?_ | refine oo (Pn rfl) ?_ | refine oo (Pm rfl) ?_ | refine os rfl rfl ?_ | refine ot rfl (by omega) ?_ | refine O_nil ?_) | refine wo rfl ?_ | refine wc rfl ?_ | refine wg rfl ?_ | refine go rfl ?_ | refine gc rfl ?_ | refine gg rfl ?_)
    exact G_stop ⟨(i + 1, .slice (some ⟨b2, 0, none⟩) (i + 1) c2, [⟨true, b2, 0, rangesV (l.take (i + 1)) ++ s2⟩]), ⟨by omega, .inr ⟨b2, i + 1, c2, s2, rfl, rfl, by rw [rangesV_length, List.length_take]; omega, h2⟩⟩, by dsimp only; omega, ⟨rfl, rfl, rfl, rfl, trivial⟩, .cons .head (.drop .rfl)⟩
  · obtain rfl : i = l.length := by omega
    rw [List.take_length] at hown
    exact G_fin ⟨_, rfl, m, hown, .rfl⟩
end Go.Proofs.Ytjkpfliaflmppaa.Pc

namespace Go.Proofs.Ytjkpfliaflmppaa.Pc
open Go Go.RowKit Go.Proofs.Ytjkpfliaflmppaa.Vm

theorem rget0 {l : List Rg} {i p n : Nat} (sp : List Value) (h : i < l.length) (he : l.getD i Rg.zero = ⟨p, n⟩) : (rangesV l ++ sp)[i * 2 + 0]? = some (.int .u32 p) := by
  rw [rangesV_get l sp i 0 h (by omega), he]; rfl
theorem rget1 {l : List Rg} {i p n : Nat} (sp : List Value) (h : i < l.length) (he : l.getD i Rg.zero = ⟨p, n⟩) : (rangesV l ++ sp)[i * 2 + 1]? = some (.int .u32 n) := by
  rw [rangesV_get l sp i 1 h (by omega), he]; rfl

theorem valid97_c (a : Nat) (s : Value) (ls : List Nat) (M : Mem) (ha : a ≤ 1048576) (hs : Rs s (mkR a ls) M) (hok : OkN ls) (h0 : 0 < ls.length) :
    HC Try.prog 97 #[s] M (fun v M' => v = .bool true ∧ Rk M' M) := by
  obtain ⟨b, own, sp, cap, rfl, hc, hm⟩ := hs.at (by rw [mkR_length]; exact h0)
  have h30 := hok.1
  rw [List.length_append, rangesV_length, mkR_length] at hc
  rw [mkR_length]
  refine HC_of_W (fn := Try.f97) Try.func97 rfl rfl rfl rfl ?_
  repeat' (first | (refine isO ?_; first | refine oo (Pc rfl) ?_ | refine oo (Pa rfl (by omega) (by omega)) ?_ | (refine ob rfl ?_ ?_ <;> intro hq <;> try (exfalso; omega)) | refine oo (Pi rfl (by omega)) ?_ | refine oo (Pl rfl) ?_ | refine oo (Px rfl rfl) ?_ | refine oo (Pj rfl (by omega) (by omega)) ?_ | refine oo (Pk rfl (by omega) (by omega)) ?_ | refine oo (Pf rfl) ?_ | refine oo (Pv rfl (by omega) (by omega)) ?_ | refine oo (Pn rfl) ?_ | refine oo (Pm rfl) ?_ | refine os rfl rfl ?_ | refine ot rfl (by omega) ?_ | refine O_nil ?_) | refine wo rfl ?_ | refine wc rfl ?_ | refine wg rfl ?_ | refine go rfl ?_ | refine gc rfl ?_ | refine gg rfl ?_)
  refine O_pure (P_loadAggAt (o := 0) (i := 0 * 2) (cs := [.int .u32 (rAt a ls 0 : Nat), .int .u32 (ls.getD 0 0 : Nat)]) Tb.a141 Tb.c141 (by decide) rfl rfl hm (by rw [List.length_append, rangesV_length, mkR_length]; omega) (rangesV_block _ sp 0 (by rw [mkR_length]; exact h0) (mkR_get a ls 0 h0))) trivial rfl ?_
  refine O_alloc zero141 trivial rfl fun b3 => ?_
  refine O_storeAgg0 Tb.c141 (by decide) rfl rfl rfl (lit2_one _ _) trivial .head rfl ?_
  repeat' (first | (refine isO ?_; first | refine oo (Pc rfl) ?_ | refine oo (Pa rfl (by omega) (by omega)) ?_ | (refine ob rfl ?_ ?_ <;> intro hq <;> try (exfalso; omega)) | refine oo (Pi rfl (by omega)) ?_ | refine oo (Pl rfl) ?_ | refine oo (Px rfl rfl) ?_ | refine oo (Pj rfl (by omega) (by omega)) ?_ | refine oo (Pk rfl (by omega) (by omega)) ?_ | refine oo (Pf rfl) ?_ | refine oo (Pv rfl (by omega) (by omega)) ?_ | refine oo (Pn rfl) ?_ | refine oo (Pm rfl) ?_ | refine os rfl rfl ?_ | refine ot rfl (by omega) ?_ | refine O_nil ?_) | refine wo rfl ?_ | refine wc rfl ?_ | refine wg rfl ?_ | refine go rfl ?_ | refine gc rfl ?_ | refine gg rfl ?_)
  refine O_pure (P_tail Tb.u106 Tb.c141 (by decide) rfl (by omega) (by omega)) trivial rfl ?_
  repeat' (first | (refine isO ?_; first | refine oo (Pc rfl) ?_ | refine oo (Pa rfl (by omega) (by omega)) ?_ | (refine ob rfl ?_ ?_ <;> intro hq <;> try (exfalso; omega)) | refine oo (Pi rfl (by omega)) ?_ | refine oo (Pl rfl) ?_ | refine oo (Px rfl rfl) ?_ | refine oo (Pj rfl (by omega) (by omega)) ?_ | refine oo (Pk rfl (by omega) (by omega)) ?_ | refine oo (Pf rfl) ?_ | refine oo (Pv rfl (by omega) (by omega)) ?_ | refine oo (Pn rfl) ?_ | refine oo (Pm rfl) ?_ | refine os rfl rfl ?_ | refine ot rfl (by omega) ?_ | refine O_nil ?_) | refine wo rfl ?_ | refine wc rfl ?_ | refine wg rfl ?_ | refine go rfl ?_ | refine gc rfl ?_ | refine gg rfl ?_)
  refine W_loop (α := Nat) (fun j => [(3, .pointer (some ⟨b3, 0, none⟩)), (17, .slice (some ⟨b, if cap = 1 then 0 else 2, none⟩) (ls.length - 1) (cap - 1)), (18, .int .i64 (ls.length - 1 : Nat)), (19, .int .i64 j)])
    (fun j => ⟨true, b3, 0, [.int .u32 (rAt a ls j : Nat), .int .u32 (ls.getD j 0 : Nat)]⟩ :: M) (fun j => j ≤ ls.length - 1) (fun j => ls.length - j) 0 (by omega) ⟨rfl, rfl, rfl, rfl, trivial⟩ .rfl ?_
  intro j hj
  try dsimp only
  repeat' (first | (refine isO ?_; first | refine oo (Pc rfl) ?_ | refine oo (Pa rfl (by omega) (by omega)) ?_ | (refine ob rfl ?_ ?_ <;> intro hq <;> try (exfalso; omega)) | refine oo (Pi rfl (by omega)) ?_ | refine oo (Pl rfl) ?_ | refine oo (Px rfl rfl) ?_ | refine oo (Pj rfl (by omega) (by omega)) ?_ | refine oo (Pk rfl (by omega) (by omega)) ?_ | refine oo (Pf rfl) ?_ | refine oo (Pv rfl (by omega) (by omega)) ?_ | refine oo (Pn rfl) ?_ | refine oo (Pm rfl) ?_ | refine os rfl rfl ?_ | refine ot rfl (by omega) ?_ | refine O_nil ?_) | refine wo rfl ?_ | refine wc rfl ?_ | refine wg rfl ?_ | refine go rfl ?_ | refine gc rfl ?_ | refine gg rfl ?_)
  · have hjl : j + 1 < ls.length := by omega
    have hz := hok.2 j (by omega)
    have hz' := hok.2 (j + 1) hjl
    have hr := rAt_le (a := a) hok j (by omega)
    have hr1 : rAt a ls (j + 1) = rAt a ls j + 2 ^ ls.getD j 0 := rfl
    have hr2 : rAt a ls (j + 1 + 1) = rAt a ls (j + 1) + 2 ^ ls.getD (j + 1) 0 := rfl
    have hget := mkR_get a ls (j + 1) hjl
    have hp := pow20 hz
    have hp' := pow20 hz'
    refine O_pure (P_loadAggAt (o := 0) (i := (j + 1) * 2) (cs := [.int .u32 (rAt a ls (j + 1) : Nat), .int .u32 (ls.getD (j + 1) 0 : Nat)]) Tb.a141 Tb.c141 (by decide) rfl (by rw [if_neg (by omega)]; omega) (.tail _ hm) (by rw [List.length_append, rangesV_length, mkR_length]; omega)
      (rangesV_block _ sp (j + 1) (by rw [mkR_length]; exact hjl) hget)) trivial rfl ?_
    generalize ls.getD j 0 = z at *
    generalize hz2 : ls.getD (j + 1) 0 = z' at *
    refine O_alloc zero141 trivial rfl fun bx => ?_
    refine O_storeAgg0 Tb.c141 (by decide) rfl rfl rfl (lit2_one _ _) trivial .head rfl ?_
    repeat' (first | (refine isO ?_; first | refine oo (Pc rfl) ?_ | refine oo (Pa rfl (by omega) (by omega)) ?_ | (refine ob rfl ?_ ?_ <;> intro hq <;> try (exfalso; omega)) | refine oo (Pi rfl (by omega)) ?_ | refine oo (Pl rfl) ?_ | refine oo (Px rfl rfl) ?_ | refine oo (Pj rfl (by omega) (by omega)) ?_ | refine oo (Pk rfl (by omega) (by omega)) ?_ | refine oo (Pf rfl) ?_ | refine oo (Pv rfl (by omega) (by omega)) ?_ | refine oo (Pn rfl) ?_ | refine oo (Pm rfl) ?_ | refine os rfl rfl ?_ | refine ot rfl (by omega) ?_ | refine O_nil ?_) | refine wo rfl ?_ | refine wc rfl ?_ | refine wg rfl ?_ | refine go rfl ?_ | refine gc rfl ?_ | refine gg rfl ?_)
    refine W_region_quiet Tb.mixed [[], [0], [], [2], [1], [3]] (by kernel_rfl) (by kernel_rfl) ?_
    repeat' (first | (refine isQS ?_; first | refine qq (Pc rfl) ?_ | refine qq (Pa rfl (by omega) (by omega)) ?_ | (refine qb rfl ?_ ?_ <;> intro hq <;> try (exfalso; omega)) | refine qq (Pi rfl (by omega)) ?_ | refine qq (Pl rfl) ?_ | refine qq (Px rfl rfl) ?_ | refine qq (Pj rfl (by omega) (by omega)) ?_ | refine qq (Pk rfl (by omega) (by omega)) ?_ | refine qq (Pf rfl) ?_ | refine qq (Pv rfl (by omega) (by omega)) ?_ | refine qq (Pn rfl) ?_ | refine qq (Pm rfl) ?_ | (refine QS_nil ⟨rfl, ?_⟩; simp only [List.nil_append, List.cons_append, somes])))
    refine QS_pure (P_loadAggAt (o := 0) (i := 0) (cs := [.int .u32 (rAt a ls j : Nat), .int .u32 (z : Nat)]) Tb.a141 Tb.c141 (by decide) rfl rfl (.tail _ (.head _)) (Nat.le_refl _) rfl) trivial rfl ?_
    refine QS_call rfl rfl Tb.k98 trivial rfl (end98_c (rAt a ls j) z _ (by omega)) ?_
    repeat' (first | (refine isQS ?_; first | refine qq (Pc rfl) ?_ | refine qq (Pa rfl (by omega) (by omega)) ?_ | (refine qb rfl ?_ ?_ <;> intro hq <;> try (exfalso; omega)) | refine qq (Pi rfl (by omega)) ?_ | refine qq (Pl rfl) ?_ | refine qq (Px rfl rfl) ?_ | refine qq (Pj rfl (by omega) (by omega)) ?_ | refine qq (Pk rfl (by omega) (by omega)) ?_ | refine qq (Pf rfl) ?_ | refine qq (Pv rfl (by omega) (by omega)) ?_ | refine qq (Pn rfl) ?_ | refine qq (Pm rfl) ?_ | (refine QS_nil ⟨rfl, ?_⟩; simp only [List.nil_append, List.cons_append, somes])))
    repeat' (first | (refine isO ?_; first | refine oo (Pc rfl) ?_ | refine oo (Pa rfl (by omega) (by omega)) ?_ | (refine ob rfl ?_ ?_ <;> intro hq <;> try (exfalso; omega)) | refine oo (Pi rfl (by omega)) ?_ | refine oo (Pl rfl) ?_ | refine oo (Px rfl rfl) ?_ | refine oo (Pj rfl (by omega) (by omega)) ?_ | refine oo (Pk rfl (by omega) (by omega)) ?_ | refine oo (Pf rfl) ?_ | refine oo (Pv rfl (by omega) (by omega)) ?_ | refine oo (Pn rfl) ?_ | refine oo (Pm rfl) ?_ | refine os rfl rfl ?_ | refine ot rfl (by omega) ?_ | refine O_nil ?_) | refine wo rfl ?_ | refine wc rfl ?_ | refine wg rfl ?_ | refine go rfl ?_ | refine gc rfl ?_ | refine gg rfl ?_)
    refine W_region_quiet Tb.mixed [[], [0], [], [2], [1], [3]] (by kernel_rfl) (by kernel_rfl) ?_
    repeat' (first | (refine isQS ?_; first | refine qq (Pc rfl) ?_ | refine qq (Pa rfl (by omega) (by omega)) ?_ | (refine qb rfl ?_ ?_ <;> intro hq <;> try (exfalso; omega)) | refine qq (Pi rfl (by omega)) ?_ | refine qq (Pl rfl) ?_ | refine qq (Px rfl rfl) ?_ | refine qq (Pj rfl (by omega) (by omega)) ?_ | refine qq (Pk rfl (by omega) (by omega)) ?_ | refine qq (Pf rfl) ?_ | refine qq (Pv rfl (by omega) (by omega)) ?_ | refine qq (Pn rfl) ?_ | refine qq (Pm rfl) ?_ | (refine QS_nil ⟨rfl, ?_⟩; simp only [List.nil_append, List.cons_append, somes])))
    refine QS_pure (P_loadAggAt (o := 0) (i := 0) (cs := [.int .u32 (rAt a ls (j + 1) : Nat), .int .u32 (z' : Nat)]) Tb.a141 Tb.c141 (by decide) rfl rfl (.head _) (Nat.le_refl _) rfl) trivial rfl ?_
    refine QS_call rfl rfl Tb.k98 trivial rfl (end98_c (rAt a ls (j + 1)) z' _ (by omega)) ?_
    repeat' (first | (refine isQS ?_; first | refine qq (Pc rfl) ?_ | refine qq (Pa rfl (by omega) (by omega)) ?_ | (refine qb rfl ?_ ?_ <;> intro hq <;> try (exfalso; omega)) | refine qq (Pi rfl (by omega)) ?_ | refine qq (Pl rfl) ?_ | refine qq (Px rfl rfl) ?_ | refine qq (Pj rfl (by omega) (by omega)) ?_ | refine qq (Pk rfl (by omega) (by omega)) ?_ | refine qq (Pf rfl) ?_ | refine qq (Pv rfl (by omega) (by omega)) ?_ | refine qq (Pn rfl) ?_ | refine qq (Pm rfl) ?_ | (refine QS_nil ⟨rfl, ?_⟩; simp only [List.nil_append, List.cons_append, somes])))
    repeat' (first | (refine isO ?_; first | refine oo (Pc rfl) ?_ | refine oo (Pa rfl (by omega) (by omega)) ?_ | (refine ob rfl ?_ ?_ <;> intro hq <;> try (exfalso; omega)) | refine oo (Pi rfl (by omega)) ?_ | refine oo (Pl rfl) ?_ | refine oo (Px rfl rfl) ?_ | refine oo (Pj rfl (by omega) (by omega)) ?_ | refine oo (Pk rfl (by omega) (by omega)) ?_ | refine oo (Pf rfl) ?_ | refine oo (Pv rfl (by omega) (by omega)) ?_ | refine oo (Pn rfl) ?_ | refine oo (Pm rfl) ?_ | refine os rfl rfl ?_ | refine ot rfl (by omega) ?_ | refine O_nil ?_) | refine wo rfl ?_ | refine wc rfl ?_ | refine wg rfl ?_ | refine go rfl ?_ | refine gc rfl ?_ | refine gg rfl ?_)
    refine O_pure (P_loadAggAt (o := 0) (i := 0) (cs := [.int .u32 (rAt a ls (j + 1) : Nat), .int .u32 (z' : Nat)]) Tb.a141 Tb.c141 (by decide) rfl rfl (.head _) (Nat.le_refl _) rfl) trivial rfl ?_
    refine O_storeAgg0 Tb.c141 (by decide) rfl rfl rfl (lit2_one _ _) trivial (.tail .head) rfl ?_
    repeat' (first | (refine isO ?_; first | refine oo (Pc rfl) ?_ | refine oo (Pa rfl (by omega) (by omega)) ?_ | (refine ob rfl ?_ ?_ <;> intro hq <;> try (exfalso; omega)) | refine oo (Pi rfl (by omega)) ?_ | refine oo (Pl rfl) ?_ | refine oo (Px rfl rfl) ?_ | refine oo (Pj rfl (by omega) (by omega)) ?_ | refine oo (Pk rfl (by omega) (by omega)) ?_ | refine oo (Pf rfl) ?_ | refine oo (Pv rfl (by omega) (by omega)) ?_ | refine oo (Pn rfl) ?_ | refine oo (Pm rfl) ?_ | refine os rfl rfl ?_ | refine ot rfl (by omega) ?_ | refine O_nil ?_) | refine wo rfl ?_ | refine wc rfl ?_ | refine wg rfl ?_ | refine go rfl ?_ | refine gc rfl ?_ | refine gg rfl ?_)
    exact G_stop ⟨j + 1, by omega, by omega, ⟨rfl, rfl, rfl, rfl, trivial⟩, by rw [hz2]; exact .cons .head (.drop .rfl)⟩
  · exact G_fin ⟨_, rfl, rfl, .drop .rfl⟩

theorem of36_c (a v : Nat) (s : Value) (ls : List Nat) (M : Mem) (ha : a ≤ 1048576) (hs : Rs s (mkR a ls) M) (hok : OkN ls) :
    HC Try.prog 36 #[s, .int .u64 v] M (fun r M' => ((∃ i, i < ls.length ∧ rAt a ls i ≤ v ∧ v < rAt a ls (i + 1) ∧ r = .tuple #[.int .u64 i, .bool true]) ∨
      ((∀ i, i < ls.length → v < rAt a ls i ∨ rAt a ls (i + 1) ≤ v) ∧ r = .tuple #[.int .u64 0, .bool false])) ∧ Rk M' M) := by
  obtain ⟨ad, cp, e⟩ : ∃ a c, s = .slice a ls.length c := ⟨_, _, by rw [← mkR_length a ls]; exact hs.choose_spec.choose_spec.1⟩
  subst e
  have h30 := hok.1
  refine HC_of_W (fn := Try.f36) Try.func36 rfl rfl rfl rfl ?_
  repeat' (first | (refine isO ?_; first | refine oo (Pc rfl) ?_ | refine oo (Pa rfl (by omega) (by omega)) ?_ | (refine ob rfl ?_ ?_ <;> intro hq <;> try (exfalso; omega)) | refine oo (Pi rfl (by omega)) ?_ | refine oo (Pl rfl) ?_ | refine oo (Px rfl rfl) ?_ | refine oo (Pj rfl (by omega) (by omega)) ?_ | refine oo (Pk rfl (by omega) (by omega)) ?_ | refine oo (Pf rfl) ?_ | refine oo (Pv rfl (by omega) (by omega)) ?_ | refine oo (Pn rfl) ?_ | refine oo (Pm rfl) ?_ | refine os rfl rfl ?_ | refine ot rfl (by omega) ?_ | refine O_nil ?_) | refine wo rfl ?_ | refine wc rfl ?_ | refine wg rfl ?_ | refine go rfl ?_ | refine gc rfl ?_ | refine gg rfl ?_)
  refine W_loop (α := Nat) (fun i => [(0, .slice ad ls.length cp), (1, .int .u64 v), (6, .int .i64 i)]) (fun _ => M) (fun i => i ≤ ls.length ∧ ∀ j, j < i → v < rAt a ls j ∨ rAt a ls (j + 1) ≤ v) (fun i => ls.length - i)
    0 ⟨by omega, by intro j hj; omega⟩ ⟨rfl, rfl, rfl, trivial⟩ .rfl ?_
  rintro i ⟨hi, hno⟩
  try dsimp only
  repeat' (first | (refine isO ?_; first | refine oo (Pc rfl) ?_ | refine oo (Pa rfl (by omega) (by omega)) ?_ | (refine ob rfl ?_ ?_ <;> intro hq <;> try (exfalso; omega)) | refine oo (Pi rfl (by omega)) ?_ | refine oo (Pl rfl) ?_ | refine oo (Px rfl rfl) ?_ | refine oo (Pj rfl (by omega) (by omega)) ?_ | refine oo (Pk rfl (by omega) (by omega)) ?_ | refine oo (Pf rfl) ?_ | refine oo (Pv rfl (by omega) (by omega)) ?_ | refine oo (Pn rfl) ?_ | refine oo (Pm rfl) ?_ | refine os rfl rfl ?_ | refine ot rfl (by omega) ?_ | refine O_nil ?_) | refine wo rfl ?_ | refine wc rfl ?_ | refine wg rfl ?_ | refine go rfl ?_ | refine gc rfl ?_ | refine gg rfl ?_)
  · have hil : i < ls.length := by omega
    obtain ⟨b, own, sp, cap, e, _, hm⟩ := hs.at (by rw [mkR_length]; omega)
    rw [mkR_length] at e
    cases e
    have hz := hok.2 i hil
    have hr := rAt_le (a := a) hok i (by omega)
    have hr1 : rAt a ls (i + 1) = rAt a ls i + 2 ^ ls.getD i 0 := rfl
    have hget := mkR_get a ls i hil
    have hp := pow20 hz
    have hg0 := rget0 sp (by rw [mkR_length]; exact hil) hget
    have hg1 := rget1 sp (by rw [mkR_length]; exact hil) hget
    generalize ls.getD i 0 = z at *
    have hnext : (v < rAt a ls i ∨ rAt a ls (i + 1) ≤ v) → ∀ j, j < i + 1 → v < rAt a ls j ∨ rAt a ls (j + 1) ≤ v := by
      intro h j hj
      by_cases hji : j = i
      · subst hji; exact h
      · exact hno j (by omega)
    refine W_region_still Tb.mixed (by kernel_rfl) ?_
    repeat' (first | (refine isS ?_; first | refine ss (Pc rfl) ?_ | refine ss (Pa rfl (by omega) (by omega)) ?_ | (refine sb rfl ?_ ?_ <;> intro hq <;> try (exfalso; omega)) | refine ss (Pi rfl (by omega)) ?_ | refine ss (Pl rfl) ?_ | refine ss (Px rfl rfl) ?_ | refine ss (Pj rfl (by omega) (by omega)) ?_ | refine ss (Pk rfl (by omega) (by omega)) ?_ | refine ss (Pf rfl) ?_ | refine ss (Pv rfl (by omega) (by omega)) ?_ | refine ss (Pn rfl) ?_ | refine ss (Pm rfl) ?_ | refine OS_nil ?_))
    refine OS_pure (P_loadAt (o := 0) (n := i * 2 + 0) Tb.p40 rfl (by omega) hm hg0) trivial rfl ?_
    repeat' (first | (refine isS ?_; first | refine ss (Pc rfl) ?_ | refine ss (Pa rfl (by omega) (by omega)) ?_ | (refine sb rfl ?_ ?_ <;> intro hq <;> try (exfalso; omega)) | refine ss (Pi rfl (by omega)) ?_ | refine ss (Pl rfl) ?_ | refine ss (Px rfl rfl) ?_ | refine ss (Pj rfl (by omega) (by omega)) ?_ | refine ss (Pk rfl (by omega) (by omega)) ?_ | refine ss (Pf rfl) ?_ | refine ss (Pv rfl (by omega) (by omega)) ?_ | refine ss (Pn rfl) ?_ | refine ss (Pm rfl) ?_ | refine OS_nil ?_))
    · refine OS_pure (P_loadAt (o := 0) (n := i * 2 + 0) Tb.p40 rfl (by omega) hm hg0) ⟨_, rfl, rfl⟩ rfl ?_
      repeat' (first | (refine isS ?_; first | refine ss (Pc rfl) ?_ | refine ss (Pa rfl (by omega) (by omega)) ?_ | (refine sb rfl ?_ ?_ <;> intro hq <;> try (exfalso; omega)) | refine ss (Pi rfl (by omega)) ?_ | refine ss (Pl rfl) ?_ | refine ss (Px rfl rfl) ?_ | refine ss (Pj rfl (by omega) (by omega)) ?_ | refine ss (Pk rfl (by omega) (by omega)) ?_ | refine ss (Pf rfl) ?_ | refine ss (Pv rfl (by omega) (by omega)) ?_ | refine ss (Pn rfl) ?_ | refine ss (Pm rfl) ?_ | refine OS_nil ?_))
      refine OS_pure (P_loadAt (o := 0) (n := i * 2 + 1) Tb.p40 rfl (by omega) hm hg1) ⟨_, rfl, rfl⟩ rfl ?_
      refine OS_pure (P_shlE (p := 1) (q := z) (r := 2 ^ z) rfl rfl rfl (by rw [Nat.one_mul]; exact Nat.mod_eq_of_lt (by simp only [IntKind.bits]; omega))) ⟨_, rfl, rfl⟩ rfl ?_
      repeat' (first | (refine isS ?_; first | refine ss (Pc rfl) ?_ | refine ss (Pa rfl (by omega) (by omega)) ?_ | (refine sb rfl ?_ ?_ <;> intro hq <;> try (exfalso; omega)) | refine ss (Pi rfl (by omega)) ?_ | refine ss (Pl rfl) ?_ | refine ss (Px rfl rfl) ?_ | refine ss (Pj rfl (by omega) (by omega)) ?_ | refine ss (Pk rfl (by omega) (by omega)) ?_ | refine ss (Pf rfl) ?_ | refine ss (Pv rfl (by omega) (by omega)) ?_ | refine ss (Pn rfl) ?_ | refine ss (Pm rfl) ?_ | refine OS_nil ?_))
      · repeat' (first | (refine isO ?_; first | refine oo (Pc rfl) ?_ | refine oo (Pa rfl (by omega) (by omega)) ?_ | (refine ob rfl ?_ ?_ <;> intro hq <;> try (exfalso; omega)) | refine oo (Pi rfl (by omega)) ?_ | refine oo (Pl rfl) ?_ | refine oo (Px rfl rfl) ?_ | refine oo (Pj rfl (by omega) (by omega)) ?_ | refine oo (Pk rfl (by omega) (by omega)) ?_ | refine oo (Pf rfl) ?_ | refine oo (Pv rfl (by omega) (by omega)) ?_ | refine oo (Pn rfl) ?_ | refine oo (Pm rfl) ?_ | refine os rfl rfl ?_ | refine ot rfl (by omega) ?_ | refine O_nil ?_) | refine wo rfl ?_ | refine wc rfl ?_ | refine wg rfl ?_ | refine go rfl ?_ | refine gc rfl ?_ | refine gg rfl ?_)
        exact G_fin ⟨_, rfl, .inl ⟨i, hil, by omega, by omega, rfl⟩, .rfl⟩
      · repeat' (first | (refine isO ?_; first | refine oo (Pc rfl) ?_ | refine oo (Pa rfl (by omega) (by omega)) ?_ | (refine ob rfl ?_ ?_ <;> intro hq <;> try (exfalso; omega)) | refine oo (Pi rfl (by omega)) ?_ | refine oo (Pl rfl) ?_ | refine oo (Px rfl rfl) ?_ | refine oo (Pj rfl (by omega) (by omega)) ?_ | refine oo (Pk rfl (by omega) (by omega)) ?_ | refine oo (Pf rfl) ?_ | refine oo (Pv rfl (by omega) (by omega)) ?_ | refine oo (Pn rfl) ?_ | refine oo (Pm rfl) ?_ | refine os rfl rfl ?_ | refine ot rfl (by omega) ?_ | refine O_nil ?_) | refine wo rfl ?_ | refine wc rfl ?_ | refine wg rfl ?_ | refine go rfl ?_ | refine gc rfl ?_ | refine gg rfl ?_)
        exact G_stop ⟨i + 1, ⟨by omega, hnext (by omega)⟩, by omega, ⟨rfl, rfl, rfl, trivial⟩, .rfl⟩
    · repeat' (first | (refine isO ?_; first | refine oo (Pc rfl) ?_ | refine oo (Pa rfl (by omega) (by omega)) ?_ | (refine ob rfl ?_ ?_ <;> intro hq <;> try (exfalso; omega)) | refine oo (Pi rfl (by omega)) ?_ | refine oo (Pl rfl) ?_ | refine oo (Px rfl rfl) ?_ | refine oo (Pj rfl (by omega) (by omega)) ?_ | refine oo (Pk rfl (by omega) (by omega)) ?_ | refine oo (Pf rfl) ?_ | refine oo (Pv rfl (by omega) (by omega)) ?_ | refine oo (Pn rfl) ?_ | refine oo (Pm rfl) ?_ | refine os rfl rfl ?_ | refine ot rfl (by omega) ?_ | refine O_nil ?_) | refine wo rfl ?_ | refine wc rfl ?_ | refine wg rfl ?_ | refine go rfl ?_ | refine gc rfl ?_ | refine gg rfl ?_)
      exact G_stop ⟨i + 1, ⟨by omega, hnext (by omega)⟩, by omega, ⟨rfl, rfl, rfl, trivial⟩, .rfl⟩
  · exact G_fin ⟨_, rfl, .inr ⟨fun j hj => hno j (by omega), rfl⟩, .rfl⟩
end Go.Proofs.Ytjkpfliaflmppaa.Pc

namespace Go.Proofs.Ytjkpfliaflmppaa.Pc
open Go Go.RowKit Go.Proofs.Ytjkpfliaflmppaa.Vm

theorem rAt_find (a x : Nat) (ls : List Nat) : ∀ n, a ≤ x → x < rAt a ls n → ∃ i, i < n ∧ rAt a ls i ≤ x ∧ x < rAt a ls (i + 1)
  | 0, h1, h2 => by simp [rAt] at h2; omega
  | n + 1, h1, h2 => by
    by_cases h : x < rAt a ls n
    · obtain ⟨i, k1, k2⟩ := rAt_find a x ls n h1 h
      exact ⟨i, by omega, k2⟩
    · exact ⟨n, by omega, by omega, h2⟩
theorem rAt_uniq {a x i j : Nat} {ls : List Nat} (h1 : rAt a ls i ≤ x) (h2 : x < rAt a ls (i + 1)) (k1 : rAt a ls j ≤ x) (k2 : x < rAt a ls (j + 1)) : i = j := by
  rcases Nat.lt_trichotomy i j with h | h | h
  · have := rAt_mono (a := a) (ls := ls) (i + 1) j h; omega
  · exact h
  · have := rAt_mono (a := a) (ls := ls) (j + 1) i h; omega
theorem rAt_ge (a : Nat) (ls : List Nat) (i : Nat) : a ≤ rAt a ls i := rAt_mono (a := a) (ls := ls) 0 i (Nat.zero_le _)

/-- The table tells the ranges below j. -/
def Lt (a : Nat) (ls : List Nat) (lut : List Int) (j : Nat) : Prop := lut.length = 1024 ∧ ∀ k, k < 1024 → ∀ i, i < j → rAt a ls i ≤ a + k → a + k < rAt a ls (i + 1) → lut.getD k 0 = i

theorem ints_one' {k : IntKind} (l : List Int) : ∀ v ∈ ints k l, v.oneCell' = true := by
  intro v hv
  simp only [ints, List.mem_map] at hv
  obtain ⟨z, _, rfl⟩ := hv
  rfl

abbrev Ra (rb : Nat) (s : Value) : Sg := ⟨true, rb, 0, [s]⟩
abbrev Rb (rb : Nat) (lut : List Int) : Sg := ⟨true, rb, 1, ints .u32 lut⟩
abbrev Rc (rb a : Nat) : Sg := ⟨true, rb, 1025, [.int .u64 a]⟩

def cells109 (s : Value) (a : Nat) : List Value := [s] ++ (ints .u32 (List.replicate 1024 0) ++ [.int .u64 a])
theorem build109 (ad : Option Addr) (n c : Nat) (a : Nat) (w : World) : (Instr.build 109 [(0, .slice ad n c), (2, .int .u64 a)].toArray).run Try.prog w = .ok (.agg (cells109 (.slice ad n c) a).toArray) w := by kernel_rfl
theorem zero109L : zeroOf Try.prog 109 = some (cells109 (.slice none 0 0) 0) := by kernel_rfl

theorem getD_wr {l : List Int} {p v : Int} {k : Nat} (hl : p.toNat < l.length) : (wr l p v).getD k 0 = if k = p.toNat then v else l.getD k 0 := by
  unfold wr
  rw [List.getD_eq_getElem?_getD, List.getD_eq_getElem?_getD, List.getElem?_set]
  by_cases h : k = p.toNat
  · subst h; simp [hl]
  · rw [if_neg (fun e => h e.symm), if_neg h]

theorem init53_c (rb a : Nat) (s : Value) (ls : List Nat) (cs : List Value) (M : Mem) (hcs : cs.length = 1026) (ha : a ≤ 1048576) (hs : Rs s (mkR a ls) M) (hok : OkN ls) (h0 : 0 < ls.length) :
    HC Try.prog 53 #[.pointer (some ⟨rb, 0, none⟩), s] (⟨true, rb, 0, cs⟩ :: M) (fun _ M' => ∃ lut, Lt a ls lut ls.length ∧ Rk M' (Ra rb s :: Rb rb lut :: Rc rb a :: M)) := by
  obtain ⟨b, own, sp, cap, rfl, hc, hm⟩ := hs.at (by rw [mkR_length]; exact h0)
  have h30 := hok.1
  have hl0 : 0 < (mkR a ls).length := by rw [mkR_length]; exact h0
  have hb0 : ((mkR a ls).getD 0 Rg.zero).base = a := by rw [mkR_get a ls 0 h0]; rfl
  rw [mkR_length] at hs ⊢
  refine HC_of_W (fn := Try.f53) Try.func53 rfl rfl rfl rfl ?_
  repeat' (first | (refine isO ?_; first | refine oo (Pc rfl) ?_ | refine oo (Pa rfl (by omega) (by omega)) ?_ | (refine ob rfl ?_ ?_ <;> intro hq <;> try (exfalso; omega)) | refine oo (Pi rfl (by omega)) ?_ | refine oo (Pl rfl) ?_ | refine oo (Px rfl rfl) ?_ | refine oo (Pj rfl (by omega) (by omega)) ?_ | refine oo (Pk rfl (by omega) (by omega)) ?_ | refine oo (Pf rfl) ?_ | refine oo (Pv rfl (by omega) (by omega)) ?_ | refine oo (Pn rfl) ?_ | refine oo (Pm rfl) ?_ | refine os rfl rfl ?_ | refine ot rfl (by omega) ?_ | refine O_nil ?_) | refine wo rfl ?_ | refine wc rfl ?_ | refine wg rfl ?_ | refine go rfl ?_ | refine gc rfl ?_ | refine gg rfl ?_)
  refine O_call rfl rfl Tb.k97 trivial rfl (valid97_c a _ ls _ ha (hs.mono fun x hx => .tail _ hx) hok h0) ?_
  rintro v M' ⟨rfl, hrk⟩
  refine O_weak hrk ?_
  clear hrk
  repeat' (first | (refine isO ?_; first | refine oo (Pc rfl) ?_ | refine oo (Pa rfl (by omega) (by omega)) ?_ | (refine ob rfl ?_ ?_ <;> intro hq <;> try (exfalso; omega)) | refine oo (Pi rfl (by omega)) ?_ | refine oo (Pl rfl) ?_ | refine oo (Px rfl rfl) ?_ | refine oo (Pj rfl (by omega) (by omega)) ?_ | refine oo (Pk rfl (by omega) (by omega)) ?_ | refine oo (Pf rfl) ?_ | refine oo (Pv rfl (by omega) (by omega)) ?_ | refine oo (Pn rfl) ?_ | refine oo (Pm rfl) ?_ | refine os rfl rfl ?_ | refine ot rfl (by omega) ?_ | refine O_nil ?_) | refine wo rfl ?_ | refine wc rfl ?_ | refine wg rfl ?_ | refine go rfl ?_ | refine gc rfl ?_ | refine gg rfl ?_)
  refine O_callP rfl rfl Tb.k82 trivial rfl (base82_c _ _ _ (hs.mono fun x hx => .tail _ hx) hl0) ?_
  rw [hb0]
  repeat' (first | (refine isO ?_; first | refine oo (Pc rfl) ?_ | refine oo (Pa rfl (by omega) (by omega)) ?_ | (refine ob rfl ?_ ?_ <;> intro hq <;> try (exfalso; omega)) | refine oo (Pi rfl (by omega)) ?_ | refine oo (Pl rfl) ?_ | refine oo (Px rfl rfl) ?_ | refine oo (Pj rfl (by omega) (by omega)) ?_ | refine oo (Pk rfl (by omega) (by omega)) ?_ | refine oo (Pf rfl) ?_ | refine oo (Pv rfl (by omega) (by omega)) ?_ | refine oo (Pn rfl) ?_ | refine oo (Pm rfl) ?_ | refine os rfl rfl ?_ | refine ot rfl (by omega) ?_ | refine O_nil ?_) | refine wo rfl ?_ | refine wc rfl ?_ | refine wg rfl ?_ | refine go rfl ?_ | refine gc rfl ?_ | refine gg rfl ?_)
  refine O_pure (P_build rfl (build109 _ _ _ _)) trivial rfl ?_
  repeat' (first | (refine isO ?_; first | refine oo (Pc rfl) ?_ | refine oo (Pa rfl (by omega) (by omega)) ?_ | (refine ob rfl ?_ ?_ <;> intro hq <;> try (exfalso; omega)) | refine oo (Pi rfl (by omega)) ?_ | refine oo (Pl rfl) ?_ | refine oo (Px rfl rfl) ?_ | refine oo (Pj rfl (by omega) (by omega)) ?_ | refine oo (Pk rfl (by omega) (by omega)) ?_ | refine oo (Pf rfl) ?_ | refine oo (Pv rfl (by omega) (by omega)) ?_ | refine oo (Pn rfl) ?_ | refine oo (Pm rfl) ?_ | refine os rfl rfl ?_ | refine ot rfl (by omega) ?_ | refine O_nil ?_) | refine wo rfl ?_ | refine wc rfl ?_ | refine wg rfl ?_ | refine go rfl ?_ | refine gc rfl ?_ | refine gg rfl ?_)
  refine O_storeAgg0 Tb.c109 (by decide) rfl rfl (by simp only [cells109, List.length_append, ints_length, List.length_replicate, List.length_cons, List.length_nil]) ?_ trivial .head hcs ?_
  · intro v hv
    unfold cells109 at hv
    rcases List.mem_append.1 hv with h | h
    · simp at h; subst h; rfl
    · rcases List.mem_append.1 h with h | h
      · exact ints_one' _ _ h
      · simp at h; subst h; rfl
  refine O_split (o2 := 1) rfl rfl ?_
  refine O_weak (M' := ⟨true, rb, 1, ints .u32 (List.replicate 1024 0) ++ [.int .u64 a]⟩ :: Ra rb (.slice (some ⟨b, 0, none⟩) ls.length cap) :: M) (.perm (.swap _ _ _)) ?_
  refine O_split (o2 := 1025) rfl (by rw [ints_length, List.length_replicate]) ?_
  refine O_weak (M' := Ra rb (.slice (some ⟨b, 0, none⟩) ls.length cap) :: Rb rb (List.replicate 1024 0) :: Rc rb a :: M) (by repeat (first | exact .rfl | exact .nil | (apply Rk.cons; (· exact TakeI.out)) | refine .drop ?_)) ?_
  repeat' (first | (refine isO ?_; first | refine oo (Pc rfl) ?_ | refine oo (Pa rfl (by omega) (by omega)) ?_ | (refine ob rfl ?_ ?_ <;> intro hq <;> try (exfalso; omega)) | refine oo (Pi rfl (by omega)) ?_ | refine oo (Pl rfl) ?_ | refine oo (Px rfl rfl) ?_ | refine oo (Pj rfl (by omega) (by omega)) ?_ | refine oo (Pk rfl (by omega) (by omega)) ?_ | refine oo (Pf rfl) ?_ | refine oo (Pv rfl (by omega) (by omega)) ?_ | refine oo (Pn rfl) ?_ | refine oo (Pm rfl) ?_ | refine os rfl rfl ?_ | refine ot rfl (by omega) ?_ | refine O_nil ?_) | refine wo rfl ?_ | refine wc rfl ?_ | refine wg rfl ?_ | refine go rfl ?_ | refine gc rfl ?_ | refine gg rfl ?_)
  refine W_loop (α := Nat × List Int) (fun x => [(0, .pointer (some ⟨rb, 0, none⟩)), (20, .slice (some ⟨b, 0, none⟩) ls.length cap), (21, .int .i64 ls.length), (22, .int .i64 x.1)])
    (fun x => Ra rb (.slice (some ⟨b, 0, none⟩) ls.length cap) :: Rb rb x.2 :: Rc rb a :: M) (fun x => x.1 ≤ ls.length ∧ Lt a ls x.2 x.1) (fun x => ls.length - x.1)
    (0, List.replicate 1024 0) ⟨by omega, List.length_replicate, fun k _ i hi => by omega⟩ ⟨rfl, rfl, rfl, rfl, trivial⟩ .rfl ?_
  rintro ⟨j, lut⟩ ⟨hj, hlt⟩
  dsimp only at hj hlt ⊢
  repeat' (first | (refine isO ?_; first | refine oo (Pc rfl) ?_ | refine oo (Pa rfl (by omega) (by omega)) ?_ | (refine ob rfl ?_ ?_ <;> intro hq <;> try (exfalso; omega)) | refine oo (Pi rfl (by omega)) ?_ | refine oo (Pl rfl) ?_ | refine oo (Px rfl rfl) ?_ | refine oo (Pj rfl (by omega) (by omega)) ?_ | refine oo (Pk rfl (by omega) (by omega)) ?_ | refine oo (Pf rfl) ?_ | refine oo (Pv rfl (by omega) (by omega)) ?_ | refine oo (Pn rfl) ?_ | refine oo (Pm rfl) ?_ | refine os rfl rfl ?_ | refine ot rfl (by omega) ?_ | refine O_nil ?_) | refine wo rfl ?_ | refine wc rfl ?_ | refine wg rfl ?_ | refine go rfl ?_ | refine gc rfl ?_ | refine gg rfl ?_)
  · have hjl : j < ls.length := by omega
    have hz := hok.2 j hjl
    have hr := rAt_le (a := a) hok j (by omega)
    have hge := rAt_ge a ls j
    have hr1 : rAt a ls (j + 1) = rAt a ls j + 2 ^ ls.getD j 0 := rfl
    have hget := mkR_get a ls j hjl
    have hp := pow20 hz
    have hmono : ∀ i, j ≤ i → rAt a ls j ≤ rAt a ls i := fun i h => rAt_mono j i h
    generalize hzz : ls.getD j 0 = z at *
    refine O_pure (P_loadAggAt (o := 0) (i := j * 2) (cs := [.int .u32 (rAt a ls j : Nat), .int .u32 (z : Nat)]) Tb.a141 Tb.c141 (by decide) rfl (by omega) (.tail _ (.tail _ (.tail _ hm))) (by rw [List.length_append, rangesV_length, mkR_length]; omega)
      (rangesV_block _ sp j (by rw [mkR_length]; exact hjl) hget)) trivial rfl ?_
    refine O_alloc zero141 trivial rfl fun bx => ?_
    repeat' (first | (refine isO ?_; first | refine oo (Pc rfl) ?_ | refine oo (Pa rfl (by omega) (by omega)) ?_ | (refine ob rfl ?_ ?_ <;> intro hq <;> try (exfalso; omega)) | refine oo (Pi rfl (by omega)) ?_ | refine oo (Pl rfl) ?_ | refine oo (Px rfl rfl) ?_ | refine oo (Pj rfl (by omega) (by omega)) ?_ | refine oo (Pk rfl (by omega) (by omega)) ?_ | refine oo (Pf rfl) ?_ | refine oo (Pv rfl (by omega) (by omega)) ?_ | refine oo (Pn rfl) ?_ | refine oo (Pm rfl) ?_ | refine os rfl rfl ?_ | refine ot rfl (by omega) ?_ | refine O_nil ?_) | refine wo rfl ?_ | refine wc rfl ?_ | refine wg rfl ?_ | refine go rfl ?_ | refine gc rfl ?_ | refine gg rfl ?_)
    refine O_storeAgg0 Tb.c141 (by decide) rfl rfl rfl (lit2_one _ _) trivial .head rfl ?_
    repeat' (first | (refine isO ?_; first | refine oo (Pc rfl) ?_ | refine oo (Pa rfl (by omega) (by omega)) ?_ | (refine ob rfl ?_ ?_ <;> intro hq <;> try (exfalso; omega)) | refine oo (Pi rfl (by omega)) ?_ | refine oo (Pl rfl) ?_ | refine oo (Px rfl rfl) ?_ | refine oo (Pj rfl (by omega) (by omega)) ?_ | refine oo (Pk rfl (by omega) (by omega)) ?_ | refine oo (Pf rfl) ?_ | refine oo (Pv rfl (by omega) (by omega)) ?_ | refine oo (Pn rfl) ?_ | refine oo (Pm rfl) ?_ | refine os rfl rfl ?_ | refine ot rfl (by omega) ?_ | refine O_nil ?_) | refine wo rfl ?_ | refine wc rfl ?_ | refine wg rfl ?_ | refine go rfl ?_ | refine gc rfl ?_ | refine gg rfl ?_)
    refine W_region_still Tb.mixed (by kernel_rfl) ?_
    repeat' (first | (refine isS ?_; first | refine ss (Pc rfl) ?_ | refine ss (Pa rfl (by omega) (by omega)) ?_ | (refine sb rfl ?_ ?_ <;> intro hq <;> try (exfalso; omega)) | refine ss (Pi rfl (by omega)) ?_ | refine ss (Pl rfl) ?_ | refine ss (Px rfl rfl) ?_ | refine ss (Pj rfl (by omega) (by omega)) ?_ | refine ss (Pk rfl (by omega) (by omega)) ?_ | refine ss (Pf rfl) ?_ | refine ss (Pv rfl (by omega) (by omega)) ?_ | refine ss (Pn rfl) ?_ | refine ss (Pm rfl) ?_ | refine OS_nil ?_))
    repeat' (first | (refine isO ?_; first | refine oo (Pc rfl) ?_ | refine oo (Pa rfl (by omega) (by omega)) ?_ | (refine ob rfl ?_ ?_ <;> intro hq <;> try (exfalso; omega)) | refine oo (Pi rfl (by omega)) ?_ | refine oo (Pl rfl) ?_ | refine oo (Px rfl rfl) ?_ | refine oo (Pj rfl (by omega) (by omega)) ?_ | refine oo (Pk rfl (by omega) (by omega)) ?_ | refine oo (Pf rfl) ?_ | refine oo (Pv rfl (by omega) (by omega)) ?_ | refine oo (Pn rfl) ?_ | refine oo (Pm rfl) ?_ | refine os rfl rfl ?_ | refine ot rfl (by omega) ?_ | refine O_nil ?_) | refine wo rfl ?_ | refine wc rfl ?_ | refine wg rfl ?_ | refine go rfl ?_ | refine gc rfl ?_ | refine gg rfl ?_)
    refine W_region_quiet Tb.mixed [[], [0], [1], [], [3], [4], [5], [6], [2, 7], [8]] (by kernel_rfl) (by kernel_rfl) ?_
    refine QS_pure (P_loadAggAt (o := 0) (i := 0) (cs := [.int .u32 (rAt a ls j : Nat), .int .u32 (z : Nat)]) Tb.a141 Tb.c141 (by decide) rfl rfl (.head _) (Nat.le_refl _) rfl) trivial rfl ?_
    refine QS_call rfl rfl Tb.k98 trivial rfl (end98_c (rAt a ls j) z _ (by omega)) ?_
    repeat' (first | (refine isQS ?_; first | refine qq (Pc rfl) ?_ | refine qq (Pa rfl (by omega) (by omega)) ?_ | (refine qb rfl ?_ ?_ <;> intro hq <;> try (exfalso; omega)) | refine qq (Pi rfl (by omega)) ?_ | refine qq (Pl rfl) ?_ | refine qq (Px rfl rfl) ?_ | refine qq (Pj rfl (by omega) (by omega)) ?_ | refine qq (Pk rfl (by omega) (by omega)) ?_ | refine qq (Pf rfl) ?_ | refine qq (Pv rfl (by omega) (by omega)) ?_ | refine qq (Pn rfl) ?_ | refine qq (Pm rfl) ?_ | (refine QS_nil ⟨rfl, ?_⟩; simp only [List.nil_append, List.cons_append, somes])))
    rw [← hr1]
    repeat' (first | (refine isO ?_; first | refine oo (Pc rfl) ?_ | refine oo (Pa rfl (by omega) (by omega)) ?_ | (refine ob rfl ?_ ?_ <;> intro hq <;> try (exfalso; omega)) | refine oo (Pi rfl (by omega)) ?_ | refine oo (Pl rfl) ?_ | refine oo (Px rfl rfl) ?_ | refine oo (Pj rfl (by omega) (by omega)) ?_ | refine oo (Pk rfl (by omega) (by omega)) ?_ | refine oo (Pf rfl) ?_ | refine oo (Pv rfl (by omega) (by omega)) ?_ | refine oo (Pn rfl) ?_ | refine oo (Pm rfl) ?_ | refine os rfl rfl ?_ | refine ot rfl (by omega) ?_ | refine O_nil ?_) | refine wo rfl ?_ | refine wc rfl ?_ | refine wg rfl ?_ | refine go rfl ?_ | refine gc rfl ?_ | refine gg rfl ?_)
    · refine G_fin ⟨_, rfl, lut, ⟨hlt.1, fun k hk i hi k1 k2 => ?_⟩, .drop .rfl⟩
      by_cases hij : i < j
      · exact hlt.2 k hk i hij k1 k2
      · have := hmono i (by omega); omega
    · obtain ⟨en, hen, he1, he2, he3⟩ : ∃ en : Int, (1024 : Int) = en ∧ en ≤ 1024 ∧ en ≤ ((rAt a ls (j + 1) : Nat) : Int) - a ∧ (en = 1024 ∨ en = ((rAt a ls (j + 1) : Nat) : Int) - a) := ⟨_, rfl, by omega, by omega, .inl rfl⟩
      (refine W_loop (α := Nat × List Int) (fun x => [(0, .pointer (some ⟨rb, 0, none⟩)), (4, .int .i64 j), (7, .int .i64 en), (8, .int .i64 x.1), (20, .slice (some ⟨b, 0, none⟩) ls.length cap), (21, .int .i64 ls.length), (22, .int .i64 j)]) (fun x => Ra rb (.slice (some ⟨b, 0, none⟩) ls.length cap) :: Rb rb x.2 :: Rc rb a :: M) (fun x => rAt a ls j ≤ a + x.1 ∧ (x.1 : Int) ≤ 1024 ∧ (x.1 : Int) ≤ en ∧ Lt a ls x.2 j ∧ ∀ k, rAt a ls j ≤ a + k → k < x.1 → x.2.getD k 0 = j) (fun x => 1024 - x.1) (rAt a ls j - a, lut) ⟨by omega, by omega, by omega, hlt, fun k k1 k2 => absurd k2 (by omega)⟩ ⟨rfl, rfl, congrArg (fun q => some (Value.int .i64 q)) hen, congrArg (fun q => some (Value.int .i64 q)) (by omega), rfl, rfl, rfl, trivial⟩ (.drop .rfl) ?_; rintro ⟨p, l2⟩ ⟨i1, i2, i5, i3, i4⟩; dsimp only at i1 i2 i3 i4 i5 ⊢; (repeat' (first | (refine isO ?_; first | refine oo (Pc rfl) ?_ | refine oo (Pa rfl (by omega) (by omega)) ?_ | (refine ob rfl ?_ ?_ <;> intro hq <;> try (exfalso; omega)) | refine oo (Pi rfl (by omega)) ?_ | refine oo (Pl rfl) ?_ | refine oo (Px rfl rfl) ?_ | refine oo (Pj rfl (by omega) (by omega)) ?_ | refine oo (Pk rfl (by omega) (by omega)) ?_ | refine oo (Pf rfl) ?_ | refine oo (Pv rfl (by omega) (by omega)) ?_ | refine oo (Pn rfl) ?_ | refine oo (Pm rfl) ?_ | refine os rfl rfl ?_ | refine ot rfl (by omega) ?_ | refine O_nil ?_) | refine wo rfl ?_ | refine wc rfl ?_ | refine wg rfl ?_ | refine go rfl ?_ | refine gc rfl ?_ | refine gg rfl ?_)); (· have hl2 : (p : Int).toNat < l2.length := (by rw [i3.1]; omega); refine O_storei (o := 1) (z := (p : Int)) (l := l2) (v := (j : Int)) Tb.c40 rfl rfl trivial (.tail .head) hl2 ?_; (repeat' (first | (refine isO ?_; first | refine oo (Pc rfl) ?_ | refine oo (Pa rfl (by omega) (by omega)) ?_ | (refine ob rfl ?_ ?_ <;> intro hq <;> try (exfalso; omega)) | refine oo (Pi rfl (by omega)) ?_ | refine oo (Pl rfl) ?_ | refine oo (Px rfl rfl) ?_ | refine oo (Pj rfl (by omega) (by omega)) ?_ | refine oo (Pk rfl (by omega) (by omega)) ?_ | refine oo (Pf rfl) ?_ | refine oo (Pv rfl (by omega) (by omega)) ?_ | refine oo (Pn rfl) ?_ | refine oo (Pm rfl) ?_ | refine os rfl rfl ?_ | refine ot rfl (by omega) ?_ | refine O_nil ?_) | refine wo rfl ?_ | refine wc rfl ?_ | refine wg rfl ?_ | refine go rfl ?_ | refine gc rfl ?_ | refine gg rfl ?_)); refine G_stop ⟨(p + 1, wr l2 p j), ⟨by (dsimp only; omega), by (dsimp only; omega), by (dsimp only; omega), ⟨by rw [wr_length]; exact i3.1, fun k hk i hi k1 k2 => ?_⟩, fun k k1 k2 => ?_⟩, by (dsimp only; omega), ⟨rfl, rfl, rfl, rfl, rfl, rfl, rfl, trivial⟩, by (dsimp only; (repeat (first | exact .rfl | exact .nil | (apply Rk.cons; (· exact TakeI.out)) | refine .drop ?_)))⟩; (· rw [getD_wr hl2]; split; (· rename_i hkp; exact absurd (rAt_mono (a := a) (ls := ls) (i + 1) j hi) (by omega)); (· exact i3.2 k hk i hi k1 k2)); (· rw [getD_wr hl2]; split; (· rfl); (· rename_i hkp; exact i4 k k1 (by dsimp only at k2; omega)))); (· refine G_stop ⟨(j + 1, l2), ⟨hjl, i3.1, fun k hk i hi k1 k2 => ?_⟩, by (dsimp only; omega), ⟨rfl, rfl, rfl, rfl, trivial⟩, .rfl⟩; by_cases hij : i < j; (· exact i3.2 k hk i hij k1 k2); (· obtain rfl : i = j := (by omega); exact i4 k k1 (by omega))))
    · obtain ⟨en, hen, he1, he2, he3⟩ : ∃ en : Int, ((rAt a ls (j + 1) : Nat) : Int) - a = en ∧ en ≤ 1024 ∧ en ≤ ((rAt a ls (j + 1) : Nat) : Int) - a ∧ (en = 1024 ∨ en = ((rAt a ls (j + 1) : Nat) : Int) - a) := ⟨_, rfl, by omega, by omega, .inr rfl⟩
      (refine W_loop (α := Nat × List Int) (fun x => [(0, .pointer (some ⟨rb, 0, none⟩)), (4, .int .i64 j), (7, .int .i64 en), (8, .int .i64 x.1), (20, .slice (some ⟨b, 0, none⟩) ls.length cap), (21, .int .i64 ls.length), (22, .int .i64 j)]) (fun x => Ra rb (.slice (some ⟨b, 0, none⟩) ls.length cap) :: Rb rb x.2 :: Rc rb a :: M) (fun x => rAt a ls j ≤ a + x.1 ∧ (x.1 : Int) ≤ 1024 ∧ (x.1 : Int) ≤ en ∧ Lt a ls x.2 j ∧ ∀ k, rAt a ls j ≤ a + k → k < x.1 → x.2.getD k 0 = j) (fun x => 1024 - x.1) (rAt a ls j - a, lut) ⟨by omega, by omega, by omega, hlt, fun k k1 k2 => absurd k2 (by omega)⟩ ⟨rfl, rfl, congrArg (fun q => some (Value.int .i64 q)) hen, congrArg (fun q => some (Value.int .i64 q)) (by omega), rfl, rfl, rfl, trivial⟩ (.drop .rfl) ?_; rintro ⟨p, l2⟩ ⟨i1, i2, i5, i3, i4⟩; dsimp only at i1 i2 i3 i4 i5 ⊢; (repeat' (first | (refine isO ?_; first | refine oo (Pc rfl) ?_ | refine oo (Pa rfl (by omega) (by omega)) ?_ | (refine ob rfl ?_ ?_ <;> intro hq <;> try (exfalso; omega)) | refine oo (Pi rfl (by omega)) ?_ | refine oo (Pl rfl) ?_ | refine oo (Px rfl rfl) ?_ | refine oo (Pj rfl (by omega) (by omega)) ?_ | refine oo (Pk rfl (by omega) (by omega)) ?_ | refine oo (Pf rfl) ?_ | refine oo (Pv rfl (by omega) (by omega)) ?_ | refine oo (Pn rfl) ?_ | refine oo (Pm rfl) ?_ | refine os rfl rfl ?_ | refine ot rfl (by omega) ?_ | refine O_nil ?_) | refine wo rfl ?_ | refine wc rfl ?_ | refine wg rfl ?_ | refine go rfl ?_ | refine gc rfl ?_ | refine gg rfl ?_)); (· have hl2 : (p : Int).toNat < l2.length := (by rw [i3.1]; omega); refine O_storei (o := 1) (z := (p : Int)) (l := l2) (v := (j : Int)) Tb.c40 rfl rfl trivial (.tail .head) hl2 ?_; (repeat' (first | (refine isO ?_; first | refine oo (Pc rfl) ?_ | refine oo (Pa rfl (by omega) (by omega)) ?_ | (refine ob rfl ?_ ?_ <;> intro hq <;> try (exfalso; omega)) | refine oo (Pi rfl (by omega)) ?_ | refine oo (Pl rfl) ?_ | refine oo (Px rfl rfl) ?_ | refine oo (Pj rfl (by omega) (by omega)) ?_ | refine oo (Pk rfl (by omega) (by omega)) ?_ | refine oo (Pf rfl) ?_ | refine oo (Pv rfl (by omega) (by omega)) ?_ | refine oo (Pn rfl) ?_ | refine oo (Pm rfl) ?_ | refine os rfl rfl ?_ | refine ot rfl (by omega) ?_ | refine O_nil ?_) | refine wo rfl ?_ | refine wc rfl ?_ | refine wg rfl ?_ | refine go rfl ?_ | refine gc rfl ?_ | refine gg rfl ?_)); refine G_stop ⟨(p + 1, wr l2 p j), ⟨by (dsimp only; omega), by (dsimp only; omega), by (dsimp only; omega), ⟨by rw [wr_length]; exact i3.1, fun k hk i hi k1 k2 => ?_⟩, fun k k1 k2 => ?_⟩, by (dsimp only; omega), ⟨rfl, rfl, rfl, rfl, rfl, rfl, rfl, trivial⟩, by (dsimp only; (repeat (first | exact .rfl | exact .nil | (apply Rk.cons; (· exact TakeI.out)) | refine .drop ?_)))⟩; (· rw [getD_wr hl2]; split; (· rename_i hkp; exact absurd (rAt_mono (a := a) (ls := ls) (i + 1) j hi) (by omega)); (· exact i3.2 k hk i hi k1 k2)); (· rw [getD_wr hl2]; split; (· rfl); (· rename_i hkp; exact i4 k k1 (by dsimp only at k2; omega)))); (· refine G_stop ⟨(j + 1, l2), ⟨hjl, i3.1, fun k hk i hi k1 k2 => ?_⟩, by (dsimp only; omega), ⟨rfl, rfl, rfl, rfl, trivial⟩, .rfl⟩; by_cases hij : i < j; (· exact i3.2 k hk i hij k1 k2); (· obtain rfl : i = j := (by omega); exact i4 k k1 (by omega))))
  · obtain rfl : j = ls.length := by omega
    exact G_fin ⟨_, rfl, lut, hlt, .rfl⟩
end Go.Proofs.Ytjkpfliaflmppaa.Pc
