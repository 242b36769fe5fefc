/- RangeCodes.checkValid and spec.RangeOf, walked. -/
import Derived.Test.YtjkpfliaflmppaaRn
import Derived.Test.YtjkpfliaflmppaaTi
import Derived.Test.YtjkpfliaflmppaaVm13
namespace Go.Proofs.Ytjkpfliaflmppaa.Pc
open Go Go.RowKit Go.Proofs.Ytjkpfliaflmppaa.Vm

theorem rget0 {l : List Rg} {i p n : Nat} (sp : List Value) (h : i < l.length) (he : l.getD i Rg.zero = ⟨p, n⟩) : (rangesV l ++ sp)[i * 2 + 0]? = some (.int .u32 p) := by
  rw [rangesV_get l sp i 0 h (by omega), he]; rfl
theorem rget1 {l : List Rg} {i p n : Nat} (sp : List Value) (h : i < l.length) (he : l.getD i Rg.zero = ⟨p, n⟩) : (rangesV l ++ sp)[i * 2 + 1]? = some (.int .u32 n) := by
  rw [rangesV_get l sp i 1 h (by omega), he]; rfl

theorem valid97_c (a : Nat) (s : Value) (ls : List Nat) (M : Mem) (ha : a ≤ 1048576) (hs : Rs s (mkR a ls) M) (hok : OkN ls) (h0 : 0 < ls.length) :
    HC Try.prog 97 #[s] M (fun v M' => v = .bool true ∧ Rk M' M) := by
  obtain ⟨b, own, sp, cap, rfl, hc, hm⟩ := hs.at (by rw [mkR_length]; exact h0)
  have h30 := hok.1
  rw [List.length_append, rangesV_length, mkR_length] at hc
  rw [mkR_length]
  refine HC_of_W (fn := Try.f97) Try.func97 rfl rfl rfl rfl ?_
  repeat' (first | (refine isO ?_; first | refine oo (Pc rfl) ?_ | refine oo (Pa rfl (by omega) (by omega)) ?_ | (refine ob rfl ?_ ?_ <;> intro hq <;> try (exfalso; omega)) | refine oo (Pi rfl (by omega)) ?_ | refine oo (Pl rfl) ?_ | refine oo (Px rfl rfl) ?_ | refine oo (Pj rfl (by omega) (by omega)) ?_ | refine oo (Pk rfl (by omega) (by omega)) ?_ | refine oo (Pf rfl) ?_ | refine oo (Pv rfl (by omega) (by omega)) ?_ | refine oo (Pn rfl) ?_ | refine oo (Pm rfl) ?_ | refine os rfl rfl ?_ | refine ot rfl (by omega) ?_ | refine O_nil ?_) | refine wo rfl ?_ | refine wc rfl ?_ | refine wg rfl ?_ | refine go rfl ?_ | refine gc rfl ?_ | refine gg rfl ?_)
  refine O_pure (P_loadAggAt (o := 0) (i := 0 * 2) (cs := [.int .u32 (rAt a ls 0 : Nat), .int .u32 (ls.getD 0 0 : Nat)]) Tb.a141 Tb.c141 (by decide) rfl rfl hm (by rw [List.length_append, rangesV_length, mkR_length]; omega) (rangesV_block _ sp 0 (by rw [mkR_length]; exact h0) (mkR_get a ls 0 h0))) trivial rfl ?_
  refine O_alloc zero141 trivial rfl fun b3 => ?_
  refine O_storeAgg0 Tb.c141 (by decide) rfl rfl rfl (lit2_one _ _) trivial .head rfl ?_
  repeat' (first | (refine isO ?_; first | refine oo (Pc rfl) ?_ | refine oo (Pa rfl (by omega) (by omega)) ?_ | (refine ob rfl ?_ ?_ <;> intro hq <;> try (exfalso; omega)) | refine oo (Pi rfl (by omega)) ?_ | refine oo (Pl rfl) ?_ | refine oo (Px rfl rfl) ?_ | refine oo (Pj rfl (by omega) (by omega)) ?_ | refine oo (Pk rfl (by omega) (by omega)) ?_ | refine oo (Pf rfl) ?_ | refine oo (Pv rfl (by omega) (by omega)) ?_ | refine oo (Pn rfl) ?_ | refine oo (Pm rfl) ?_ | refine os rfl rfl ?_ | refine ot rfl (by omega) ?_ | refine O_nil ?_) | refine wo rfl ?_ | refine wc rfl ?_ | refine wg rfl ?_ | refine go rfl ?_ | refine gc rfl ?_ | refine gg rfl ?_)
  refine O_pure (P_tail Tb.u106 Tb.c141 (by decide) rfl (by omega) (by omega)) trivial rfl ?_
  repeat' (first | (refine isO ?_; first | refine oo (Pc rfl) ?_ | refine oo (Pa rfl (by omega) (by omega)) ?_ | (refine ob rfl ?_ ?_ <;> intro hq <;> try (exfalso; omega)) | refine oo (Pi rfl (by omega)) ?_ | refine oo (Pl rfl) ?_ | refine oo (Px rfl rfl) ?_ | refine oo (Pj rfl (by omega) (by omega)) ?_ | refine oo (Pk rfl (by omega) (by omega)) ?_ | refine oo (Pf rfl) ?_ | refine oo (Pv rfl (by omega) (by omega)) ?_ | refine oo (Pn rfl) ?_ | refine oo (Pm rfl) ?_ | refine os rfl rfl ?_ | refine ot rfl (by omega) ?_ | refine O_nil ?_) | refine wo rfl ?_ | refine wc rfl ?_ | refine wg rfl ?_ | refine go rfl ?_ | refine gc rfl ?_ | refine gg rfl ?_)
  refine W_loop (α := Nat) (fun j => [(3, .pointer (some ⟨b3, 0, none⟩)), (17, .slice (some ⟨b, if cap = 1 then 0 else 2, none⟩) (ls.length - 1) (cap - 1)), (18, .int .i64 (ls.length - 1 : Nat)), (19, .int .i64 j)])
    (fun j => ⟨true, b3, 0, [.int .u32 (rAt a ls j : Nat), .int .u32 (ls.getD j 0 : Nat)]⟩ :: M) (fun j => j ≤ ls.length - 1) (fun j => ls.length - j) 0 (by omega) ⟨rfl, rfl, rfl, rfl, trivial⟩ .rfl ?_
  intro j hj
  try dsimp only
  repeat' (first | (refine isO ?_; first | refine oo (Pc rfl) ?_ | refine oo (Pa rfl (by omega) (by omega)) ?_ | (refine ob rfl ?_ ?_ <;> intro hq <;> try (exfalso; omega)) | refine oo (Pi rfl (by omega)) ?_ | refine oo (Pl rfl) ?_ | refine oo (Px rfl rfl) ?_ | refine oo (Pj rfl (by omega) (by omega)) ?_ | refine oo (Pk rfl (by omega) (by omega)) ?_ | refine oo (Pf rfl) ?_ | refine oo (Pv rfl (by omega) (by omega)) ?_ | refine oo (Pn rfl) ?_ | refine oo (Pm rfl) ?_ | refine os rfl rfl ?_ | refine ot rfl (by omega) ?_ | refine O_nil ?_) | refine wo rfl ?_ | refine wc rfl ?_ | refine wg rfl ?_ | refine go rfl ?_ | refine gc rfl ?_ | refine gg rfl ?_)
  · have hjl : j + 1 < ls.length := by omega
    have hz := hok.2 j (by omega)
    have hz' := hok.2 (j + 1) hjl
    have hr := rAt_le (a := a) hok j (by omega)
    have hr1 : rAt a ls (j + 1) = rAt a ls j + 2 ^ ls.getD j 0 := rfl
    have hr2 : rAt a ls (j + 1 + 1) = rAt a ls (j + 1) + 2 ^ ls.getD (j + 1) 0 := rfl
    have hget := mkR_get a ls (j + 1) hjl
    have hp := pow20 hz
    have hp' := pow20 hz'
    refine O_pure (P_loadAggAt (o := 0) (i := (j + 1) * 2) (cs := [.int .u32 (rAt a ls (j + 1) : Nat), .int .u32 (ls.getD (j + 1) 0 : Nat)]) Tb.a141 Tb.c141 (by decide) rfl (by rw [if_neg (by omega)]; omega) (.tail _ hm) (by rw [List.length_append, rangesV_length, mkR_length]; omega)
      (rangesV_block _ sp (j + 1) (by rw [mkR_length]; exact hjl) hget)) trivial rfl ?_
    generalize ls.getD j 0 = z at *
    generalize hz2 : ls.getD (j + 1) 0 = z' at *
    refine O_alloc zero141 trivial rfl fun bx => ?_
    refine O_storeAgg0 Tb.c141 (by decide) rfl rfl rfl (lit2_one _ _) trivial .head rfl ?_
    repeat' (first | (refine isO ?_; first | refine oo (Pc rfl) ?_ | refine oo (Pa rfl (by omega) (by omega)) ?_ | (refine ob rfl ?_ ?_ <;> intro hq <;> try (exfalso; omega)) | refine oo (Pi rfl (by omega)) ?_ | refine oo (Pl rfl) ?_ | refine oo (Px rfl rfl) ?_ | refine oo (Pj rfl (by omega) (by omega)) ?_ | refine oo (Pk rfl (by omega) (by omega)) ?_ | refine oo (Pf rfl) ?_ | refine oo (Pv rfl (by omega) (by omega)) ?_ | refine oo (Pn rfl) ?_ | refine oo (Pm rfl) ?_ | refine os rfl rfl ?_ | refine ot rfl (by omega) ?_ | refine O_nil ?_) | refine wo rfl ?_ | refine wc rfl ?_ | refine wg rfl ?_ | refine go rfl ?_ | refine gc rfl ?_ | refine gg rfl ?_)
    refine W_region_quiet Tb.mixed [[], [0], [], [2], [1], [3]] (by kernel_rfl) (by kernel_rfl) ?_
    repeat' (first | (refine isQS ?_; first | refine qq (Pc rfl) ?_ | refine qq (Pa rfl (by omega) (by omega)) ?_ | (refine qb rfl ?_ ?_ <;> intro hq <;> try (exfalso; omega)) | refine qq (Pi rfl (by omega)) ?_ | refine qq (Pl rfl) ?_ | refine qq (Px rfl rfl) ?_ | refine qq (Pj rfl (by omega) (by omega)) ?_ | refine qq (Pk rfl (by omega) (by omega)) ?_ | refine qq (Pf rfl) ?_ | refine qq (Pv rfl (by omega) (by omega)) ?_ | refine qq (Pn rfl) ?_ | refine qq (Pm rfl) ?_ | (refine QS_nil ⟨rfl, ?_⟩; simp only [List.nil_append, List.cons_append, somes])))
    refine QS_pure (P_loadAggAt (o := 0) (i := 0) (cs := [.int .u32 (rAt a ls j : Nat), .int .u32 (z : Nat)]) Tb.a141 Tb.c141 (by decide) rfl rfl (.tail _ (.head _)) (Nat.le_refl _) rfl) trivial rfl ?_
    refine QS_call rfl rfl Tb.k98 trivial rfl (end98_c (rAt a ls j) z _ (by omega)) ?_
    repeat' (first | (refine isQS ?_; first | refine qq (Pc rfl) ?_ | refine qq (Pa rfl (by omega) (by omega)) ?_ | (refine qb rfl ?_ ?_ <;> intro hq <;> try (exfalso; omega)) | refine qq (Pi rfl (by omega)) ?_ | refine qq (Pl rfl) ?_ | refine qq (Px rfl rfl) ?_ | refine qq (Pj rfl (by omega) (by omega)) ?_ | refine qq (Pk rfl (by omega) (by omega)) ?_ | refine qq (Pf rfl) ?_ | refine qq (Pv rfl (by omega) (by omega)) ?_ | refine qq (Pn rfl) ?_ | refine qq (Pm rfl) ?_ | (refine QS_nil ⟨rfl, ?_⟩; simp only [List.nil_append, List.cons_append, somes])))
    repeat' (first | (refine isO ?_; first | refine oo (Pc rfl) ?_ | refine oo (Pa rfl (by omega) (by omega)) ?_ | (refine ob rfl ?_ ?_ <;> intro hq <;> try (exfalso; omega)) | refine oo (Pi rfl (by omega)) ?_ | refine oo (Pl rfl) ?_ | refine oo (Px rfl rfl) ?_ | refine oo (Pj rfl (by omega) (by omega)) ?_ | refine oo (Pk rfl (by omega) (by omega)) ?_ | refine oo (Pf rfl) ?_ | refine oo (Pv rfl (by omega) (by omega)) ?_ | refine oo (Pn rfl) ?_ | refine oo (Pm rfl) ?_ | refine os rfl rfl ?_ | refine ot rfl (by omega) ?_ | refine O_nil ?_) | refine wo rfl ?_ | refine wc rfl ?_ | refine wg rfl ?_ | refine go rfl ?_ | refine gc rfl ?_ | refine gg rfl ?_)
    refine W_region_quiet Tb.mixed [[], [0], [], [2], [1], [3]] (by kernel_rfl) (by kernel_rfl) ?_
    repeat' (first | (refine isQS ?_; first | refine qq (Pc rfl) ?_ | refine qq (Pa rfl (by omega) (by omega)) ?_ | (refine qb rfl ?_ ?_ <;> intro hq <;> try (exfalso; omega)) | refine qq (Pi rfl (by omega)) ?_ | refine qq (Pl rfl) ?_ | refine qq (Px rfl rfl) ?_ | refine qq (Pj rfl (by omega) (by omega)) ?_ | refine qq (Pk rfl (by omega) (by omega)) ?_ | refine qq (Pf rfl) ?_ | refine qq (Pv rfl (by omega) (by omega)) ?_ | refine qq (Pn rfl) ?_ | refine qq (Pm rfl) ?_ | (refine QS_nil ⟨rfl, ?_⟩; simp only [List.nil_append, List.cons_append, somes])))
    refine QS_pure (P_loadAggAt (o := 0) (i := 0) (cs := [.int .u32 (rAt a ls (j + 1) : Nat), .int .u32 (z' : Nat)]) Tb.a141 Tb.c141 (by decide) rfl rfl (.head _) (Nat.le_refl _) rfl) trivial rfl ?_
    refine QS_call rfl rfl Tb.k98 trivial rfl (end98_c (rAt a ls (j + 1)) z' _ (by omega)) ?_
    repeat' (first | (refine isQS ?_; first | refine qq (Pc rfl) ?_ | refine qq (Pa rfl (by omega) (by omega)) ?_ | (refine qb rfl ?_ ?_ <;> intro hq <;> try (exfalso; omega)) | refine qq (Pi rfl (by omega)) ?_ | refine qq (Pl rfl) ?_ | refine qq (Px rfl rfl) ?_ | refine qq (Pj rfl (by omega) (by omega)) ?_ | refine qq (Pk rfl (by omega) (by omega)) ?_ | refine qq (Pf rfl) ?_ | refine qq (Pv rfl (by omega) (by omega)) ?_ | refine qq (Pn rfl) ?_ | refine qq (Pm rfl) ?_ | (refine QS_nil ⟨rfl, ?_⟩; simp only [List.nil_append, List.cons_append, somes])))
    repeat' (first | (refine isO ?_; first | refine oo (Pc rfl) ?_ | refine oo (Pa rfl (by omega) (by omega)) ?_ | (refine ob rfl ?_ ?_ <;> intro hq <;> try (exfalso; omega)) | refine oo (Pi rfl (by omega)) ?_ | refine oo (Pl rfl) ?_ | refine oo (Px rfl rfl) ?_ | refine oo (Pj rfl (by omega) (by omega)) ?_ | refine oo (Pk rfl (by omega) (by omega)) ?_ | refine oo (Pf rfl) ?_ | refine oo (Pv rfl (by omega) (by omega)) ?_ | refine oo (Pn rfl) ?_ | refine oo (Pm rfl) ?_ | refine os rfl rfl ?_ | refine ot rfl (by omega) ?_ | refine O_nil ?_) | refine wo rfl ?_ | refine wc rfl ?_ | refine wg rfl ?_ | refine go rfl ?_ | refine gc rfl ?_ | refine gg rfl ?_)
    refine O_pure (P_loadAggAt (o := 0) (i := 0) (cs := [.int .u32 (rAt a ls (j + 1) : Nat), .int .u32 (z' : Nat)]) Tb.a141 Tb.c141 (by decide) rfl rfl (.head _) (Nat.le_refl _) rfl) trivial rfl ?_
    refine O_storeAgg0 Tb.c141 (by decide) rfl rfl rfl (lit2_one _ _) trivial (.tail .head) rfl ?_
    repeat' (first | (refine isO ?_; first | refine oo (Pc rfl) ?_ | refine oo (Pa rfl (by omega) (by omega)) ?_ | (refine ob rfl ?_ ?_ <;> intro hq <;> try (exfalso; omega)) | refine oo (Pi rfl (by omega)) ?_ | refine oo (Pl rfl) ?_ | refine oo (Px rfl rfl) ?_ | refine oo (Pj rfl (by omega) (by omega)) ?_ | refine oo (Pk rfl (by omega) (by omega)) ?_ | refine oo (Pf rfl) ?_ | refine oo (Pv rfl (by omega) (by omega)) ?_ | refine oo (Pn rfl) ?_ | refine oo (Pm rfl) ?_ | refine os rfl rfl ?_ | refine ot rfl (by omega) ?_ | refine O_nil ?_) | refine wo rfl ?_ | refine wc rfl ?_ | refine wg rfl ?_ | refine go rfl ?_ | refine gc rfl ?_ | refine gg rfl ?_)
    exact G_stop ⟨j + 1, by omega, by omega, ⟨rfl, rfl, rfl, rfl, trivial⟩, by rw [hz2]; exact .cons .head (.drop .rfl)⟩
  · exact G_fin ⟨_, rfl, rfl, .drop .rfl⟩

theorem of36_c (a v : Nat) (s : Value) (ls : List Nat) (M : Mem) (ha : a ≤ 1048576) (hs : Rs s (mkR a ls) M) (hok : OkN ls) :
    HC Try.prog 36 #[s, .int .u64 v] M (fun r M' => ((∃ i, i < ls.length ∧ rAt a ls i ≤ v ∧ v < rAt a ls (i + 1) ∧ r = .tuple #[.int .u64 i, .bool true]) ∨
      ((∀ i, i < ls.length → v < rAt a ls i ∨ rAt a ls (i + 1) ≤ v) ∧ r = .tuple #[.int .u64 0, .bool false])) ∧ Rk M' M) := by
  obtain ⟨ad, cp, e⟩ : ∃ a c, s = .slice a ls.length c := ⟨_, _, by rw [← mkR_length a ls]; exact hs.choose_spec.choose_spec.1⟩
  subst e
  have h30 := hok.1
  refine HC_of_W (fn := Try.f36) Try.func36 rfl rfl rfl rfl ?_
  repeat' (first | (refine isO ?_; first | refine oo (Pc rfl) ?_ | refine oo (Pa rfl (by omega) (by omega)) ?_ | (refine ob rfl ?_ ?_ <;> intro hq <;> try (exfalso; omega)) | refine oo (Pi rfl (by omega)) ?_ | refine oo (Pl rfl) ?_ | refine oo (Px rfl rfl) ?_ | refine oo (Pj rfl (by omega) (by omega)) ?_ | refine oo (Pk rfl (by omega) (by omega)) ?_ | refine oo (Pf rfl) ?_ | refine oo (Pv rfl (by omega) (by omega)) ?_ | refine oo (Pn rfl) ?_ | refine oo (Pm rfl) ?_ | refine os rfl rfl ?_ | refine ot rfl (by omega) ?_ | refine O_nil ?_) | refine wo rfl ?_ | refine wc rfl ?_ | refine wg rfl ?_ | refine go rfl ?_ | refine gc rfl ?_ | refine gg rfl ?_)
  refine W_loop (α := Nat) (fun i => [(0, .slice ad ls.length cp), (1, .int .u64 v), (6, .int .i64 i)]) (fun _ => M) (fun i => i ≤ ls.length ∧ ∀ j, j < i → v < rAt a ls j ∨ rAt a ls (j + 1) ≤ v) (fun i => ls.length - i)
    0 ⟨by omega, by intro j hj; omega⟩ ⟨rfl, rfl, rfl, trivial⟩ .rfl ?_
  rintro i ⟨hi, hno⟩
  try dsimp only
  repeat' (first | (refine isO ?_; first | refine oo (Pc rfl) ?_ | refine oo (Pa rfl (by omega) (by omega)) ?_ | (refine ob rfl ?_ ?_ <;> intro hq <;> try (exfalso; omega)) | refine oo (Pi rfl (by omega)) ?_ | refine oo (Pl rfl) ?_ | refine oo (Px rfl rfl) ?_ | refine oo (Pj rfl (by omega) (by omega)) ?_ | refine oo (Pk rfl (by omega) (by omega)) ?_ | refine oo (Pf rfl) ?_ | refine oo (Pv rfl (by omega) (by omega)) ?_ | refine oo (Pn rfl) ?_ | refine oo (Pm rfl) ?_ | refine os rfl rfl ?_ | refine ot rfl (by omega) ?_ | refine O_nil ?_) | refine wo rfl ?_ | refine wc rfl ?_ | refine wg rfl ?_ | refine go rfl ?_ | refine gc rfl ?_ | refine gg rfl ?_)
  · have hil : i < ls.length := by omega
    obtain ⟨b, own, sp, cap, e, _, hm⟩ := hs.at (by rw [mkR_length]; omega)
    rw [mkR_length] at e
    cases e
    have hz := hok.2 i hil
    have hr := rAt_le (a := a) hok i (by omega)
    have hr1 : rAt a ls (i + 1) = rAt a ls i + 2 ^ ls.getD i 0 := rfl
    have hget := mkR_get a ls i hil
    have hp := pow20 hz
    have hg0 := rget0 sp (by rw [mkR_length]; exact hil) hget
    have hg1 := rget1 sp (by rw [mkR_length]; exact hil) hget
    generalize ls.getD i 0 = z at *
    have hnext : (v < rAt a ls i ∨ rAt a ls (i + 1) ≤ v) → ∀ j, j < i + 1 → v < rAt a ls j ∨ rAt a ls (j + 1) ≤ v := by
      intro h j hj
      by_cases hji : j = i
      · subst hji; exact h
      · exact hno j (by omega)
    refine W_region_still Tb.mixed (by kernel_rfl) ?_
    repeat' (first | (refine isS ?_; first | refine ss (Pc rfl) ?_ | refine ss (Pa rfl (by omega) (by omega)) ?_ | (refine sb rfl ?_ ?_ <;> intro hq <;> try (exfalso; omega)) | refine ss (Pi rfl (by omega)) ?_ | refine ss (Pl rfl) ?_ | refine ss (Px rfl rfl) ?_ | refine ss (Pj rfl (by omega) (by omega)) ?_ | refine ss (Pk rfl (by omega) (by omega)) ?_ | refine ss (Pf rfl) ?_ | refine ss (Pv rfl (by omega) (by omega)) ?_ | refine ss (Pn rfl) ?_ | refine ss (Pm rfl) ?_ | refine OS_nil ?_))
    refine OS_pure (P_loadAt (o := 0) (n := i * 2 + 0) Tb.p40 rfl (by omega) hm hg0) trivial rfl ?_
    repeat' (first | (refine isS ?_; first | refine ss (Pc rfl) ?_ | refine ss (Pa rfl (by omega) (by omega)) ?_ | (refine sb rfl ?_ ?_ <;> intro hq <;> try (exfalso; omega)) | refine ss (Pi rfl (by omega)) ?_ | refine ss (Pl rfl) ?_ | refine ss (Px rfl rfl) ?_ | refine ss (Pj rfl (by omega) (by omega)) ?_ | refine ss (Pk rfl (by omega) (by omega)) ?_ | refine ss (Pf rfl) ?_ | refine ss (Pv rfl (by omega) (by omega)) ?_ | refine ss (Pn rfl) ?_ | refine ss (Pm rfl) ?_ | refine OS_nil ?_))
    · refine OS_pure (P_loadAt (o := 0) (n := i * 2 + 0) Tb.p40 rfl (by omega) hm hg0) ⟨_, rfl, rfl⟩ rfl ?_
      repeat' (first | (refine isS ?_; first | refine ss (Pc rfl) ?_ | refine ss (Pa rfl (by omega) (by omega)) ?_ | (refine sb rfl ?_ ?_ <;> intro hq <;> try (exfalso; omega)) | refine ss (Pi rfl (by omega)) ?_ | refine ss (Pl rfl) ?_ | refine ss (Px rfl rfl) ?_ | refine ss (Pj rfl (by omega) (by omega)) ?_ | refine ss (Pk rfl (by omega) (by omega)) ?_ | refine ss (Pf rfl) ?_ | refine ss (Pv rfl (by omega) (by omega)) ?_ | refine ss (Pn rfl) ?_ | refine ss (Pm rfl) ?_ | refine OS_nil ?_))
      refine OS_pure (P_loadAt (o := 0) (n := i * 2 + 1) Tb.p40 rfl (by omega) hm hg1) ⟨_, rfl, rfl⟩ rfl ?_
      refine OS_pure (P_shlE (p := 1) (q := z) (r := 2 ^ z) rfl rfl rfl (by rw [Nat.one_mul]; exact Nat.mod_eq_of_lt (by simp only [IntKind.bits]; omega))) ⟨_, rfl, rfl⟩ rfl ?_
      repeat' (first | (refine isS ?_; first | refine ss (Pc rfl) ?_ | refine ss (Pa rfl (by omega) (by omega)) ?_ | (refine sb rfl ?_ ?_ <;> intro hq <;> try (exfalso; omega)) | refine ss (Pi rfl (by omega)) ?_ | refine ss (Pl rfl) ?_ | refine ss (Px rfl rfl) ?_ | refine ss (Pj rfl (by omega) (by omega)) ?_ | refine ss (Pk rfl (by omega) (by omega)) ?_ | refine ss (Pf rfl) ?_ | refine ss (Pv rfl (by omega) (by omega)) ?_ | refine ss (Pn rfl) ?_ | refine ss (Pm rfl) ?_ | refine OS_nil ?_))
      · repeat' (first | (refine isO ?_; first | refine oo (Pc rfl) ?_ | refine oo (Pa rfl (by omega) (by omega)) ?_ | (refine ob rfl ?_ ?_ <;> intro hq <;> try (exfalso; omega)) | refine oo (Pi rfl (by omega)) ?_ | refine oo (Pl rfl) ?_ | refine oo (Px rfl rfl) ?_ | refine oo (Pj rfl (by omega) (by omega)) ?_ | refine oo (Pk rfl (by omega) (by omega)) ?_ | refine oo (Pf rfl) ?_ | refine oo (Pv rfl (by omega) (by omega)) ?_ | refine oo (Pn rfl) ?_ | refine oo (Pm rfl) ?_ | refine os rfl rfl ?_ | refine ot rfl (by omega) ?_ | refine O_nil ?_) | refine wo rfl ?_ | refine wc rfl ?_ | refine wg rfl ?_ | refine go rfl ?_ | refine gc rfl ?_ | refine gg rfl ?_)
        exact G_fin ⟨_, rfl, .inl ⟨i, hil, by omega, by omega, rfl⟩, .rfl⟩
      · repeat' (first | (refine isO ?_; first | refine oo (Pc rfl) ?_ | refine oo (Pa rfl (by omega) (by omega)) ?_ | (refine ob rfl ?_ ?_ <;> intro hq <;> try (exfalso; omega)) | refine oo (Pi rfl (by omega)) ?_ | refine oo (Pl rfl) ?_ | refine oo (Px rfl rfl) ?_ | refine oo (Pj rfl (by omega) (by omega)) ?_ | refine oo (Pk rfl (by omega) (by omega)) ?_ | refine oo (Pf rfl) ?_ | refine oo (Pv rfl (by omega) (by omega)) ?_ | refine oo (Pn rfl) ?_ | refine oo (Pm rfl) ?_ | refine os rfl rfl ?_ | refine ot rfl (by omega) ?_ | refine O_nil ?_) | refine wo rfl ?_ | refine wc rfl ?_ | refine wg rfl ?_ | refine go rfl ?_ | refine gc rfl ?_ | refine gg rfl ?_)
        exact G_stop ⟨i + 1, ⟨by omega, hnext (by omega)⟩, by omega, ⟨rfl, rfl, rfl, trivial⟩, .rfl⟩
    · repeat' (first | (refine isO ?_; first | refine oo (Pc rfl) ?_ | refine oo (Pa rfl (by omega) (by omega)) ?_ | (refine ob rfl ?_ ?_ <;> intro hq <;> try (exfalso; omega)) | refine oo (Pi rfl (by omega)) ?_ | refine oo (Pl rfl) ?_ | refine oo (Px rfl rfl) ?_ | refine oo (Pj rfl (by omega) (by omega)) ?_ | refine oo (Pk rfl (by omega) (by omega)) ?_ | refine oo (Pf rfl) ?_ | refine oo (Pv rfl (by omega) (by omega)) ?_ | refine oo (Pn rfl) ?_ | refine oo (Pm rfl) ?_ | refine os rfl rfl ?_ | refine ot rfl (by omega) ?_ | refine O_nil ?_) | refine wo rfl ?_ | refine wc rfl ?_ | refine wg rfl ?_ | refine go rfl ?_ | refine gc rfl ?_ | refine gg rfl ?_)
      exact G_stop ⟨i + 1, ⟨by omega, hnext (by omega)⟩, by omega, ⟨rfl, rfl, rfl, trivial⟩, .rfl⟩
  · exact G_fin ⟨_, rfl, .inr ⟨fun j hj => hno j (by omega), rfl⟩, .rfl⟩
end Go.Proofs.Ytjkpfliaflmppaa.Pc
