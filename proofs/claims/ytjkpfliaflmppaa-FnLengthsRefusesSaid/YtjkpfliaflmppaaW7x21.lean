/- laws.FnLengthsRefuses, walked: it is true, for any counts. The specification's own functions on codes, walked: turned, KraftSum, Whole. -/
import Derived.Test.YtjkpfliaflmppaaW7x17
import Derived.Test.YtjkpfliaflmppaaW7x20
import Derived.Test.YtjkpfliaflmppaaW7x14
import Derived.Test.YtjkpfliaflmppaaW7x10

namespace Go.Proofs.Ytjkpfliaflmppaa.Hu
open Go Go.RowKit Go.Proofs.Ytjkpfliaflmppaa.Vm Go.Proofs.Ytjkpfliaflmppaa.Pc

theorem P_beq {P : Program} {N : Fm} {E : Env} {M : Mem} {t t2 : TypeId} {x y : Operand} {p q r : Bool} (ht : P.underlying t = some .bool) (hx : ev E x = some (.bool p)) (hy : ev E y = some (.bool q)) (hr : (p == q) = r) : Pure P N E M (.binOp .eql t x y t2) (.bool r) := by
  subst hr
  constructor
  intro pr base w0 ac w hA hS dd ty pos after g
  have h1 : (Op.equal t (.bool p) (.bool q)).run P w = .ok (p == q) w := eqIn_bool ht 9999 p q w
  have hb : binOp .eql t (.bool p) (.bool q) = (do pure (.bool (← Op.equal t (.bool p) (.bool q)))) := rfl
  simp only [execOp, hA.eval hx, hA.eval hy, hb]
  simp [h1, eqGuard]

/-- Codes of symbols in order, with counts. -/
def countL (xs : List Nat) : List Cd := (List.range xs.length).map fun i => ⟨i, xs.getD i 0, 0, 0⟩
theorem countL_length (xs : List Nat) : (countL xs).length = xs.length := by simp [countL]
theorem countL_get (xs : List Nat) (i : Nat) (h : i < xs.length) : (countL xs).getD i Cd.zero = ⟨i, xs.getD i 0, 0, 0⟩ := by simp [countL, h]
theorem countL_cnt (xs : List Nat) : (countL xs).map Cd.cnt = xs := by
  apply List.ext_getElem
  · simp [countL]
  · intro i h1 h2
    simp only [countL, List.map_map, List.getElem_map, List.getElem_range, Function.comp]
    simp [h2]
def Down (xs : List Nat) (i : Nat) : Prop := ∃ j, j + 1 < i ∧ xs.getD (j + 1) 0 < xs.getD j 0
theorem not_asc (xs : List Nat) : ¬ AscC xs ↔ Down xs xs.length := by
  unfold AscC Down
  constructor
  · intro h
    refine Classical.byContradiction fun h2 => h fun i hi => Nat.le_of_not_lt fun hlt => h2 ⟨i, hi, hlt⟩
  · rintro ⟨j, h1, h2⟩ h
    have := h j h1
    omega

set_option maxHeartbeats 2000000 in
theorem law7_c (s0 : Value) (xs : List Nat) (t : Nat) (M : Mem) (hs : Ws s0 xs M) (ht : t < 256) :
    HC Try.prog 7 #[s0, .int .u8 t] M (fun r M' => r = .bool true ∧ Rk M' M) := by
  obtain ⟨I, hI, hI1, hI2, hI3⟩ := of_info info42
  obtain ⟨a0, c0, e⟩ : ∃ a c, s0 = .slice a xs.length c := ⟨_, _, hs.2.choose_spec.choose_spec.1⟩
  subst e
  refine HC_of_W (fn := Try.f7) Try.func7 rfl rfl rfl rfl ?_
  repeat' (first | (refine isO ?_; first | refine oo (Pc rfl) ?_ | refine oo (Pa rfl (by omega) (by omega)) ?_ | (refine ob rfl ?_ ?_ <;> intro hq <;> try (exfalso; omega)) | refine oo (Pi rfl (by omega)) ?_ | refine oo (Pl rfl) ?_ | refine oo (Px rfl rfl) ?_ | refine oo (Pj rfl (by omega) (by omega)) ?_ | refine oo (Pk rfl (by omega) (by omega)) ?_ | refine oo (Pf rfl) ?_ | refine oo (Pv rfl (by omega) (by omega)) ?_ | refine oo (Pn rfl) ?_ | refine oo (Pm rfl) ?_ | refine os rfl rfl ?_ | refine ot rfl (by omega) ?_ | refine O_nil ?_) | refine wo rfl ?_ | refine wc rfl ?_ | refine wg rfl ?_ | refine go rfl ?_ | refine gc rfl ?_ | refine gg rfl ?_)
  · exact G_fin ⟨_, rfl, rfl, .rfl⟩
  iterate 4 (· (refine O_call rfl rfl Tb.k13 trivial rfl (awake_c _) ?_; rintro v M' ⟨rfl, hrk⟩; refine O_weak hrk ?_; clear hrk; (repeat' (first | (refine isO ?_; first | refine oo (Pc rfl) ?_ | refine oo (Pa rfl (by omega) (by omega)) ?_ | (refine ob rfl ?_ ?_ <;> intro hq <;> try (exfalso; omega)) | refine oo (Pi rfl (by omega)) ?_ | refine oo (Pl rfl) ?_ | refine oo (Px rfl rfl) ?_ | refine oo (Pj rfl (by omega) (by omega)) ?_ | refine oo (Pk rfl (by omega) (by omega)) ?_ | refine oo (Pf rfl) ?_ | refine oo (Pv rfl (by omega) (by omega)) ?_ | refine oo (Pn rfl) ?_ | refine oo (Pm rfl) ?_ | refine os rfl rfl ?_ | refine ot rfl (by omega) ?_ | refine O_nil ?_) | refine wo rfl ?_ | refine wc rfl ?_ | refine wg rfl ?_ | refine go rfl ?_ | refine gc rfl ?_ | refine gg rfl ?_))); exact G_fin ⟨_, rfl, rfl, .rfl⟩)
  refine W_loop (α := Nat × Value × Mem × Bool) (fun x => [(0, .slice a0 xs.length c0), (1, .int .u8 t), (5, x.2.1), (6, .bool x.2.2.2), (7, .int .i64 x.1)])
    (fun x => x.2.2.1 ++ M) (fun x => x.1 ≤ xs.length ∧ Own x.2.1 4 (codesV ((countL xs).take x.1)) x.2.2.1 ∧ (∀ j, j < x.1 → xs.getD j 0 < 16777216) ∧ (x.2.2.2 = true ↔ Down xs x.1)) (fun x => xs.length - x.1)
    (0, .slice none 0 0, [], false) ⟨by omega, .inl ⟨rfl, by simp [codesV], rfl⟩, fun j hj => by dsimp only at hj; omega, ⟨fun h => (by cases h), fun ⟨j, h1, _⟩ => by dsimp only at h1; omega⟩⟩ ⟨rfl, rfl, rfl, rfl, rfl, trivial⟩ .rfl ?_
  rintro ⟨i, sv, m, dn⟩ ⟨hi, hown, hall, hdn⟩
  dsimp only at hi hown hall hdn ⊢
  repeat' (first | (refine isO ?_; first | refine oo (Pc rfl) ?_ | refine oo (Pa rfl (by omega) (by omega)) ?_ | (refine ob rfl ?_ ?_ <;> intro hq <;> try (exfalso; omega)) | refine oo (Pi rfl (by omega)) ?_ | refine oo (Pl rfl) ?_ | refine oo (Px rfl rfl) ?_ | refine oo (Pj rfl (by omega) (by omega)) ?_ | refine oo (Pk rfl (by omega) (by omega)) ?_ | refine oo (Pf rfl) ?_ | refine oo (Pv rfl (by omega) (by omega)) ?_ | refine oo (Pn rfl) ?_ | refine oo (Pm rfl) ?_ | refine os rfl rfl ?_ | refine ot rfl (by omega) ?_ | refine O_nil ?_) | refine wo rfl ?_ | refine wc rfl ?_ | refine wg rfl ?_ | refine go rfl ?_ | refine gc rfl ?_ | refine gg rfl ?_)
  · have hil : i < xs.length := by omega
    obtain ⟨b, o, cap, e, hm, hg, hlt⟩ := hs.at hil
    cases e
    have hget := countL_get xs i hil
    have htake := codesV_take (countL xs) i (by rw [countL_length]; exact hil)
    rw [hget] at htake
    obtain ⟨z, hz⟩ : ∃ z, xs.getD i 0 = z := ⟨_, rfl⟩
    rw [hz] at hg hlt htake
    repeat' (first | (refine isO ?_; first | refine oo (Pc rfl) ?_ | refine oo (Pa rfl (by omega) (by omega)) ?_ | (refine ob rfl ?_ ?_ <;> intro hq <;> try (exfalso; omega)) | refine oo (Pi rfl (by omega)) ?_ | refine oo (Pl rfl) ?_ | refine oo (Px rfl rfl) ?_ | refine oo (Pj rfl (by omega) (by omega)) ?_ | refine oo (Pk rfl (by omega) (by omega)) ?_ | refine oo (Pf rfl) ?_ | refine oo (Pv rfl (by omega) (by omega)) ?_ | refine oo (Pn rfl) ?_ | refine oo (Pm rfl) ?_ | refine os rfl rfl ?_ | refine ot rfl (by omega) ?_ | refine O_nil ?_) | refine wo rfl ?_ | refine wc rfl ?_ | refine wg rfl ?_ | refine go rfl ?_ | refine gc rfl ?_ | refine gg rfl ?_)
    refine O_pure (P_loadAt (o := o) (n := i) Tb.p40 rfl (by omega) (List.mem_append_right _ hm) hg) trivial rfl ?_
    repeat' (first | (refine isO ?_; first | refine oo (Pc rfl) ?_ | refine oo (Pa rfl (by omega) (by omega)) ?_ | (refine ob rfl ?_ ?_ <;> intro hq <;> try (exfalso; omega)) | refine oo (Pi rfl (by omega)) ?_ | refine oo (Pl rfl) ?_ | refine oo (Px rfl rfl) ?_ | refine oo (Pj rfl (by omega) (by omega)) ?_ | refine oo (Pk rfl (by omega) (by omega)) ?_ | refine oo (Pf rfl) ?_ | refine oo (Pv rfl (by omega) (by omega)) ?_ | refine oo (Pn rfl) ?_ | refine oo (Pm rfl) ?_ | refine os rfl rfl ?_ | refine ot rfl (by omega) ?_ | refine O_nil ?_) | refine wo rfl ?_ | refine wc rfl ?_ | refine wg rfl ?_ | refine go rfl ?_ | refine gc rfl ?_ | refine gg rfl ?_)
    · (refine O_call rfl rfl Tb.k13 trivial rfl (awake_c _) ?_; rintro v M' ⟨rfl, hrk⟩; refine O_weak hrk ?_; clear hrk; (repeat' (first | (refine isO ?_; first | refine oo (Pc rfl) ?_ | refine oo (Pa rfl (by omega) (by omega)) ?_ | (refine ob rfl ?_ ?_ <;> intro hq <;> try (exfalso; omega)) | refine oo (Pi rfl (by omega)) ?_ | refine oo (Pl rfl) ?_ | refine oo (Px rfl rfl) ?_ | refine oo (Pj rfl (by omega) (by omega)) ?_ | refine oo (Pk rfl (by omega) (by omega)) ?_ | refine oo (Pf rfl) ?_ | refine oo (Pv rfl (by omega) (by omega)) ?_ | refine oo (Pn rfl) ?_ | refine oo (Pm rfl) ?_ | refine os rfl rfl ?_ | refine ot rfl (by omega) ?_ | refine O_nil ?_) | refine wo rfl ?_ | refine wc rfl ?_ | refine wg rfl ?_ | refine go rfl ?_ | refine gc rfl ?_ | refine gg rfl ?_)))
      exact G_fin ⟨_, rfl, rfl, Rk.right m M⟩
    refine O_pure (P_loadAt (o := o) (n := i) Tb.p40 rfl (by omega) (List.mem_append_right _ hm) hg) trivial rfl ?_
    refine O_pure (P_build rfl (build42c _ _ i rfl)) trivial rfl ?_
    refine O_buildSlice rfl (row23_1 _ _ _ _) trivial rfl fun by1 => ?_
    have hlen : (codesV ((countL xs).take i)).length = i * 4 := by rw [codesV_length, List.length_take, countL_length]; omega
    refine O_append (m := m) (M0 := ⟨true, by1, 0, _⟩ :: M) Tb.u23 Tb.u23 hI hI1 (by decide) (by omega) hI3 rfl rfl rfl hown (.perm List.perm_middle.symm) hlen (.head _) (Nat.le_refl 4) (Cd.cells_one ⟨_, z, 0, 0⟩) (.inl (by omega)) (by rw [hI2]; omega) trivial rfl fun b2 c2' s2 h2' => ?_
    have hown2 : Own (.slice (some ⟨b2, 0, none⟩) (i + 1) c2') 4 (codesV ((countL xs).take (i + 1))) [⟨true, b2, 0, codesV ((countL xs).take (i + 1)) ++ s2⟩] := .inr ⟨b2, _, c2', s2, rfl, rfl, by rw [codesV_length, List.length_take, countL_length]; omega, by rw [← htake]; exact h2'⟩
    have hall' : ∀ j, j < i + 1 → xs.getD j 0 < 16777216 := fun j hj => by
      by_cases e : j = i
      · subst e; rw [hz]; omega
      · exact hall j (by omega)
    repeat' (first | (refine isO ?_; first | refine oo (Pc rfl) ?_ | refine oo (Pa rfl (by omega) (by omega)) ?_ | (refine ob rfl ?_ ?_ <;> intro hq <;> try (exfalso; omega)) | refine oo (Pi rfl (by omega)) ?_ | refine oo (Pl rfl) ?_ | refine oo (Px rfl rfl) ?_ | refine oo (Pj rfl (by omega) (by omega)) ?_ | refine oo (Pk rfl (by omega) (by omega)) ?_ | refine oo (Pf rfl) ?_ | refine oo (Pv rfl (by omega) (by omega)) ?_ | refine oo (Pn rfl) ?_ | refine oo (Pm rfl) ?_ | refine os rfl rfl ?_ | refine ot rfl (by omega) ?_ | refine O_nil ?_) | refine wo rfl ?_ | refine wc rfl ?_ | refine wg rfl ?_ | refine go rfl ?_ | refine gc rfl ?_ | refine gg rfl ?_)
    cases dn
    · refine W_region_still Tb.mixed (by kernel_rfl) ?_
      repeat' (first | (refine isS ?_; first | refine ss (Pc rfl) ?_ | refine ss (Pa rfl (by omega) (by omega)) ?_ | (refine sb rfl ?_ ?_ <;> intro hq <;> try (exfalso; omega)) | refine ss (Pi rfl (by omega)) ?_ | refine ss (Pl rfl) ?_ | refine ss (Px rfl rfl) ?_ | refine ss (Pj rfl (by omega) (by omega)) ?_ | refine ss (Pk rfl (by omega) (by omega)) ?_ | refine ss (Pf rfl) ?_ | refine ss (Pv rfl (by omega) (by omega)) ?_ | refine ss (Pn rfl) ?_ | refine ss (Pm rfl) ?_ | refine OS_nil ?_))
      · obtain ⟨_, _, _, e1, hm1, hg1, hlt1⟩ := hs.at (i := i - 1) (by omega)
        cases e1
        obtain ⟨y, hy⟩ : ∃ y, xs.getD (i - 1) 0 = y := ⟨_, rfl⟩
        rw [hy] at hg1 hlt1
        refine OS_pure (P_loadAt (o := o) (n := i) Tb.p40 rfl (by omega) (.tail _ (.tail _ hm)) hg) (by first | exact trivial | exact ⟨_, rfl, rfl⟩) rfl ?_
        repeat' (first | (refine isS ?_; first | refine ss (Pc rfl) ?_ | refine ss (Pa rfl (by omega) (by omega)) ?_ | (refine sb rfl ?_ ?_ <;> intro hq <;> try (exfalso; omega)) | refine ss (Pi rfl (by omega)) ?_ | refine ss (Pl rfl) ?_ | refine ss (Px rfl rfl) ?_ | refine ss (Pj rfl (by omega) (by omega)) ?_ | refine ss (Pk rfl (by omega) (by omega)) ?_ | refine ss (Pf rfl) ?_ | refine ss (Pv rfl (by omega) (by omega)) ?_ | refine ss (Pn rfl) ?_ | refine ss (Pm rfl) ?_ | refine OS_nil ?_))
        refine OS_pure (P_loadAt (o := o) (n := i - 1) Tb.p40 rfl (by omega) (.tail _ (.tail _ hm)) hg1) (by first | exact trivial | exact ⟨_, rfl, rfl⟩) rfl ?_
        repeat' (first | (refine isS ?_; first | refine ss (Pc rfl) ?_ | refine ss (Pa rfl (by omega) (by omega)) ?_ | (refine sb rfl ?_ ?_ <;> intro hq <;> try (exfalso; omega)) | refine ss (Pi rfl (by omega)) ?_ | refine ss (Pl rfl) ?_ | refine ss (Px rfl rfl) ?_ | refine ss (Pj rfl (by omega) (by omega)) ?_ | refine ss (Pk rfl (by omega) (by omega)) ?_ | refine ss (Pf rfl) ?_ | refine ss (Pv rfl (by omega) (by omega)) ?_ | refine ss (Pn rfl) ?_ | refine ss (Pm rfl) ?_ | refine OS_nil ?_))
        · have hdn' : true = true ↔ Down xs (i + 1) := ⟨fun _ => ⟨i - 1, by omega, by rw [show i - 1 + 1 = i by omega, hz, hy]; omega⟩, fun _ => rfl⟩
          repeat' (first | (refine isO ?_; first | refine oo (Pc rfl) ?_ | refine oo (Pa rfl (by omega) (by omega)) ?_ | (refine ob rfl ?_ ?_ <;> intro hq <;> try (exfalso; omega)) | refine oo (Pi rfl (by omega)) ?_ | refine oo (Pl rfl) ?_ | refine oo (Px rfl rfl) ?_ | refine oo (Pj rfl (by omega) (by omega)) ?_ | refine oo (Pk rfl (by omega) (by omega)) ?_ | refine oo (Pf rfl) ?_ | refine oo (Pv rfl (by omega) (by omega)) ?_ | refine oo (Pn rfl) ?_ | refine oo (Pm rfl) ?_ | refine os rfl rfl ?_ | refine ot rfl (by omega) ?_ | refine O_nil ?_) | refine wo rfl ?_ | refine wc rfl ?_ | refine wg rfl ?_ | refine go rfl ?_ | refine gc rfl ?_ | refine gg rfl ?_)
          (refine G_stop ⟨(i + 1, .slice (some ⟨b2, 0, none⟩) (i + 1) c2', [⟨true, b2, 0, codesV ((countL xs).take (i + 1)) ++ s2⟩], _), ⟨by dsimp only; omega, hown2, hall', hdn'⟩, by dsimp only; omega, ⟨rfl, rfl, rfl, rfl, rfl, trivial⟩, by dsimp only; rw [← htake]; exact .cons .head (.drop .rfl)⟩)
        · have hdn' : false = true ↔ Down xs (i + 1) := ⟨fun h => (by cases h), fun ⟨j, h1, h2⟩ => by
            by_cases e : j + 1 = i
            · rw [e, hz, show j = i - 1 by omega, hy] at h2; omega
            · exact hdn.2 ⟨j, by omega, h2⟩⟩
          repeat' (first | (refine isO ?_; first | refine oo (Pc rfl) ?_ | refine oo (Pa rfl (by omega) (by omega)) ?_ | (refine ob rfl ?_ ?_ <;> intro hq <;> try (exfalso; omega)) | refine oo (Pi rfl (by omega)) ?_ | refine oo (Pl rfl) ?_ | refine oo (Px rfl rfl) ?_ | refine oo (Pj rfl (by omega) (by omega)) ?_ | refine oo (Pk rfl (by omega) (by omega)) ?_ | refine oo (Pf rfl) ?_ | refine oo (Pv rfl (by omega) (by omega)) ?_ | refine oo (Pn rfl) ?_ | refine oo (Pm rfl) ?_ | refine os rfl rfl ?_ | refine ot rfl (by omega) ?_ | refine O_nil ?_) | refine wo rfl ?_ | refine wc rfl ?_ | refine wg rfl ?_ | refine go rfl ?_ | refine gc rfl ?_ | refine gg rfl ?_)
          (refine G_stop ⟨(i + 1, .slice (some ⟨b2, 0, none⟩) (i + 1) c2', [⟨true, b2, 0, codesV ((countL xs).take (i + 1)) ++ s2⟩], _), ⟨by dsimp only; omega, hown2, hall', hdn'⟩, by dsimp only; omega, ⟨rfl, rfl, rfl, rfl, rfl, trivial⟩, by dsimp only; rw [← htake]; exact .cons .head (.drop .rfl)⟩)
      · have hdn' : false = true ↔ Down xs (i + 1) := ⟨fun h => (by cases h), fun ⟨j, h1, h2⟩ => by omega⟩
        repeat' (first | (refine isO ?_; first | refine oo (Pc rfl) ?_ | refine oo (Pa rfl (by omega) (by omega)) ?_ | (refine ob rfl ?_ ?_ <;> intro hq <;> try (exfalso; omega)) | refine oo (Pi rfl (by omega)) ?_ | refine oo (Pl rfl) ?_ | refine oo (Px rfl rfl) ?_ | refine oo (Pj rfl (by omega) (by omega)) ?_ | refine oo (Pk rfl (by omega) (by omega)) ?_ | refine oo (Pf rfl) ?_ | refine oo (Pv rfl (by omega) (by omega)) ?_ | refine oo (Pn rfl) ?_ | refine oo (Pm rfl) ?_ | refine os rfl rfl ?_ | refine ot rfl (by omega) ?_ | refine O_nil ?_) | refine wo rfl ?_ | refine wc rfl ?_ | refine wg rfl ?_ | refine go rfl ?_ | refine gc rfl ?_ | refine gg rfl ?_)
        (refine G_stop ⟨(i + 1, .slice (some ⟨b2, 0, none⟩) (i + 1) c2', [⟨true, b2, 0, codesV ((countL xs).take (i + 1)) ++ s2⟩], _), ⟨by dsimp only; omega, hown2, hall', hdn'⟩, by dsimp only; omega, ⟨rfl, rfl, rfl, rfl, rfl, trivial⟩, by dsimp only; rw [← htake]; exact .cons .head (.drop .rfl)⟩)
    · refine W_region_still Tb.mixed (by kernel_rfl) ?_
      repeat' (first | (refine isS ?_; first | refine ss (Pc rfl) ?_ | refine ss (Pa rfl (by omega) (by omega)) ?_ | (refine sb rfl ?_ ?_ <;> intro hq <;> try (exfalso; omega)) | refine ss (Pi rfl (by omega)) ?_ | refine ss (Pl rfl) ?_ | refine ss (Px rfl rfl) ?_ | refine ss (Pj rfl (by omega) (by omega)) ?_ | refine ss (Pk rfl (by omega) (by omega)) ?_ | refine ss (Pf rfl) ?_ | refine ss (Pv rfl (by omega) (by omega)) ?_ | refine ss (Pn rfl) ?_ | refine ss (Pm rfl) ?_ | refine OS_nil ?_))
      have hdn' : true = true ↔ Down xs (i + 1) := ⟨fun _ => by obtain ⟨j, h1, h2⟩ := hdn.1 rfl; exact ⟨j, by omega, h2⟩, fun _ => rfl⟩
      repeat' (first | (refine isO ?_; first | refine oo (Pc rfl) ?_ | refine oo (Pa rfl (by omega) (by omega)) ?_ | (refine ob rfl ?_ ?_ <;> intro hq <;> try (exfalso; omega)) | refine oo (Pi rfl (by omega)) ?_ | refine oo (Pl rfl) ?_ | refine oo (Px rfl rfl) ?_ | refine oo (Pj rfl (by omega) (by omega)) ?_ | refine oo (Pk rfl (by omega) (by omega)) ?_ | refine oo (Pf rfl) ?_ | refine oo (Pv rfl (by omega) (by omega)) ?_ | refine oo (Pn rfl) ?_ | refine oo (Pm rfl) ?_ | refine os rfl rfl ?_ | refine ot rfl (by omega) ?_ | refine O_nil ?_) | refine wo rfl ?_ | refine wc rfl ?_ | refine wg rfl ?_ | refine go rfl ?_ | refine gc rfl ?_ | refine gg rfl ?_)
      (refine G_stop ⟨(i + 1, .slice (some ⟨b2, 0, none⟩) (i + 1) c2', [⟨true, b2, 0, codesV ((countL xs).take (i + 1)) ++ s2⟩], _), ⟨by dsimp only; omega, hown2, hall', hdn'⟩, by dsimp only; omega, ⟨rfl, rfl, rfl, rfl, rfl, trivial⟩, by dsimp only; rw [← htake]; exact .cons .head (.drop .rfl)⟩)
  · obtain rfl : i = xs.length := by omega
    have hL := countL_length xs
    have hC := countL_cnt xs
    rw [← hL, List.take_length] at hown
    have hn2 : 2 ≤ (countL xs).length := by omega
    have hc24 : ∀ c ∈ countL xs, c.cnt < 16777216 := by
      intro c hc
      simp only [countL, List.mem_map, List.mem_range] at hc
      obtain ⟨k, hk, rfl⟩ := hc
      exact hall k hk
    obtain ⟨b, cap, sp, rfl, rfl⟩ := own_row hown (by omega)
    repeat' (first | (refine isO ?_; first | refine oo (Pc rfl) ?_ | refine oo (Pa rfl (by omega) (by omega)) ?_ | (refine ob rfl ?_ ?_ <;> intro hq <;> try (exfalso; omega)) | refine oo (Pi rfl (by omega)) ?_ | refine oo (Pl rfl) ?_ | refine oo (Px rfl rfl) ?_ | refine oo (Pj rfl (by omega) (by omega)) ?_ | refine oo (Pk rfl (by omega) (by omega)) ?_ | refine oo (Pf rfl) ?_ | refine oo (Pv rfl (by omega) (by omega)) ?_ | refine oo (Pn rfl) ?_ | refine oo (Pm rfl) ?_ | refine os rfl rfl ?_ | refine ot rfl (by omega) ?_ | refine O_nil ?_) | refine wo rfl ?_ | refine wc rfl ?_ | refine wg rfl ?_ | refine go rfl ?_ | refine gc rfl ?_ | refine gg rfl ?_)
    refine O_call rfl rfl Tb.k27 trivial rfl (lengths27_c (countL xs) t hn2 (by omega) hc24 (by omega) (by omega) true b cap sp M) ?_
    rintro _ M' (⟨ha, out, sv, m2, hl, hown2, rfl, hrk⟩ | ⟨hno, rfl, hrk⟩)
    · refine O_weak hrk ?_
      clear hrk
      rw [hC] at ha hl
      have hdf : dn = false := by
        cases dn with
        | false => rfl
        | true => exact absurd ha ((not_asc xs).2 (hdn.1 rfl))
      subst hdf
      have hfit := hl.fits (by omega)
      repeat' (first | (refine isO ?_; first | refine oo (Pc rfl) ?_ | refine oo (Pa rfl (by omega) (by omega)) ?_ | (refine ob rfl ?_ ?_ <;> intro hq <;> try (exfalso; omega)) | refine oo (Pi rfl (by omega)) ?_ | refine oo (Pl rfl) ?_ | refine oo (Px rfl rfl) ?_ | refine oo (Pj rfl (by omega) (by omega)) ?_ | refine oo (Pk rfl (by omega) (by omega)) ?_ | refine oo (Pf rfl) ?_ | refine oo (Pv rfl (by omega) (by omega)) ?_ | refine oo (Pn rfl) ?_ | refine oo (Pm rfl) ?_ | refine os rfl rfl ?_ | refine ot rfl (by omega) ?_ | refine O_nil ?_) | refine wo rfl ?_ | refine wc rfl ?_ | refine wg rfl ?_ | refine go rfl ?_ | refine gc rfl ?_ | refine gg rfl ?_)
      (refine O_call rfl rfl Tb.k13 trivial rfl (awake_c _) ?_; rintro v M' ⟨rfl, hrk⟩; refine O_weak hrk ?_; clear hrk; (repeat' (first | (refine isO ?_; first | refine oo (Pc rfl) ?_ | refine oo (Pa rfl (by omega) (by omega)) ?_ | (refine ob rfl ?_ ?_ <;> intro hq <;> try (exfalso; omega)) | refine oo (Pi rfl (by omega)) ?_ | refine oo (Pl rfl) ?_ | refine oo (Px rfl rfl) ?_ | refine oo (Pj rfl (by omega) (by omega)) ?_ | refine oo (Pk rfl (by omega) (by omega)) ?_ | refine oo (Pf rfl) ?_ | refine oo (Pv rfl (by omega) (by omega)) ?_ | refine oo (Pn rfl) ?_ | refine oo (Pm rfl) ?_ | refine os rfl rfl ?_ | refine ot rfl (by omega) ?_ | refine O_nil ?_) | refine wo rfl ?_ | refine wc rfl ?_ | refine wg rfl ?_ | refine go rfl ?_ | refine gc rfl ?_ | refine gg rfl ?_)))
      refine O_pure (P_one_shl rfl rfl (by omega)) (by first | exact trivial | exact ⟨_, rfl, rfl⟩) rfl ?_
      have hcast : ((2 ^ t : Nat) : Int) ≥ (countL xs).length := by omega
      repeat' (first | (refine isO ?_; first | refine oo (Pc rfl) ?_ | refine oo (Pa rfl (by omega) (by omega)) ?_ | (refine ob rfl ?_ ?_ <;> intro hq <;> try (exfalso; omega)) | refine oo (Pi rfl (by omega)) ?_ | refine oo (Pl rfl) ?_ | refine oo (Px rfl rfl) ?_ | refine oo (Pj rfl (by omega) (by omega)) ?_ | refine oo (Pk rfl (by omega) (by omega)) ?_ | refine oo (Pf rfl) ?_ | refine oo (Pv rfl (by omega) (by omega)) ?_ | refine oo (Pn rfl) ?_ | refine oo (Pm rfl) ?_ | refine os rfl rfl ?_ | refine ot rfl (by omega) ?_ | refine O_nil ?_) | refine wo rfl ?_ | refine wc rfl ?_ | refine wg rfl ?_ | refine go rfl ?_ | refine gc rfl ?_ | refine gg rfl ?_)
      refine O_pure (P_beq (r := true) Try.underlying4 rfl rfl rfl) (by first | exact trivial | exact ⟨_, rfl, rfl⟩) rfl ?_
      repeat' (first | (refine isO ?_; first | refine oo (Pc rfl) ?_ | refine oo (Pa rfl (by omega) (by omega)) ?_ | (refine ob rfl ?_ ?_ <;> intro hq <;> try (exfalso; omega)) | refine oo (Pi rfl (by omega)) ?_ | refine oo (Pl rfl) ?_ | refine oo (Px rfl rfl) ?_ | refine oo (Pj rfl (by omega) (by omega)) ?_ | refine oo (Pk rfl (by omega) (by omega)) ?_ | refine oo (Pf rfl) ?_ | refine oo (Pv rfl (by omega) (by omega)) ?_ | refine oo (Pn rfl) ?_ | refine oo (Pm rfl) ?_ | refine os rfl rfl ?_ | refine ot rfl (by omega) ?_ | refine O_nil ?_) | refine wo rfl ?_ | refine wc rfl ?_ | refine wg rfl ?_ | refine go rfl ?_ | refine gc rfl ?_ | refine gg rfl ?_)
      exact G_fin ⟨_, rfl, rfl, .trans (Rk.right m2 _) (.drop .rfl)⟩
    · refine O_weak hrk ?_
      clear hrk
      rw [hC] at hno
      cases dn
      · have hb : 2 ^ t < (countL xs).length := by
          rcases hno with h | h
          · have := hdn.2 ((not_asc xs).1 h)
            cases this
          · exact h
        repeat' (first | (refine isO ?_; first | refine oo (Pc rfl) ?_ | refine oo (Pa rfl (by omega) (by omega)) ?_ | (refine ob rfl ?_ ?_ <;> intro hq <;> try (exfalso; omega)) | refine oo (Pi rfl (by omega)) ?_ | refine oo (Pl rfl) ?_ | refine oo (Px rfl rfl) ?_ | refine oo (Pj rfl (by omega) (by omega)) ?_ | refine oo (Pk rfl (by omega) (by omega)) ?_ | refine oo (Pf rfl) ?_ | refine oo (Pv rfl (by omega) (by omega)) ?_ | refine oo (Pn rfl) ?_ | refine oo (Pm rfl) ?_ | refine os rfl rfl ?_ | refine ot rfl (by omega) ?_ | refine O_nil ?_) | refine wo rfl ?_ | refine wc rfl ?_ | refine wg rfl ?_ | refine go rfl ?_ | refine gc rfl ?_ | refine gg rfl ?_)
        (refine O_call rfl rfl Tb.k13 trivial rfl (awake_c _) ?_; rintro v M' ⟨rfl, hrk⟩; refine O_weak hrk ?_; clear hrk; (repeat' (first | (refine isO ?_; first | refine oo (Pc rfl) ?_ | refine oo (Pa rfl (by omega) (by omega)) ?_ | (refine ob rfl ?_ ?_ <;> intro hq <;> try (exfalso; omega)) | refine oo (Pi rfl (by omega)) ?_ | refine oo (Pl rfl) ?_ | refine oo (Px rfl rfl) ?_ | refine oo (Pj rfl (by omega) (by omega)) ?_ | refine oo (Pk rfl (by omega) (by omega)) ?_ | refine oo (Pf rfl) ?_ | refine oo (Pv rfl (by omega) (by omega)) ?_ | refine oo (Pn rfl) ?_ | refine oo (Pm rfl) ?_ | refine os rfl rfl ?_ | refine ot rfl (by omega) ?_ | refine O_nil ?_) | refine wo rfl ?_ | refine wc rfl ?_ | refine wg rfl ?_ | refine go rfl ?_ | refine gc rfl ?_ | refine gg rfl ?_)))
        refine O_pure (P_one_shl rfl rfl (by omega)) (by first | exact trivial | exact ⟨_, rfl, rfl⟩) rfl ?_
        repeat' (first | (refine isO ?_; first | refine oo (Pc rfl) ?_ | refine oo (Pa rfl (by omega) (by omega)) ?_ | (refine ob rfl ?_ ?_ <;> intro hq <;> try (exfalso; omega)) | refine oo (Pi rfl (by omega)) ?_ | refine oo (Pl rfl) ?_ | refine oo (Px rfl rfl) ?_ | refine oo (Pj rfl (by omega) (by omega)) ?_ | refine oo (Pk rfl (by omega) (by omega)) ?_ | refine oo (Pf rfl) ?_ | refine oo (Pv rfl (by omega) (by omega)) ?_ | refine oo (Pn rfl) ?_ | refine oo (Pm rfl) ?_ | refine os rfl rfl ?_ | refine ot rfl (by omega) ?_ | refine O_nil ?_) | refine wo rfl ?_ | refine wc rfl ?_ | refine wg rfl ?_ | refine go rfl ?_ | refine gc rfl ?_ | refine gg rfl ?_)
        refine O_pure (P_beq (r := true) Try.underlying4 rfl rfl rfl) (by first | exact trivial | exact ⟨_, rfl, rfl⟩) rfl ?_
        repeat' (first | (refine isO ?_; first | refine oo (Pc rfl) ?_ | refine oo (Pa rfl (by omega) (by omega)) ?_ | (refine ob rfl ?_ ?_ <;> intro hq <;> try (exfalso; omega)) | refine oo (Pi rfl (by omega)) ?_ | refine oo (Pl rfl) ?_ | refine oo (Px rfl rfl) ?_ | refine oo (Pj rfl (by omega) (by omega)) ?_ | refine oo (Pk rfl (by omega) (by omega)) ?_ | refine oo (Pf rfl) ?_ | refine oo (Pv rfl (by omega) (by omega)) ?_ | refine oo (Pn rfl) ?_ | refine oo (Pm rfl) ?_ | refine os rfl rfl ?_ | refine ot rfl (by omega) ?_ | refine O_nil ?_) | refine wo rfl ?_ | refine wc rfl ?_ | refine wg rfl ?_ | refine go rfl ?_ | refine gc rfl ?_ | refine gg rfl ?_)
        exact G_fin ⟨_, rfl, rfl, .drop .rfl⟩
      · repeat' (first | (refine isO ?_; first | refine oo (Pc rfl) ?_ | refine oo (Pa rfl (by omega) (by omega)) ?_ | (refine ob rfl ?_ ?_ <;> intro hq <;> try (exfalso; omega)) | refine oo (Pi rfl (by omega)) ?_ | refine oo (Pl rfl) ?_ | refine oo (Px rfl rfl) ?_ | refine oo (Pj rfl (by omega) (by omega)) ?_ | refine oo (Pk rfl (by omega) (by omega)) ?_ | refine oo (Pf rfl) ?_ | refine oo (Pv rfl (by omega) (by omega)) ?_ | refine oo (Pn rfl) ?_ | refine oo (Pm rfl) ?_ | refine os rfl rfl ?_ | refine ot rfl (by omega) ?_ | refine O_nil ?_) | refine wo rfl ?_ | refine wc rfl ?_ | refine wg rfl ?_ | refine go rfl ?_ | refine gc rfl ?_ | refine gg rfl ?_)
        (refine O_call rfl rfl Tb.k13 trivial rfl (awake_c _) ?_; rintro v M' ⟨rfl, hrk⟩; refine O_weak hrk ?_; clear hrk; (repeat' (first | (refine isO ?_; first | refine oo (Pc rfl) ?_ | refine oo (Pa rfl (by omega) (by omega)) ?_ | (refine ob rfl ?_ ?_ <;> intro hq <;> try (exfalso; omega)) | refine oo (Pi rfl (by omega)) ?_ | refine oo (Pl rfl) ?_ | refine oo (Px rfl rfl) ?_ | refine oo (Pj rfl (by omega) (by omega)) ?_ | refine oo (Pk rfl (by omega) (by omega)) ?_ | refine oo (Pf rfl) ?_ | refine oo (Pv rfl (by omega) (by omega)) ?_ | refine oo (Pn rfl) ?_ | refine oo (Pm rfl) ?_ | refine os rfl rfl ?_ | refine ot rfl (by omega) ?_ | refine O_nil ?_) | refine wo rfl ?_ | refine wc rfl ?_ | refine wg rfl ?_ | refine go rfl ?_ | refine gc rfl ?_ | refine gg rfl ?_)))
        refine O_pure (P_beq (r := true) Try.underlying4 rfl rfl rfl) (by first | exact trivial | exact ⟨_, rfl, rfl⟩) rfl ?_
        repeat' (first | (refine isO ?_; first | refine oo (Pc rfl) ?_ | refine oo (Pa rfl (by omega) (by omega)) ?_ | (refine ob rfl ?_ ?_ <;> intro hq <;> try (exfalso; omega)) | refine oo (Pi rfl (by omega)) ?_ | refine oo (Pl rfl) ?_ | refine oo (Px rfl rfl) ?_ | refine oo (Pj rfl (by omega) (by omega)) ?_ | refine oo (Pk rfl (by omega) (by omega)) ?_ | refine oo (Pf rfl) ?_ | refine oo (Pv rfl (by omega) (by omega)) ?_ | refine oo (Pn rfl) ?_ | refine oo (Pm rfl) ?_ | refine os rfl rfl ?_ | refine ot rfl (by omega) ?_ | refine O_nil ?_) | refine wo rfl ?_ | refine wc rfl ?_ | refine wg rfl ?_ | refine go rfl ?_ | refine gc rfl ?_ | refine gg rfl ?_)
        exact G_fin ⟨_, rfl, rfl, .drop .rfl⟩
end Go.Proofs.Ytjkpfliaflmppaa.Hu

namespace Go.Proofs.Ytjkpfliaflmppaa.Pc
open Go Go.RowKit Go.Proofs.Ytjkpfliaflmppaa.Vm Go.Proofs.Ytjkpfliaflmppaa.Rev

theorem turned_c (v n : Nat) (hv : v < 2 ^ 32) (hn : n ≤ 31) (M : Mem) : HP Try.prog 45 #[.int .u32 v, .int .u32 n] M (.int .u32 (T n v : Nat)) := by
  refine HP.of (HC_of_W (fn := Try.f45) Try.func45 rfl rfl rfl rfl ?_)
  repeat' (first | (refine isO ?_; first | refine oo (Pc rfl) ?_ | refine oo (Pa rfl (by omega) (by omega)) ?_ | (refine ob rfl ?_ ?_ <;> intro hq <;> try (exfalso; omega)) | refine oo (Pi rfl (by omega)) ?_ | refine oo (Pl rfl) ?_ | refine oo (Px rfl rfl) ?_ | refine oo (Pj rfl (by omega) (by omega)) ?_ | refine oo (Pk rfl (by omega) (by omega)) ?_ | refine oo (Pf rfl) ?_ | refine oo (Pv rfl (by omega) (by omega)) ?_ | refine oo (Pn rfl) ?_ | refine oo (Pm rfl) ?_ | refine os rfl rfl ?_ | refine ot rfl (by omega) ?_ | refine O_nil ?_) | refine wo rfl ?_ | refine wc rfl ?_ | refine wg rfl ?_ | refine go rfl ?_ | refine gc rfl ?_ | refine gg rfl ?_)
  refine W_loop (α := Nat) (fun i => [(0, .int .u32 v), (1, .int .u32 n), (5, .int .u32 (T i v : Nat)), (6, .int .u32 i)]) (fun _ => M) (fun i => i ≤ n) (fun i => n - i) 0 (by omega) ⟨rfl, rfl, rfl, rfl, trivial⟩ .rfl ?_
  intro i hi
  try dsimp only
  have hT := T_lt i v
  repeat' (first | (refine isO ?_; first | refine oo (Pc rfl) ?_ | refine oo (Pa rfl (by omega) (by omega)) ?_ | (refine ob rfl ?_ ?_ <;> intro hq <;> try (exfalso; omega)) | refine oo (Pi rfl (by omega)) ?_ | refine oo (Pl rfl) ?_ | refine oo (Px rfl rfl) ?_ | refine oo (Pj rfl (by omega) (by omega)) ?_ | refine oo (Pk rfl (by omega) (by omega)) ?_ | refine oo (Pf rfl) ?_ | refine oo (Pv rfl (by omega) (by omega)) ?_ | refine oo (Pn rfl) ?_ | refine oo (Pm rfl) ?_ | refine os rfl rfl ?_ | refine ot rfl (by omega) ?_ | refine O_nil ?_) | refine wo rfl ?_ | refine wc rfl ?_ | refine wg rfl ?_ | refine go rfl ?_ | refine gc rfl ?_ | refine gg rfl ?_)
  · have hi1 : i < n := by omega
    have h2 : 2 ^ i ≤ 2 ^ 30 := Nat.pow_le_pow_right (by omega) (by omega)
    have hbit : v / 2 ^ i % 2 < 2 := Nat.mod_lt _ (by omega)
    refine O_pure (P_shlE (p := T i v) (q := 1) (r := 2 * T i v) rfl rfl rfl (by rw [Nat.pow_one, Nat.mul_comm]; exact Nat.mod_eq_of_lt (by simp only [IntKind.bits]; omega))) trivial rfl ?_
    repeat' (first | (refine isO ?_; first | refine oo (Pc rfl) ?_ | refine oo (Pa rfl (by omega) (by omega)) ?_ | (refine ob rfl ?_ ?_ <;> intro hq <;> try (exfalso; omega)) | refine oo (Pi rfl (by omega)) ?_ | refine oo (Pl rfl) ?_ | refine oo (Px rfl rfl) ?_ | refine oo (Pj rfl (by omega) (by omega)) ?_ | refine oo (Pk rfl (by omega) (by omega)) ?_ | refine oo (Pf rfl) ?_ | refine oo (Pv rfl (by omega) (by omega)) ?_ | refine oo (Pn rfl) ?_ | refine oo (Pm rfl) ?_ | refine os rfl rfl ?_ | refine ot rfl (by omega) ?_ | refine O_nil ?_) | refine wo rfl ?_ | refine wc rfl ?_ | refine wg rfl ?_ | refine go rfl ?_ | refine gc rfl ?_ | refine gg rfl ?_)
    refine O_pure (P_shrN (p := v) (q := i) rfl rfl hv) trivial rfl ?_
    refine O_pure (P_is (P_bitN (q := 1) rfl rfl rfl rfl (Nat.lt_of_le_of_lt (Nat.div_le_self _ _) hv) (by decide)) (congrArg (fun n : Nat => Value.int .u32 (n : Int)) (Nat.and_one_is_mod _))) trivial rfl ?_
    refine O_pure (P_is (P_bitN (p := 2 * T i v) (q := v / 2 ^ i % 2) rfl rfl rfl rfl (by simp only [IntKind.bits]; omega) (by simp only [IntKind.bits]; omega)) (congrArg (fun n : Nat => Value.int .u32 (n : Int)) (show 2 * T i v ||| v / 2 ^ i % 2 = T (i + 1) v by
      have := Nat.two_pow_add_eq_or_of_lt (i := 1) (b := v / 2 ^ i % 2) (by omega) (T i v)
      rw [Nat.pow_one] at this
      rw [← this]; rfl))) trivial rfl ?_
    repeat' (first | (refine isO ?_; first | refine oo (Pc rfl) ?_ | refine oo (Pa rfl (by omega) (by omega)) ?_ | (refine ob rfl ?_ ?_ <;> intro hq <;> try (exfalso; omega)) | refine oo (Pi rfl (by omega)) ?_ | refine oo (Pl rfl) ?_ | refine oo (Px rfl rfl) ?_ | refine oo (Pj rfl (by omega) (by omega)) ?_ | refine oo (Pk rfl (by omega) (by omega)) ?_ | refine oo (Pf rfl) ?_ | refine oo (Pv rfl (by omega) (by omega)) ?_ | refine oo (Pn rfl) ?_ | refine oo (Pm rfl) ?_ | refine os rfl rfl ?_ | refine ot rfl (by omega) ?_ | refine O_nil ?_) | refine wo rfl ?_ | refine wc rfl ?_ | refine wg rfl ?_ | refine go rfl ?_ | refine gc rfl ?_ | refine gg rfl ?_)
    exact G_stop ⟨i + 1, by omega, by omega, ⟨rfl, rfl, rfl, rfl, trivial⟩, .rfl⟩
  · obtain rfl : i = n := by omega
    exact G_fin ⟨_, rfl, rfl⟩

/-- Codes that a slice shows. -/
def Rd (s : Value) (l : List Cd) (M : Mem) : Prop :=
  (s = .slice none 0 0 ∧ l = []) ∨ ∃ own b cap sp, s = .slice (some ⟨b, 0, none⟩) l.length cap ∧ (⟨own, b, 0, codesV l ++ sp⟩ : Sg) ∈ M

/-- What KraftSum sums. -/
def ks (l : List Cd) : Nat := (l.map fun c => 2 ^ (20 - c.len)).sum
theorem ks_take (l : List Cd) (i : Nat) (h : i < l.length) : ks (l.take (i + 1)) = ks (l.take i) + 2 ^ (20 - (l.getD i Cd.zero).len) := by
  rw [take_succ_getD l i h]; simp [ks]
theorem ks_kr (l : List Cd) (h : ∀ c ∈ l, c.len ≤ 20) : ks l = kr l 20 := by
  unfold ks kr
  congr 1
  apply List.map_congr_left
  intro c hc
  rw [if_pos (h c hc)]
theorem ks_le (l : List Cd) : ks l ≤ l.length * 2 ^ 20 := by
  induction l with
  | nil => simp [ks]
  | cons c l ih =>
    have h1 : ks (c :: l) = 2 ^ (20 - c.len) + ks l := by simp [ks]
    have h2 : 2 ^ (20 - c.len) ≤ 2 ^ 20 := Nat.pow_le_pow_right (by omega) (by omega)
    simp only [List.length_cons]
    omega

theorem kraft_c (l : List Cd) (b cap : Nat) (own : Bool) (sp : List Value) (M : Mem) (hm : (⟨own, b, 0, codesV l ++ sp⟩ : Sg) ∈ M) (hlen : ∀ c ∈ l, 1 ≤ c.len ∧ c.len ≤ 20) (h60 : l.length ≤ 60) :
    HP Try.prog 44 #[.slice (some ⟨b, 0, none⟩) l.length cap] M (.int .u64 (ks l : Nat)) := by
  refine HP.of (HC_of_W (fn := Try.f44) Try.func44 rfl rfl rfl rfl ?_)
  repeat' (first | (refine isO ?_; first | refine oo (Pc rfl) ?_ | refine oo (Pa rfl (by omega) (by omega)) ?_ | (refine ob rfl ?_ ?_ <;> intro hq <;> try (exfalso; omega)) | refine oo (Pi rfl (by omega)) ?_ | refine oo (Pl rfl) ?_ | refine oo (Px rfl rfl) ?_ | refine oo (Pj rfl (by omega) (by omega)) ?_ | refine oo (Pk rfl (by omega) (by omega)) ?_ | refine oo (Pf rfl) ?_ | refine oo (Pv rfl (by omega) (by omega)) ?_ | refine oo (Pn rfl) ?_ | refine oo (Pm rfl) ?_ | refine os rfl rfl ?_ | refine ot rfl (by omega) ?_ | refine O_nil ?_) | refine wo rfl ?_ | refine wc rfl ?_ | refine wg rfl ?_ | refine go rfl ?_ | refine gc rfl ?_ | refine gg rfl ?_)
  refine W_loop (α := Nat) (fun i => [(0, .slice (some ⟨b, 0, none⟩) l.length cap), (3, .int .u64 (ks (l.take i) : Nat)), (4, .int .i64 i)]) (fun _ => M) (fun i => i ≤ l.length) (fun i => l.length - i) 0 (by omega) ⟨rfl, rfl, rfl, trivial⟩ .rfl ?_
  intro i hi
  try dsimp only
  repeat' (first | (refine isO ?_; first | refine oo (Pc rfl) ?_ | refine oo (Pa rfl (by omega) (by omega)) ?_ | (refine ob rfl ?_ ?_ <;> intro hq <;> try (exfalso; omega)) | refine oo (Pi rfl (by omega)) ?_ | refine oo (Pl rfl) ?_ | refine oo (Px rfl rfl) ?_ | refine oo (Pj rfl (by omega) (by omega)) ?_ | refine oo (Pk rfl (by omega) (by omega)) ?_ | refine oo (Pf rfl) ?_ | refine oo (Pv rfl (by omega) (by omega)) ?_ | refine oo (Pn rfl) ?_ | refine oo (Pm rfl) ?_ | refine os rfl rfl ?_ | refine ot rfl (by omega) ?_ | refine O_nil ?_) | refine wo rfl ?_ | refine wc rfl ?_ | refine wg rfl ?_ | refine go rfl ?_ | refine gc rfl ?_ | refine gg rfl ?_)
  · have hil : i < l.length := by omega
    have hks := ks_take l i hil
    have hle := ks_le (l.take i)
    have hmem : l.getD i Cd.zero ∈ l := by
      rw [show l.getD i Cd.zero = l[i] by simp [hil]]
      exact List.getElem_mem _
    have hl := hlen _ hmem
    have hg : (codesV l ++ sp)[i * 4 + 2]? = some (.int .u32 (l.getD i Cd.zero).len) := codesV_get l sp i 2 hil (by omega)
    have h2 : 2 ^ (20 - (l.getD i Cd.zero).len) ≤ 2 ^ 20 := Nat.pow_le_pow_right (by omega) (by omega)
    have h20 : (2:Nat) ^ 20 = 1048576 := by decide
    have hlt : (l.take i).length ≤ 60 := by simp; omega
    generalize (l.getD i Cd.zero).len = n at *
    refine O_pure (P_loadAt (o := 0) (n := i * 4 + 2) Tb.p40 rfl (by omega) hm hg) trivial rfl ?_
    repeat' (first | (refine isO ?_; first | refine oo (Pc rfl) ?_ | refine oo (Pa rfl (by omega) (by omega)) ?_ | (refine ob rfl ?_ ?_ <;> intro hq <;> try (exfalso; omega)) | refine oo (Pi rfl (by omega)) ?_ | refine oo (Pl rfl) ?_ | refine oo (Px rfl rfl) ?_ | refine oo (Pj rfl (by omega) (by omega)) ?_ | refine oo (Pk rfl (by omega) (by omega)) ?_ | refine oo (Pf rfl) ?_ | refine oo (Pv rfl (by omega) (by omega)) ?_ | refine oo (Pn rfl) ?_ | refine oo (Pm rfl) ?_ | refine os rfl rfl ?_ | refine ot rfl (by omega) ?_ | refine O_nil ?_) | refine wo rfl ?_ | refine wc rfl ?_ | refine wg rfl ?_ | refine go rfl ?_ | refine gc rfl ?_ | refine gg rfl ?_)
    refine O_pure (P_loadAt (o := 0) (n := i * 4 + 2) Tb.p40 rfl (by omega) hm hg) ⟨_, rfl, rfl⟩ rfl ?_
    repeat' (first | (refine isO ?_; first | refine oo (Pc rfl) ?_ | refine oo (Pa rfl (by omega) (by omega)) ?_ | (refine ob rfl ?_ ?_ <;> intro hq <;> try (exfalso; omega)) | refine oo (Pi rfl (by omega)) ?_ | refine oo (Pl rfl) ?_ | refine oo (Px rfl rfl) ?_ | refine oo (Pj rfl (by omega) (by omega)) ?_ | refine oo (Pk rfl (by omega) (by omega)) ?_ | refine oo (Pf rfl) ?_ | refine oo (Pv rfl (by omega) (by omega)) ?_ | refine oo (Pn rfl) ?_ | refine oo (Pm rfl) ?_ | refine os rfl rfl ?_ | refine ot rfl (by omega) ?_ | refine O_nil ?_) | refine wo rfl ?_ | refine wc rfl ?_ | refine wg rfl ?_ | refine go rfl ?_ | refine gc rfl ?_ | refine gg rfl ?_)
    refine O_pure (P_loadAt (o := 0) (n := i * 4 + 2) Tb.p40 rfl (by omega) hm hg) trivial rfl ?_
    repeat' (first | (refine isO ?_; first | refine oo (Pc rfl) ?_ | refine oo (Pa rfl (by omega) (by omega)) ?_ | (refine ob rfl ?_ ?_ <;> intro hq <;> try (exfalso; omega)) | refine oo (Pi rfl (by omega)) ?_ | refine oo (Pl rfl) ?_ | refine oo (Px rfl rfl) ?_ | refine oo (Pj rfl (by omega) (by omega)) ?_ | refine oo (Pk rfl (by omega) (by omega)) ?_ | refine oo (Pf rfl) ?_ | refine oo (Pv rfl (by omega) (by omega)) ?_ | refine oo (Pn rfl) ?_ | refine oo (Pm rfl) ?_ | refine os rfl rfl ?_ | refine ot rfl (by omega) ?_ | refine O_nil ?_) | refine wo rfl ?_ | refine wc rfl ?_ | refine wg rfl ?_ | refine go rfl ?_ | refine gc rfl ?_ | refine gg rfl ?_)
    refine O_pure (P_shlE (p := 1) (q := 20 - n) (r := 2 ^ (20 - n)) rfl (by simp only [ev, Env.get?]; rw [show (20 : Int) - n = ((20 - n : Nat) : Int) by omega]; rfl) rfl (by rw [Nat.one_mul]; exact Nat.mod_eq_of_lt (by simp only [IntKind.bits]; omega))) trivial rfl ?_
    refine O_pure (P_addE (p := ks (l.take i)) (q := 2 ^ (20 - n)) (r := ks (l.take (i + 1))) rfl rfl rfl (by rw [hks]; exact Nat.mod_eq_of_lt (by simp only [IntKind.bits]; omega))) trivial rfl ?_
    repeat' (first | (refine isO ?_; first | refine oo (Pc rfl) ?_ | refine oo (Pa rfl (by omega) (by omega)) ?_ | (refine ob rfl ?_ ?_ <;> intro hq <;> try (exfalso; omega)) | refine oo (Pi rfl (by omega)) ?_ | refine oo (Pl rfl) ?_ | refine oo (Px rfl rfl) ?_ | refine oo (Pj rfl (by omega) (by omega)) ?_ | refine oo (Pk rfl (by omega) (by omega)) ?_ | refine oo (Pf rfl) ?_ | refine oo (Pv rfl (by omega) (by omega)) ?_ | refine oo (Pn rfl) ?_ | refine oo (Pm rfl) ?_ | refine os rfl rfl ?_ | refine ot rfl (by omega) ?_ | refine O_nil ?_) | refine wo rfl ?_ | refine wc rfl ?_ | refine wg rfl ?_ | refine go rfl ?_ | refine gc rfl ?_ | refine gg rfl ?_)
    exact G_stop ⟨i + 1, by omega, by omega, ⟨rfl, rfl, rfl, trivial⟩, .rfl⟩
  · obtain rfl : i = l.length := by omega
    rw [List.take_length]
    exact G_fin ⟨_, rfl, rfl⟩
end Go.Proofs.Ytjkpfliaflmppaa.Pc
