/- laws.given, walked: canonical codes and ranges of handed lengths. -/
import Derived.Test.YtjkpfliaflmppaaRm
import Derived.Test.YtjkpfliaflmppaaLi
import Derived.Test.YtjkpfliaflmppaaCa
namespace Go.Proofs.Ytjkpfliaflmppaa.Pc
open Go Go.RowKit Go.Proofs.Ytjkpfliaflmppaa.Vm

theorem ints_take' {k : IntKind} (ls : List Nat) (i : Nat) (h : i < ls.length) {z : Nat} (he : ls.getD i 0 = z) : ints k ((ls.take i).map Nat.cast) ++ [Value.int k (z : Int)].take (1 * 1) = ints k ((ls.take (i + 1)).map Nat.cast) := by
  have h1 : ls.getD i 0 = ls[i] := by simp [h]
  rw [List.take_succ_eq_append_getElem h, ← h1, he]
  simp [ints]
theorem Bs.nil (M : Mem) : Bs (.slice none 0 0) [] M := ⟨by simp, none, 0, rfl, .inl rfl⟩
theorem Bs.into {s : Value} {xs : List Nat} {M M' : Mem} (h : Bs s xs M) (hm : ∀ x ∈ M, x ∈ M') : Bs s xs M' := by
  obtain ⟨h1, ad, cap, h2, h3⟩ := h
  exact ⟨h1, ad, cap, h2, h3.imp id fun ⟨b, o, h4, h5⟩ => ⟨b, o, h4, hm _ h5⟩⟩
/-- What is spoken of. -/
def OkG (ls xs : List Nat) : Prop := OkL ls ∧ whole (linedL 0 [] ls) ∧ OkN xs

open Classical in
theorem given_c (s1 s2 : Value) (ls xs : List Nat) (M : Mem) (h1 : Bs s1 ls M) (h2 : Bs s2 xs M) :
    HC Try.prog 19 #[s1, s2] M (fun v M' => (OkG ls xs ∧ ∃ b c sp sv m, v = .tuple #[.slice (some ⟨b, 0, none⟩) ls.length c, sv, .bool true] ∧ Own sv 2 (rangesV (mkR 0 xs)) m ∧ Rk M' (⟨true, b, 0, codesV (canon (linedL 0 [] ls)) ++ sp⟩ :: (m ++ M))) ∨
      (¬ OkG ls xs ∧ v = .tuple #[.slice none 0 0, .slice none 0 0, .bool false] ∧ Rk M' M)) := by
  obtain ⟨I, hI, hI1, hI2, hI3⟩ := of_info info49
  obtain ⟨a1, c1, e⟩ : ∃ a c, s1 = .slice a ls.length c := ⟨_, _, h1.2.choose_spec.choose_spec.1⟩
  subst e
  obtain ⟨a2, c2, e⟩ : ∃ a c, s2 = .slice a xs.length c := ⟨_, _, h2.2.choose_spec.choose_spec.1⟩
  subst e
  refine HC_of_W (fn := Try.f19) Try.func19 rfl rfl rfl rfl ?_
  repeat' (first | (refine isO ?_; first | refine oo (Pc rfl) ?_ | refine oo (Pa rfl (by omega) (by omega)) ?_ | (refine ob rfl ?_ ?_ <;> intro hq <;> try (exfalso; omega)) | refine oo (Pi rfl (by omega)) ?_ | refine oo (Pl rfl) ?_ | refine oo (Px rfl rfl) ?_ | refine oo (Pj rfl (by omega) (by omega)) ?_ | refine oo (Pk rfl (by omega) (by omega)) ?_ | refine oo (Pf rfl) ?_ | refine oo (Pv rfl (by omega) (by omega)) ?_ | refine oo (Pn rfl) ?_ | refine oo (Pm rfl) ?_ | refine os rfl rfl ?_ | refine ot rfl (by omega) ?_ | refine O_nil ?_) | refine wo rfl ?_ | refine wc rfl ?_ | refine wg rfl ?_ | refine go rfl ?_ | refine gc rfl ?_ | refine gg rfl ?_)
  refine O_call rfl rfl Tb.k12 trivial rfl (lined_c 0 _ _ [] ls M (by omega) (Bs.nil M) h1 (by simp)) ?_
  rintro v M' (⟨hok, sv, m, hown, rfl, hrk⟩ | ⟨hno, rfl, hrk⟩)
  · refine O_weak hrk ?_
    clear hrk
    have hG := lined_good 0 [] ls (by omega) (by simp) hok
    have hLl := linedL_length 0 [] ls
    generalize hL : linedL 0 [] ls = L at *
    rcases hown with ⟨_, h, _⟩ | ⟨b, len, cap, sp, rfl, rfl, hl, _⟩
    · have := hG.two
      have h4 := codesV_length L
      rw [h] at h4
      simp at h4
      omega
    obtain rfl : len = L.length := by rw [codesV_length] at hl; omega
    have hlen : ∀ c ∈ L, 1 ≤ c.len ∧ c.len ≤ 20 := hG.len
    have h60 := hG.most
    repeat' (first | (refine isO ?_; first | refine oo (Pc rfl) ?_ | refine oo (Pa rfl (by omega) (by omega)) ?_ | (refine ob rfl ?_ ?_ <;> intro hq <;> try (exfalso; omega)) | refine oo (Pi rfl (by omega)) ?_ | refine oo (Pl rfl) ?_ | refine oo (Px rfl rfl) ?_ | refine oo (Pj rfl (by omega) (by omega)) ?_ | refine oo (Pk rfl (by omega) (by omega)) ?_ | refine oo (Pf rfl) ?_ | refine oo (Pv rfl (by omega) (by omega)) ?_ | refine oo (Pn rfl) ?_ | refine oo (Pm rfl) ?_ | refine os rfl rfl ?_ | refine ot rfl (by omega) ?_ | refine O_nil ?_) | refine wo rfl ?_ | refine wc rfl ?_ | refine wg rfl ?_ | refine go rfl ?_ | refine gc rfl ?_ | refine gg rfl ?_)
    refine O_callP rfl rfl Tb.k15 ⟨_, rfl, rfl⟩ rfl (whole_c L b cap true sp _ (.head _) hlen h60) ?_
    by_cases hw : whole L
    · rw [show decide (whole L) = true from decide_eq_true hw]
      repeat' (first | (refine isO ?_; first | refine oo (Pc rfl) ?_ | refine oo (Pa rfl (by omega) (by omega)) ?_ | (refine ob rfl ?_ ?_ <;> intro hq <;> try (exfalso; omega)) | refine oo (Pi rfl (by omega)) ?_ | refine oo (Pl rfl) ?_ | refine oo (Px rfl rfl) ?_ | refine oo (Pj rfl (by omega) (by omega)) ?_ | refine oo (Pk rfl (by omega) (by omega)) ?_ | refine oo (Pf rfl) ?_ | refine oo (Pv rfl (by omega) (by omega)) ?_ | refine oo (Pn rfl) ?_ | refine oo (Pm rfl) ?_ | refine os rfl rfl ?_ | refine ot rfl (by omega) ?_ | refine O_nil ?_) | refine wo rfl ?_ | refine wc rfl ?_ | refine wg rfl ?_ | refine go rfl ?_ | refine gc rfl ?_ | refine gg rfl ?_)
      · refine G_fin ⟨_, rfl, .inr ⟨fun h => ?_, rfl, .drop .rfl⟩⟩
        have := h.2.2.1
        omega
      refine W_loop (α := Nat × Value × Mem) (fun x => [(1, .slice a2 xs.length c2), (7, .slice (some ⟨b, 0, none⟩) L.length cap), (9, x.2.1), (10, .int .i64 x.1)])
        (fun x => x.2.2 ++ (⟨true, b, 0, codesV L ++ sp⟩ :: M)) (fun x => x.1 ≤ xs.length ∧ Own x.2.1 1 (ints .u64 ((xs.take x.1).map Nat.cast)) x.2.2 ∧ ∀ j, j < x.1 → xs.getD j 0 ≤ 20) (fun x => xs.length - x.1)
        (0, .slice none 0 0, []) ⟨by omega, .inl ⟨rfl, by simp [ints], rfl⟩, by intro j hj; omega⟩ ⟨rfl, rfl, rfl, rfl, trivial⟩ .rfl ?_
      rintro ⟨i, sv, m⟩ ⟨hi, hown, hall⟩
      dsimp only at hi hown hall ⊢
      repeat' (first | (refine isO ?_; first | refine oo (Pc rfl) ?_ | refine oo (Pa rfl (by omega) (by omega)) ?_ | (refine ob rfl ?_ ?_ <;> intro hq <;> try (exfalso; omega)) | refine oo (Pi rfl (by omega)) ?_ | refine oo (Pl rfl) ?_ | refine oo (Px rfl rfl) ?_ | refine oo (Pj rfl (by omega) (by omega)) ?_ | refine oo (Pk rfl (by omega) (by omega)) ?_ | refine oo (Pf rfl) ?_ | refine oo (Pv rfl (by omega) (by omega)) ?_ | refine oo (Pn rfl) ?_ | refine oo (Pm rfl) ?_ | refine os rfl rfl ?_ | refine ot rfl (by omega) ?_ | refine O_nil ?_) | refine wo rfl ?_ | refine wc rfl ?_ | refine wg rfl ?_ | refine go rfl ?_ | refine gc rfl ?_ | refine gg rfl ?_)
      · have hil : i < xs.length := by omega
        obtain ⟨b', o, cap', e, hm, hg, hlt⟩ := h2.at hil
        cases e
        have hm' : (⟨false, b', o, ints .u8 (xs.map Nat.cast)⟩ : Sg) ∈ m ++ (⟨true, b, 0, codesV L ++ sp⟩ :: M) := List.mem_append_right _ (.tail _ hm)
        obtain ⟨z, hzz⟩ : ∃ z, xs.getD i 0 = z := ⟨_, rfl⟩
        rw [hzz] at hg hlt
        repeat' (first | (refine isO ?_; first | refine oo (Pc rfl) ?_ | refine oo (Pa rfl (by omega) (by omega)) ?_ | (refine ob rfl ?_ ?_ <;> intro hq <;> try (exfalso; omega)) | refine oo (Pi rfl (by omega)) ?_ | refine oo (Pl rfl) ?_ | refine oo (Px rfl rfl) ?_ | refine oo (Pj rfl (by omega) (by omega)) ?_ | refine oo (Pk rfl (by omega) (by omega)) ?_ | refine oo (Pf rfl) ?_ | refine oo (Pv rfl (by omega) (by omega)) ?_ | refine oo (Pn rfl) ?_ | refine oo (Pm rfl) ?_ | refine os rfl rfl ?_ | refine ot rfl (by omega) ?_ | refine O_nil ?_) | refine wo rfl ?_ | refine wc rfl ?_ | refine wg rfl ?_ | refine go rfl ?_ | refine gc rfl ?_ | refine gg rfl ?_)
        refine O_pure (P_loadAt (o := o) (n := i) Tb.p5 rfl (by omega) hm' hg) trivial rfl ?_
        repeat' (first | (refine isO ?_; first | refine oo (Pc rfl) ?_ | refine oo (Pa rfl (by omega) (by omega)) ?_ | (refine ob rfl ?_ ?_ <;> intro hq <;> try (exfalso; omega)) | refine oo (Pi rfl (by omega)) ?_ | refine oo (Pl rfl) ?_ | refine oo (Px rfl rfl) ?_ | refine oo (Pj rfl (by omega) (by omega)) ?_ | refine oo (Pk rfl (by omega) (by omega)) ?_ | refine oo (Pf rfl) ?_ | refine oo (Pv rfl (by omega) (by omega)) ?_ | refine oo (Pn rfl) ?_ | refine oo (Pm rfl) ?_ | refine os rfl rfl ?_ | refine ot rfl (by omega) ?_ | refine O_nil ?_) | refine wo rfl ?_ | refine wc rfl ?_ | refine wg rfl ?_ | refine go rfl ?_ | refine gc rfl ?_ | refine gg rfl ?_)
        · refine G_fin ⟨_, rfl, .inr ⟨fun h => ?_, rfl, .trans (Rk.right m _) (.drop .rfl)⟩⟩
          have := h.2.2.2 i hil
          omega
        refine O_pure (P_loadAt (o := o) (n := i) Tb.p5 rfl (by omega) hm' hg) trivial rfl ?_
        repeat' (first | (refine isO ?_; first | refine oo (Pc rfl) ?_ | refine oo (Pa rfl (by omega) (by omega)) ?_ | (refine ob rfl ?_ ?_ <;> intro hq <;> try (exfalso; omega)) | refine oo (Pi rfl (by omega)) ?_ | refine oo (Pl rfl) ?_ | refine oo (Px rfl rfl) ?_ | refine oo (Pj rfl (by omega) (by omega)) ?_ | refine oo (Pk rfl (by omega) (by omega)) ?_ | refine oo (Pf rfl) ?_ | refine oo (Pv rfl (by omega) (by omega)) ?_ | refine oo (Pn rfl) ?_ | refine oo (Pm rfl) ?_ | refine os rfl rfl ?_ | refine ot rfl (by omega) ?_ | refine O_nil ?_) | refine wo rfl ?_ | refine wc rfl ?_ | refine wg rfl ?_ | refine go rfl ?_ | refine gc rfl ?_ | refine gg rfl ?_)
        refine O_buildSlice rfl (row63_1 _) trivial rfl fun by1 => ?_
        refine O_append (m := m) (M0 := ⟨true, by1, 0, [.int .u64 (z : Int)]⟩ :: ⟨true, b, 0, codesV L ++ sp⟩ :: M) Tb.u63 Tb.u63 hI hI1 (by decide) (by omega) hI3 rfl rfl rfl hown (.perm List.perm_middle.symm) (len := i) (by rw [ints_length, List.length_map, List.length_take]; omega) (.head _) (Nat.le_refl 1)
          (fun v hv => by rw [List.mem_singleton] at hv; subst hv; rfl) (.inl (by omega)) (by rw [hI2]; omega) trivial rfl fun b2 c2 s2 h2 => ?_
        rw [ints_take' xs i hil hzz] at h2 ⊢
        repeat' (first | (refine isO ?_; first | refine oo (Pc rfl) ?_ | refine oo (Pa rfl (by omega) (by omega)) ?_ | (refine ob rfl ?_ ?_ <;> intro hq <;> try (exfalso; omega)) | refine oo (Pi rfl (by omega)) ?_ | refine oo (Pl rfl) ?_ | refine oo (Px rfl rfl) ?_ | refine oo (Pj rfl (by omega) (by omega)) ?_ | refine oo (Pk rfl (by omega) (by omega)) ?_ | refine oo (Pf rfl) ?_ | refine oo (Pv rfl (by omega) (by omega)) ?_ | refine oo (Pn rfl) ?_ | refine oo (Pm rfl) ?_ | refine os rfl rfl ?_ | refine ot rfl (by omega) ?_ | refine O_nil ?_) | refine wo rfl ?_ | refine wc rfl ?_ | refine wg rfl ?_ | refine go rfl ?_ | refine gc rfl ?_ | refine gg rfl ?_)
        refine G_stop ⟨(i + 1, .slice (some ⟨b2, 0, none⟩) (i + 1) c2, [⟨true, b2, 0, ints .u64 ((xs.take (i + 1)).map Nat.cast) ++ s2⟩]), ⟨by omega, .inr ⟨b2, i + 1, c2, s2, rfl, rfl, by rw [ints_length, List.length_map, List.length_take]; omega, h2⟩, ?_⟩, by dsimp only; omega, ⟨rfl, rfl, rfl, rfl, trivial⟩, .cons .head (.drop .rfl)⟩
        intro j hj
        by_cases hji : j = i
        · subst hji; omega
        · exact hall j (by dsimp only at hj; omega)
      · obtain rfl : i = xs.length := by omega
        rw [List.take_length] at hown
        have hokx : OkN xs := ⟨by omega, hall⟩
        have hu : Us sv xs (m ++ (⟨true, b, 0, codesV L ++ sp⟩ :: M)) := (Us.of_own hown).mono fun x hx => List.mem_append_left _ hx
        refine O_call rfl rfl Tb.k34 trivial rfl (mk34_c 0 sv xs _ (by omega) hu hokx) ?_
        rintro _ M' ⟨s3, m3, hown3, rfl, hrk⟩
        refine O_weak (M' := ⟨true, b, 0, codesV L ++ sp⟩ :: (m3 ++ M)) (.trans hrk (.trans (Rk.app m3 (Rk.right m _)) (.perm List.perm_middle))) ?_
        clear hrk hown hu
        repeat' (first | (refine isO ?_; first | refine oo (Pc rfl) ?_ | refine oo (Pa rfl (by omega) (by omega)) ?_ | (refine ob rfl ?_ ?_ <;> intro hq <;> try (exfalso; omega)) | refine oo (Pi rfl (by omega)) ?_ | refine oo (Pl rfl) ?_ | refine oo (Px rfl rfl) ?_ | refine oo (Pj rfl (by omega) (by omega)) ?_ | refine oo (Pk rfl (by omega) (by omega)) ?_ | refine oo (Pf rfl) ?_ | refine oo (Pv rfl (by omega) (by omega)) ?_ | refine oo (Pn rfl) ?_ | refine oo (Pm rfl) ?_ | refine os rfl rfl ?_ | refine ot rfl (by omega) ?_ | refine O_nil ?_) | refine wo rfl ?_ | refine wc rfl ?_ | refine wg rfl ?_ | refine go rfl ?_ | refine gc rfl ?_ | refine gg rfl ?_)
        refine O_call rfl rfl Tb.k17 trivial rfl (canonical_c L hG true b cap sp _) ?_
        rintro _ M' ⟨b3, c3, sp3, rfl, hrk⟩
        refine O_weak hrk ?_
        clear hrk
        repeat' (first | (refine isO ?_; first | refine oo (Pc rfl) ?_ | refine oo (Pa rfl (by omega) (by omega)) ?_ | (refine ob rfl ?_ ?_ <;> intro hq <;> try (exfalso; omega)) | refine oo (Pi rfl (by omega)) ?_ | refine oo (Pl rfl) ?_ | refine oo (Px rfl rfl) ?_ | refine oo (Pj rfl (by omega) (by omega)) ?_ | refine oo (Pk rfl (by omega) (by omega)) ?_ | refine oo (Pf rfl) ?_ | refine oo (Pv rfl (by omega) (by omega)) ?_ | refine oo (Pn rfl) ?_ | refine oo (Pm rfl) ?_ | refine os rfl rfl ?_ | refine ot rfl (by omega) ?_ | refine O_nil ?_) | refine wo rfl ?_ | refine wc rfl ?_ | refine wg rfl ?_ | refine go rfl ?_ | refine gc rfl ?_ | refine gg rfl ?_)
        refine G_fin ⟨_, rfl, .inl ⟨⟨hok, hL ▸ hw, hokx⟩, b3, c3, sp3, s3, m3, ?_, hown3, .cons .head (.drop .rfl)⟩⟩
        rw [← hLl]
    · rw [show decide (whole L) = false from decide_eq_false hw]
      repeat' (first | (refine isO ?_; first | refine oo (Pc rfl) ?_ | refine oo (Pa rfl (by omega) (by omega)) ?_ | (refine ob rfl ?_ ?_ <;> intro hq <;> try (exfalso; omega)) | refine oo (Pi rfl (by omega)) ?_ | refine oo (Pl rfl) ?_ | refine oo (Px rfl rfl) ?_ | refine oo (Pj rfl (by omega) (by omega)) ?_ | refine oo (Pk rfl (by omega) (by omega)) ?_ | refine oo (Pf rfl) ?_ | refine oo (Pv rfl (by omega) (by omega)) ?_ | refine oo (Pn rfl) ?_ | refine oo (Pm rfl) ?_ | refine os rfl rfl ?_ | refine ot rfl (by omega) ?_ | refine O_nil ?_) | refine wo rfl ?_ | refine wc rfl ?_ | refine wg rfl ?_ | refine go rfl ?_ | refine gc rfl ?_ | refine gg rfl ?_)
      exact G_fin ⟨_, rfl, .inr ⟨fun h => hw (hL ▸ h.2.1), rfl, .drop .rfl⟩⟩
  · refine O_weak hrk ?_
    clear hrk
    repeat' (first | (refine isO ?_; first | refine oo (Pc rfl) ?_ | refine oo (Pa rfl (by omega) (by omega)) ?_ | (refine ob rfl ?_ ?_ <;> intro hq <;> try (exfalso; omega)) | refine oo (Pi rfl (by omega)) ?_ | refine oo (Pl rfl) ?_ | refine oo (Px rfl rfl) ?_ | refine oo (Pj rfl (by omega) (by omega)) ?_ | refine oo (Pk rfl (by omega) (by omega)) ?_ | refine oo (Pf rfl) ?_ | refine oo (Pv rfl (by omega) (by omega)) ?_ | refine oo (Pn rfl) ?_ | refine oo (Pm rfl) ?_ | refine os rfl rfl ?_ | refine ot rfl (by omega) ?_ | refine O_nil ?_) | refine wo rfl ?_ | refine wc rfl ?_ | refine wg rfl ?_ | refine go rfl ?_ | refine gc rfl ?_ | refine gg rfl ?_)
    exact G_fin ⟨_, rfl, .inr ⟨fun h => hno h.1, rfl, .rfl⟩⟩
end Go.Proofs.Ytjkpfliaflmppaa.Pc
