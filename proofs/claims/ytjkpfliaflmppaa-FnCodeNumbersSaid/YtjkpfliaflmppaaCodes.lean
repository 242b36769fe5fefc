/- impl.codes and impl.uncodes copy a row of codes: for every row of at most 100 codes. -/
import Derived.Test.YtjkpfliaflmppaaCd
import Derived.Test.YtjkpfliaflmppaaTi
namespace Go.Proofs.Ytjkpfliaflmppaa.Pc
open Go Go.RowKit Go.Proofs.Ytjkpfliaflmppaa.Vm

theorem codes_c (cs : List Cd) (own : Bool) (b cap : Nat) (sp : List Value) (F : Mem) (hn : cs.length ≤ 100) :
    HC Try.prog 41 #[.slice (some ⟨b, 0, none⟩) cs.length cap] (⟨own, b, 0, codesV cs ++ sp⟩ :: F)
      (fun v M' => ∃ b' cap' sp', v = .slice (some ⟨b', 0, none⟩) cs.length cap' ∧ (codesV cs ++ sp').length = cap' * 4 ∧ M' = ⟨true, b', 0, codesV cs ++ sp'⟩ :: ⟨own, b, 0, codesV cs ++ sp⟩ :: F) := by
  obtain ⟨I, hI, hI1, hI2, hI3⟩ := of_info info146
  refine HC_of_W (fn := Try.f41) Try.func41 rfl rfl rfl rfl ?_
  repeat' (first | (refine isO ?_; first | refine oo (Pc rfl) ?_ | refine oo (Pa rfl (by omega) (by omega)) ?_ | (refine ob rfl ?_ ?_ <;> intro hq <;> try (exfalso; omega)) | refine oo (Pi rfl (by omega)) ?_ | refine oo (Pl rfl) ?_ | refine oo (Px rfl rfl) ?_ | refine oo (Pj rfl (by omega) (by omega)) ?_ | refine oo (Pk rfl (by omega) (by omega)) ?_ | refine oo (Pf rfl) ?_ | refine oo (Pv rfl (by omega) (by omega)) ?_ | refine oo (Pn rfl) ?_ | refine oo (Pm rfl) ?_ | refine os rfl rfl ?_ | refine ot rfl (by omega) ?_ | refine O_nil ?_) | refine wo rfl ?_ | refine wc rfl ?_ | refine wg rfl ?_ | refine go rfl ?_ | refine gc rfl ?_ | refine gg rfl ?_)
  refine O_buildSlice rfl row79_0 trivial rfl fun b0 => ?_
  repeat' (first | (refine isO ?_; first | refine oo (Pc rfl) ?_ | refine oo (Pa rfl (by omega) (by omega)) ?_ | (refine ob rfl ?_ ?_ <;> intro hq <;> try (exfalso; omega)) | refine oo (Pi rfl (by omega)) ?_ | refine oo (Pl rfl) ?_ | refine oo (Px rfl rfl) ?_ | refine oo (Pj rfl (by omega) (by omega)) ?_ | refine oo (Pk rfl (by omega) (by omega)) ?_ | refine oo (Pf rfl) ?_ | refine oo (Pv rfl (by omega) (by omega)) ?_ | refine oo (Pn rfl) ?_ | refine oo (Pm rfl) ?_ | refine os rfl rfl ?_ | refine ot rfl (by omega) ?_ | refine O_nil ?_) | refine wo rfl ?_ | refine wc rfl ?_ | refine wg rfl ?_ | refine go rfl ?_ | refine gc rfl ?_ | refine gg rfl ?_)
  refine W_loop (α := Nat × Nat × Nat × List Value) (fun x => [(0, .slice (some ⟨b, 0, none⟩) cs.length cap), (3, .slice (some ⟨x.2.1, 0, none⟩) x.1 x.2.2.1), (7, .slice (some ⟨b, 0, none⟩) cs.length cap), (8, .int .i64 cs.length), (9, .int .i64 x.1)])
    (fun x => ⟨true, x.2.1, 0, codesV (cs.take x.1) ++ x.2.2.2⟩ :: ⟨own, b, 0, codesV cs ++ sp⟩ :: F) (fun x => x.1 ≤ cs.length ∧ (codesV (cs.take x.1) ++ x.2.2.2).length = x.2.2.1 * 4) (fun x => cs.length - x.1)
    (0, b0, 0, []) ⟨by omega, by simp [codesV]⟩ ⟨rfl, rfl, rfl, rfl, rfl, trivial⟩ (by simp only [List.take_zero, codesV_nil, List.nil_append]; repeat (first | exact .rfl | exact .nil | (apply Rk.cons; (· exact TakeI.out)) | refine .drop ?_)) ?_
  rintro ⟨i, b1, c1, s1⟩ ⟨hi, hc1⟩
  dsimp only at hi hc1 ⊢
  repeat' (first | (refine isO ?_; first | refine oo (Pc rfl) ?_ | refine oo (Pa rfl (by omega) (by omega)) ?_ | (refine ob rfl ?_ ?_ <;> intro hq <;> try (exfalso; omega)) | refine oo (Pi rfl (by omega)) ?_ | refine oo (Pl rfl) ?_ | refine oo (Px rfl rfl) ?_ | refine oo (Pj rfl (by omega) (by omega)) ?_ | refine oo (Pk rfl (by omega) (by omega)) ?_ | refine oo (Pf rfl) ?_ | refine oo (Pv rfl (by omega) (by omega)) ?_ | refine oo (Pn rfl) ?_ | refine oo (Pm rfl) ?_ | refine os rfl rfl ?_ | refine ot rfl (by omega) ?_ | refine O_nil ?_) | refine wo rfl ?_ | refine wc rfl ?_ | refine wg rfl ?_ | refine go rfl ?_ | refine gc rfl ?_ | refine gg rfl ?_)
  · have hil : i < cs.length := by omega
    refine O_pure (P_loadAgg (i := i * 4) (cs := (cs.getD i Cd.zero).cells) Tb.a42 Tb.c42 (by decide) (by simp only [Int.toNat_natCast]; rfl) (by exact TakeI.out.mem) (by rw [List.length_append, codesV_length]; omega) (codesV_block _ _ _ hil)) trivial rfl ?_
    refine O_alloc zero42 trivial rfl fun bx => ?_
    refine O_storeAgg0 Tb.c42 (by decide) rfl rfl rfl (Cd.cells_one _) trivial (by exact TakeI.out) rfl ?_
    repeat' (first | (refine isO ?_; first | refine oo (Pc rfl) ?_ | refine oo (Pa rfl (by omega) (by omega)) ?_ | (refine ob rfl ?_ ?_ <;> intro hq <;> try (exfalso; omega)) | refine oo (Pi rfl (by omega)) ?_ | refine oo (Pl rfl) ?_ | refine oo (Px rfl rfl) ?_ | refine oo (Pj rfl (by omega) (by omega)) ?_ | refine oo (Pk rfl (by omega) (by omega)) ?_ | refine oo (Pf rfl) ?_ | refine oo (Pv rfl (by omega) (by omega)) ?_ | refine oo (Pn rfl) ?_ | refine oo (Pm rfl) ?_ | refine os rfl rfl ?_ | refine ot rfl (by omega) ?_ | refine O_nil ?_) | refine wo rfl ?_ | refine wc rfl ?_ | refine wg rfl ?_ | refine go rfl ?_ | refine gc rfl ?_ | refine gg rfl ?_)
    refine O_pure (P_build rfl (build146 _ _ _ _)) trivial rfl ?_
    refine O_buildSlice rfl (row79_1 _ _ _ _) trivial rfl fun by1 => ?_
    refine O_append (len := i) (m := [⟨true, b1, 0, codesV (cs.take i) ++ s1⟩]) (xs := codesV (cs.take i)) Tb.u79 Tb.u79 hI hI1 (by decide) (by omega) hI3 rfl rfl rfl (.inr ⟨b1, i, c1, s1, rfl, rfl, by rw [codesV_length]; simp; omega, hc1⟩)
      (.cons (by exact TakeI.out) .rfl) (by rw [codesV_length]; simp; omega) (.head _) (by simp [Cd.cells]) (Cd.cells_one (cs.getD i Cd.zero)) (.inl (by omega)) (by rw [hI2]; omega) trivial rfl fun b2 c2 s2 h2 => ?_
    repeat' (first | (refine isO ?_; first | refine oo (Pc rfl) ?_ | refine oo (Pa rfl (by omega) (by omega)) ?_ | (refine ob rfl ?_ ?_ <;> intro hq <;> try (exfalso; omega)) | refine oo (Pi rfl (by omega)) ?_ | refine oo (Pl rfl) ?_ | refine oo (Px rfl rfl) ?_ | refine oo (Pj rfl (by omega) (by omega)) ?_ | refine oo (Pk rfl (by omega) (by omega)) ?_ | refine oo (Pf rfl) ?_ | refine oo (Pv rfl (by omega) (by omega)) ?_ | refine oo (Pn rfl) ?_ | refine oo (Pm rfl) ?_ | refine os rfl rfl ?_ | refine ot rfl (by omega) ?_ | refine O_nil ?_) | refine wo rfl ?_ | refine wc rfl ?_ | refine wg rfl ?_ | refine go rfl ?_ | refine gc rfl ?_ | refine gg rfl ?_)
    refine G_stop ⟨(i + 1, b2, c2, s2), ⟨by omega, ?_⟩, by dsimp only; omega, ⟨rfl, rfl, rfl, rfl, rfl, trivial⟩, ?_⟩
    · rw [codesV_take _ _ hil] at h2; exact h2
    · dsimp only
      rw [codesV_take _ _ hil]
      repeat (first | exact .rfl | exact .nil | (apply Rk.cons; (· exact TakeI.out)) | refine .drop ?_)
  · obtain rfl : i = cs.length := by omega
    refine G_fin ⟨_, rfl, b1, c1, s1, rfl, ?_, ?_⟩
    · rw [List.take_length] at hc1; exact hc1
    · rw [List.take_length]

theorem uncodes_c (cs : List Cd) (own : Bool) (b cap : Nat) (sp : List Value) (F : Mem) (hn : cs.length ≤ 100) :
    HC Try.prog 43 #[.slice (some ⟨b, 0, none⟩) cs.length cap] (⟨own, b, 0, codesV cs ++ sp⟩ :: F)
      (fun v M' => ∃ m, Own v 4 (codesV cs) m ∧ Rk M' (⟨own, b, 0, codesV cs ++ sp⟩ :: (m ++ F))) := by
  obtain ⟨I, hI, hI1, hI2, hI3⟩ := of_info info42
  refine HC_of_W (fn := Try.f43) Try.func43 rfl rfl rfl rfl ?_
  repeat' (first | (refine isO ?_; first | refine oo (Pc rfl) ?_ | refine oo (Pa rfl (by omega) (by omega)) ?_ | (refine ob rfl ?_ ?_ <;> intro hq <;> try (exfalso; omega)) | refine oo (Pi rfl (by omega)) ?_ | refine oo (Pl rfl) ?_ | refine oo (Px rfl rfl) ?_ | refine oo (Pj rfl (by omega) (by omega)) ?_ | refine oo (Pk rfl (by omega) (by omega)) ?_ | refine oo (Pf rfl) ?_ | refine oo (Pv rfl (by omega) (by omega)) ?_ | refine oo (Pn rfl) ?_ | refine oo (Pm rfl) ?_ | refine os rfl rfl ?_ | refine ot rfl (by omega) ?_ | refine O_nil ?_) | refine wo rfl ?_ | refine wc rfl ?_ | refine wg rfl ?_ | refine go rfl ?_ | refine gc rfl ?_ | refine gg rfl ?_)
  refine W_loop (α := Nat × Value × Mem) (fun x => [(0, .slice (some ⟨b, 0, none⟩) cs.length cap), (3, x.2.1), (6, .slice (some ⟨b, 0, none⟩) cs.length cap), (7, .int .i64 cs.length), (8, .int .i64 x.1)])
    (fun x => ⟨own, b, 0, codesV cs ++ sp⟩ :: (x.2.2 ++ F)) (fun x => x.1 ≤ cs.length ∧ Own x.2.1 4 (codesV (cs.take x.1)) x.2.2) (fun x => cs.length - x.1)
    (0, .slice none 0 0, []) ⟨by omega, .inl ⟨rfl, by simp [codesV], rfl⟩⟩ ⟨rfl, rfl, rfl, rfl, rfl, trivial⟩ (by repeat (first | exact .rfl | exact .nil | (apply Rk.cons; (· exact TakeI.out)) | refine .drop ?_)) ?_
  rintro ⟨i, v, m⟩ ⟨hi, hown⟩
  dsimp only at hi hown ⊢
  repeat' (first | (refine isO ?_; first | refine oo (Pc rfl) ?_ | refine oo (Pa rfl (by omega) (by omega)) ?_ | (refine ob rfl ?_ ?_ <;> intro hq <;> try (exfalso; omega)) | refine oo (Pi rfl (by omega)) ?_ | refine oo (Pl rfl) ?_ | refine oo (Px rfl rfl) ?_ | refine oo (Pj rfl (by omega) (by omega)) ?_ | refine oo (Pk rfl (by omega) (by omega)) ?_ | refine oo (Pf rfl) ?_ | refine oo (Pv rfl (by omega) (by omega)) ?_ | refine oo (Pn rfl) ?_ | refine oo (Pm rfl) ?_ | refine os rfl rfl ?_ | refine ot rfl (by omega) ?_ | refine O_nil ?_) | refine wo rfl ?_ | refine wc rfl ?_ | refine wg rfl ?_ | refine go rfl ?_ | refine gc rfl ?_ | refine gg rfl ?_)
  · have hil : i < cs.length := by omega
    refine O_pure (P_loadAgg (i := i * 4) (cs := (cs.getD i Cd.zero).cells) Tb.a146 Tb.c146 (by decide) (by simp only [Int.toNat_natCast]; rfl) (by exact TakeI.out.mem) (by rw [List.length_append, codesV_length]; omega) (codesV_block _ _ _ hil)) trivial rfl ?_
    refine O_alloc zero146 trivial rfl fun bx => ?_
    refine O_storeAgg0 Tb.c146 (by decide) rfl rfl rfl (Cd.cells_one _) trivial (by exact TakeI.out) rfl ?_
    repeat' (first | (refine isO ?_; first | refine oo (Pc rfl) ?_ | refine oo (Pa rfl (by omega) (by omega)) ?_ | (refine ob rfl ?_ ?_ <;> intro hq <;> try (exfalso; omega)) | refine oo (Pi rfl (by omega)) ?_ | refine oo (Pl rfl) ?_ | refine oo (Px rfl rfl) ?_ | refine oo (Pj rfl (by omega) (by omega)) ?_ | refine oo (Pk rfl (by omega) (by omega)) ?_ | refine oo (Pf rfl) ?_ | refine oo (Pv rfl (by omega) (by omega)) ?_ | refine oo (Pn rfl) ?_ | refine oo (Pm rfl) ?_ | refine os rfl rfl ?_ | refine ot rfl (by omega) ?_ | refine O_nil ?_) | refine wo rfl ?_ | refine wc rfl ?_ | refine wg rfl ?_ | refine go rfl ?_ | refine gc rfl ?_ | refine gg rfl ?_)
    refine O_pure (P_build rfl (build42 _ _ _ _)) trivial rfl ?_
    refine O_buildSlice rfl (row23_1 _ _ _ _) trivial rfl fun by1 => ?_
    refine O_append (len := i) (m := m) (M0 := [⟨true, by1, 0, (cs.getD i Cd.zero).cells⟩, ⟨own, b, 0, codesV cs ++ sp⟩] ++ F) (xs := codesV (cs.take i)) Tb.u23 Tb.u23 hI hI1 (by decide) (by omega) hI3 rfl rfl rfl hown
      ?_ (by rw [codesV_length]; simp; omega) (.head _) (by simp [Cd.cells]) (Cd.cells_one (cs.getD i Cd.zero)) (.inl (by omega)) (by rw [hI2]; omega) trivial rfl fun b2 c2 s2 h2 => ?_
    · refine .trans (L := ⟨true, by1, 0, (cs.getD i Cd.zero).cells⟩ :: ⟨own, b, 0, codesV cs ++ sp⟩ :: (m ++ F)) (by repeat (first | exact .rfl | exact .nil | (apply Rk.cons; (· exact TakeI.out)) | refine .drop ?_)) (.perm (List.perm_append_comm_assoc [_, _] m F))
    repeat' (first | (refine isO ?_; first | refine oo (Pc rfl) ?_ | refine oo (Pa rfl (by omega) (by omega)) ?_ | (refine ob rfl ?_ ?_ <;> intro hq <;> try (exfalso; omega)) | refine oo (Pi rfl (by omega)) ?_ | refine oo (Pl rfl) ?_ | refine oo (Px rfl rfl) ?_ | refine oo (Pj rfl (by omega) (by omega)) ?_ | refine oo (Pk rfl (by omega) (by omega)) ?_ | refine oo (Pf rfl) ?_ | refine oo (Pv rfl (by omega) (by omega)) ?_ | refine oo (Pn rfl) ?_ | refine oo (Pm rfl) ?_ | refine os rfl rfl ?_ | refine ot rfl (by omega) ?_ | refine O_nil ?_) | refine wo rfl ?_ | refine wc rfl ?_ | refine wg rfl ?_ | refine go rfl ?_ | refine gc rfl ?_ | refine gg rfl ?_)
    refine G_stop ⟨(i + 1, .slice (some ⟨b2, 0, none⟩) (i + 1) c2, [⟨true, b2, 0, codesV (cs.take (i + 1)) ++ s2⟩]), ⟨by omega, ?_⟩, by dsimp only; omega, ⟨rfl, rfl, rfl, rfl, rfl, trivial⟩, ?_⟩
    · rw [codesV_take _ _ hil] at h2; exact .inr ⟨b2, i + 1, c2, s2, rfl, rfl, by rw [codesV_length]; simp; omega, h2⟩
    · dsimp only
      rw [codesV_take _ _ hil]
      refine .cons (by exact TakeI.out) ?_
      exact .cons .head (.drop .rfl)
  · obtain rfl : i = cs.length := by omega
    rw [List.take_length] at hown
    exact G_fin ⟨_, rfl, m, hown, .rfl⟩
end Go.Proofs.Ytjkpfliaflmppaa.Pc
