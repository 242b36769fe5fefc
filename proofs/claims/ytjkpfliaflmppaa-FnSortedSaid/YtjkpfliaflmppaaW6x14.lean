/- impl.codes and impl.uncodes copy a row of codes: for every row of at most 100 codes. sort.Sort and impl.SortedBySymbol, SortedByCount, walked. For at most 100 codes. Cells of fresh variables, by type. No condition. -/
import Derived.Test.YtjkpfliaflmppaaW6x04
import Derived.Test.YtjkpfliaflmppaaW6x07
import Derived.Test.YtjkpfliaflmppaaW6x13
import Derived.Test.YtjkpfliaflmppaaW6x03

namespace Go.Proofs.Ytjkpfliaflmppaa.Pc
open Go Go.RowKit Go.Proofs.Ytjkpfliaflmppaa.Vm

theorem codes_c (cs : List Cd) (own : Bool) (b cap : Nat) (sp : List Value) (F : Mem) (hn : cs.length ≤ 100) :
    HC Try.prog 41 #[.slice (some ⟨b, 0, none⟩) cs.length cap] (⟨own, b, 0, codesV cs ++ sp⟩ :: F)
      (fun v M' => ∃ b' cap' sp', v = .slice (some ⟨b', 0, none⟩) cs.length cap' ∧ (codesV cs ++ sp').length = cap' * 4 ∧ M' = ⟨true, b', 0, codesV cs ++ sp'⟩ :: ⟨own, b, 0, codesV cs ++ sp⟩ :: F) := by
  obtain ⟨I, hI, hI1, hI2, hI3⟩ := of_info info146
  refine HC_of_W (fn := Try.f41) Try.func41 rfl rfl rfl rfl ?_
  repeat' (first | (refine isO ?_; first | refine oo (Pc rfl) ?_ | refine oo (Pa rfl (by omega) (by omega)) ?_ | (refine ob rfl ?_ ?_ <;> intro hq <;> try (exfalso; omega)) | refine oo (Pi rfl (by omega)) ?_ | refine oo (Pl rfl) ?_ | refine oo (Px rfl rfl) ?_ | refine oo (Pj rfl (by omega) (by omega)) ?_ | refine oo (Pk rfl (by omega) (by omega)) ?_ | refine oo (Pf rfl) ?_ | refine oo (Pv rfl (by omega) (by omega)) ?_ | refine oo (Pn rfl) ?_ | refine oo (Pm rfl) ?_ | refine os rfl rfl ?_ | refine ot rfl (by omega) ?_ | refine O_nil ?_) | refine wo rfl ?_ | refine wc rfl ?_ | refine wg rfl ?_ | refine go rfl ?_ | refine gc rfl ?_ | refine gg rfl ?_)
  refine O_buildSlice rfl row79_0 trivial rfl fun b0 => ?_
  repeat' (first | (refine isO ?_; first | refine oo (Pc rfl) ?_ | refine oo (Pa rfl (by omega) (by omega)) ?_ | (refine ob rfl ?_ ?_ <;> intro hq <;> try (exfalso; omega)) | refine oo (Pi rfl (by omega)) ?_ | refine oo (Pl rfl) ?_ | refine oo (Px rfl rfl) ?_ | refine oo (Pj rfl (by omega) (by omega)) ?_ | refine oo (Pk rfl (by omega) (by omega)) ?_ | refine oo (Pf rfl) ?_ | refine oo (Pv rfl (by omega) (by omega)) ?_ | refine oo (Pn rfl) ?_ | refine oo (Pm rfl) ?_ | refine os rfl rfl ?_ | refine ot rfl (by omega) ?_ | refine O_nil ?_) | refine wo rfl ?_ | refine wc rfl ?_ | refine wg rfl ?_ | refine go rfl ?_ | refine gc rfl ?_ | refine gg rfl ?_)
  refine W_loop (α := Nat × Nat × Nat × List Value) (fun x => [(0, .slice (some ⟨b, 0, none⟩) cs.length cap), (3, .slice (some ⟨x.2.1, 0, none⟩) x.1 x.2.2.1), (7, .slice (some ⟨b, 0, none⟩) cs.length cap), (8, .int .i64 cs.length), (9, .int .i64 x.1)])
    (fun x => ⟨true, x.2.1, 0, codesV (cs.take x.1) ++ x.2.2.2⟩ :: ⟨own, b, 0, codesV cs ++ sp⟩ :: F) (fun x => x.1 ≤ cs.length ∧ (codesV (cs.take x.1) ++ x.2.2.2).length = x.2.2.1 * 4) (fun x => cs.length - x.1)
    (0, b0, 0, []) ⟨by omega, by simp [codesV]⟩ ⟨rfl, rfl, rfl, rfl, rfl, trivial⟩ (by simp only [List.take_zero, codesV_nil, List.nil_append]; repeat (first | exact .rfl | exact .nil | (apply Rk.cons; (· exact TakeI.out)) | refine .drop ?_)) ?_
  rintro ⟨i, b1, c1, s1⟩ ⟨hi, hc1⟩
  dsimp only at hi hc1 ⊢
  repeat' (first | (refine isO ?_; first | refine oo (Pc rfl) ?_ | refine oo (Pa rfl (by omega) (by omega)) ?_ | (refine ob rfl ?_ ?_ <;> intro hq <;> try (exfalso; omega)) | refine oo (Pi rfl (by omega)) ?_ | refine oo (Pl rfl) ?_ | refine oo (Px rfl rfl) ?_ | refine oo (Pj rfl (by omega) (by omega)) ?_ | refine oo (Pk rfl (by omega) (by omega)) ?_ | refine oo (Pf rfl) ?_ | refine oo (Pv rfl (by omega) (by omega)) ?_ | refine oo (Pn rfl) ?_ | refine oo (Pm rfl) ?_ | refine os rfl rfl ?_ | refine ot rfl (by omega) ?_ | refine O_nil ?_) | refine wo rfl ?_ | refine wc rfl ?_ | refine wg rfl ?_ | refine go rfl ?_ | refine gc rfl ?_ | refine gg rfl ?_)
  · have hil : i < cs.length := by omega
    refine O_pure (P_loadAgg (i := i * 4) (cs := (cs.getD i Cd.zero).cells) Tb.a42 Tb.c42 (by decide) (by simp only [Int.toNat_natCast]; rfl) (by exact TakeI.out.mem) (by rw [List.length_append, codesV_length]; omega) (codesV_block _ _ _ hil)) trivial rfl ?_
    refine O_alloc zero42 trivial rfl fun bx => ?_
    refine O_storeAgg0 Tb.c42 (by decide) rfl rfl rfl (Cd.cells_one _) trivial (by exact TakeI.out) rfl ?_
    repeat' (first | (refine isO ?_; first | refine oo (Pc rfl) ?_ | refine oo (Pa rfl (by omega) (by omega)) ?_ | (refine ob rfl ?_ ?_ <;> intro hq <;> try (exfalso; omega)) | refine oo (Pi rfl (by omega)) ?_ | refine oo (Pl rfl) ?_ | refine oo (Px rfl rfl) ?_ | refine oo (Pj rfl (by omega) (by omega)) ?_ | refine oo (Pk rfl (by omega) (by omega)) ?_ | refine oo (Pf rfl) ?_ | refine oo (Pv rfl (by omega) (by omega)) ?_ | refine oo (Pn rfl) ?_ | refine oo (Pm rfl) ?_ | refine os rfl rfl ?_ | refine ot rfl (by omega) ?_ | refine O_nil ?_) | refine wo rfl ?_ | refine wc rfl ?_ | refine wg rfl ?_ | refine go rfl ?_ | refine gc rfl ?_ | refine gg rfl ?_)
    refine O_pure (P_build rfl (build146 _ _ _ _)) trivial rfl ?_
    refine O_buildSlice rfl (row79_1 _ _ _ _) trivial rfl fun by1 => ?_
    refine O_append (len := i) (m := [⟨true, b1, 0, codesV (cs.take i) ++ s1⟩]) (xs := codesV (cs.take i)) Tb.u79 Tb.u79 hI hI1 (by decide) (by omega) hI3 rfl rfl rfl (.inr ⟨b1, i, c1, s1, rfl, rfl, by rw [codesV_length]; simp; omega, hc1⟩)
      (.cons (by exact TakeI.out) .rfl) (by rw [codesV_length]; simp; omega) (.head _) (by simp [Cd.cells]) (Cd.cells_one (cs.getD i Cd.zero)) (.inl (by omega)) (by rw [hI2]; omega) trivial rfl fun b2 c2 s2 h2 => ?_
    repeat' (first | (refine isO ?_; first | refine oo (Pc rfl) ?_ | refine oo (Pa rfl (by omega) (by omega)) ?_ | (refine ob rfl ?_ ?_ <;> intro hq <;> try (exfalso; omega)) | refine oo (Pi rfl (by omega)) ?_ | refine oo (Pl rfl) ?_ | refine oo (Px rfl rfl) ?_ | refine oo (Pj rfl (by omega) (by omega)) ?_ | refine oo (Pk rfl (by omega) (by omega)) ?_ | refine oo (Pf rfl) ?_ | refine oo (Pv rfl (by omega) (by omega)) ?_ | refine oo (Pn rfl) ?_ | refine oo (Pm rfl) ?_ | refine os rfl rfl ?_ | refine ot rfl (by omega) ?_ | refine O_nil ?_) | refine wo rfl ?_ | refine wc rfl ?_ | refine wg rfl ?_ | refine go rfl ?_ | refine gc rfl ?_ | refine gg rfl ?_)
    refine G_stop ⟨(i + 1, b2, c2, s2), ⟨by omega, ?_⟩, by dsimp only; omega, ⟨rfl, rfl, rfl, rfl, rfl, trivial⟩, ?_⟩
    · rw [codesV_take _ _ hil] at h2; exact h2
    · dsimp only
      rw [codesV_take _ _ hil]
      repeat (first | exact .rfl | exact .nil | (apply Rk.cons; (· exact TakeI.out)) | refine .drop ?_)
  · obtain rfl : i = cs.length := by omega
    refine G_fin ⟨_, rfl, b1, c1, s1, rfl, ?_, ?_⟩
    · rw [List.take_length] at hc1; exact hc1
    · rw [List.take_length]

theorem uncodes_c (cs : List Cd) (own : Bool) (b cap : Nat) (sp : List Value) (F : Mem) (hn : cs.length ≤ 100) :
    HC Try.prog 43 #[.slice (some ⟨b, 0, none⟩) cs.length cap] (⟨own, b, 0, codesV cs ++ sp⟩ :: F)
      (fun v M' => ∃ m, Own v 4 (codesV cs) m ∧ Rk M' (⟨own, b, 0, codesV cs ++ sp⟩ :: (m ++ F))) := by
  obtain ⟨I, hI, hI1, hI2, hI3⟩ := of_info info42
  refine HC_of_W (fn := Try.f43) Try.func43 rfl rfl rfl rfl ?_
  repeat' (first | (refine isO ?_; first | refine oo (Pc rfl) ?_ | refine oo (Pa rfl (by omega) (by omega)) ?_ | (refine ob rfl ?_ ?_ <;> intro hq <;> try (exfalso; omega)) | refine oo (Pi rfl (by omega)) ?_ | refine oo (Pl rfl) ?_ | refine oo (Px rfl rfl) ?_ | refine oo (Pj rfl (by omega) (by omega)) ?_ | refine oo (Pk rfl (by omega) (by omega)) ?_ | refine oo (Pf rfl) ?_ | refine oo (Pv rfl (by omega) (by omega)) ?_ | refine oo (Pn rfl) ?_ | refine oo (Pm rfl) ?_ | refine os rfl rfl ?_ | refine ot rfl (by omega) ?_ | refine O_nil ?_) | refine wo rfl ?_ | refine wc rfl ?_ | refine wg rfl ?_ | refine go rfl ?_ | refine gc rfl ?_ | refine gg rfl ?_)
  refine W_loop (α := Nat × Value × Mem) (fun x => [(0, .slice (some ⟨b, 0, none⟩) cs.length cap), (3, x.2.1), (6, .slice (some ⟨b, 0, none⟩) cs.length cap), (7, .int .i64 cs.length), (8, .int .i64 x.1)])
    (fun x => ⟨own, b, 0, codesV cs ++ sp⟩ :: (x.2.2 ++ F)) (fun x => x.1 ≤ cs.length ∧ Own x.2.1 4 (codesV (cs.take x.1)) x.2.2) (fun x => cs.length - x.1)
    (0, .slice none 0 0, []) ⟨by omega, .inl ⟨rfl, by simp [codesV], rfl⟩⟩ ⟨rfl, rfl, rfl, rfl, rfl, trivial⟩ (by repeat (first | exact .rfl | exact .nil | (apply Rk.cons; (· exact TakeI.out)) | refine .drop ?_)) ?_
  rintro ⟨i, v, m⟩ ⟨hi, hown⟩
  dsimp only at hi hown ⊢
  repeat' (first | (refine isO ?_; first | refine oo (Pc rfl) ?_ | refine oo (Pa rfl (by omega) (by omega)) ?_ | (refine ob rfl ?_ ?_ <;> intro hq <;> try (exfalso; omega)) | refine oo (Pi rfl (by omega)) ?_ | refine oo (Pl rfl) ?_ | refine oo (Px rfl rfl) ?_ | refine oo (Pj rfl (by omega) (by omega)) ?_ | refine oo (Pk rfl (by omega) (by omega)) ?_ | refine oo (Pf rfl) ?_ | refine oo (Pv rfl (by omega) (by omega)) ?_ | refine oo (Pn rfl) ?_ | refine oo (Pm rfl) ?_ | refine os rfl rfl ?_ | refine ot rfl (by omega) ?_ | refine O_nil ?_) | refine wo rfl ?_ | refine wc rfl ?_ | refine wg rfl ?_ | refine go rfl ?_ | refine gc rfl ?_ | refine gg rfl ?_)
  · have hil : i < cs.length := by omega
    refine O_pure (P_loadAgg (i := i * 4) (cs := (cs.getD i Cd.zero).cells) Tb.a146 Tb.c146 (by decide) (by simp only [Int.toNat_natCast]; rfl) (by exact TakeI.out.mem) (by rw [List.length_append, codesV_length]; omega) (codesV_block _ _ _ hil)) trivial rfl ?_
    refine O_alloc zero146 trivial rfl fun bx => ?_
    refine O_storeAgg0 Tb.c146 (by decide) rfl rfl rfl (Cd.cells_one _) trivial (by exact TakeI.out) rfl ?_
    repeat' (first | (refine isO ?_; first | refine oo (Pc rfl) ?_ | refine oo (Pa rfl (by omega) (by omega)) ?_ | (refine ob rfl ?_ ?_ <;> intro hq <;> try (exfalso; omega)) | refine oo (Pi rfl (by omega)) ?_ | refine oo (Pl rfl) ?_ | refine oo (Px rfl rfl) ?_ | refine oo (Pj rfl (by omega) (by omega)) ?_ | refine oo (Pk rfl (by omega) (by omega)) ?_ | refine oo (Pf rfl) ?_ | refine oo (Pv rfl (by omega) (by omega)) ?_ | refine oo (Pn rfl) ?_ | refine oo (Pm rfl) ?_ | refine os rfl rfl ?_ | refine ot rfl (by omega) ?_ | refine O_nil ?_) | refine wo rfl ?_ | refine wc rfl ?_ | refine wg rfl ?_ | refine go rfl ?_ | refine gc rfl ?_ | refine gg rfl ?_)
    refine O_pure (P_build rfl (build42 _ _ _ _)) trivial rfl ?_
    refine O_buildSlice rfl (row23_1 _ _ _ _) trivial rfl fun by1 => ?_
    refine O_append (len := i) (m := m) (M0 := [⟨true, by1, 0, (cs.getD i Cd.zero).cells⟩, ⟨own, b, 0, codesV cs ++ sp⟩] ++ F) (xs := codesV (cs.take i)) Tb.u23 Tb.u23 hI hI1 (by decide) (by omega) hI3 rfl rfl rfl hown
      ?_ (by rw [codesV_length]; simp; omega) (.head _) (by simp [Cd.cells]) (Cd.cells_one (cs.getD i Cd.zero)) (.inl (by omega)) (by rw [hI2]; omega) trivial rfl fun b2 c2 s2 h2 => ?_
    · refine .trans (L := ⟨true, by1, 0, (cs.getD i Cd.zero).cells⟩ :: ⟨own, b, 0, codesV cs ++ sp⟩ :: (m ++ F)) (by repeat (first | exact .rfl | exact .nil | (apply Rk.cons; (· exact TakeI.out)) | refine .drop ?_)) (.perm (List.perm_append_comm_assoc [_, _] m F))
    repeat' (first | (refine isO ?_; first | refine oo (Pc rfl) ?_ | refine oo (Pa rfl (by omega) (by omega)) ?_ | (refine ob rfl ?_ ?_ <;> intro hq <;> try (exfalso; omega)) | refine oo (Pi rfl (by omega)) ?_ | refine oo (Pl rfl) ?_ | refine oo (Px rfl rfl) ?_ | refine oo (Pj rfl (by omega) (by omega)) ?_ | refine oo (Pk rfl (by omega) (by omega)) ?_ | refine oo (Pf rfl) ?_ | refine oo (Pv rfl (by omega) (by omega)) ?_ | refine oo (Pn rfl) ?_ | refine oo (Pm rfl) ?_ | refine os rfl rfl ?_ | refine ot rfl (by omega) ?_ | refine O_nil ?_) | refine wo rfl ?_ | refine wc rfl ?_ | refine wg rfl ?_ | refine go rfl ?_ | refine gc rfl ?_ | refine gg rfl ?_)
    refine G_stop ⟨(i + 1, .slice (some ⟨b2, 0, none⟩) (i + 1) c2, [⟨true, b2, 0, codesV (cs.take (i + 1)) ++ s2⟩]), ⟨by omega, ?_⟩, by dsimp only; omega, ⟨rfl, rfl, rfl, rfl, rfl, trivial⟩, ?_⟩
    · rw [codesV_take _ _ hil] at h2; exact .inr ⟨b2, i + 1, c2, s2, rfl, rfl, by rw [codesV_length]; simp; omega, h2⟩
    · dsimp only
      rw [codesV_take _ _ hil]
      refine .cons (by exact TakeI.out) ?_
      exact .cons .head (.drop .rfl)
  · obtain rfl : i = cs.length := by omega
    rw [List.take_length] at hown
    exact G_fin ⟨_, rfl, m, hown, .rfl⟩
end Go.Proofs.Ytjkpfliaflmppaa.Pc

namespace Go.Proofs.Ytjkpfliaflmppaa.Pc
open Go Go.RowKit Go.Proofs.Ytjkpfliaflmppaa.Vm

variable {d : Value} {l0 : List Cd} {key : Cd → Nat} {row : List Cd → Sg}
theorem sort101_c (D : Dat d l0 key row) (cs : List Cd) (F : Mem) (hp : cs.Perm l0) :
    HC Try.prog 101 #[d] (row cs :: F) (fun _ M' => ∃ cs', Rk M' (row cs' :: F) ∧ cs'.Perm cs ∧ Asc key 0 l0.length cs') := by
  have hm := D.most
  refine HC_of_W (fn := Try.f101) Try.func101 rfl rfl rfl rfl ?_
  repeat' (first | (refine isO ?_; first | refine oo (Pc rfl) ?_ | refine oo (Pa rfl (by omega) (by omega)) ?_ | (refine ob rfl ?_ ?_ <;> intro hq <;> try (exfalso; omega)) | refine oo (Pi rfl (by omega)) ?_ | refine oo (Pl rfl) ?_ | refine oo (Px rfl rfl) ?_ | refine oo (Pj rfl (by omega) (by omega)) ?_ | refine oo (Pk rfl (by omega) (by omega)) ?_ | refine oo (Pf rfl) ?_ | refine oo (Pv rfl (by omega) (by omega)) ?_ | refine oo (Pn rfl) ?_ | refine oo (Pm rfl) ?_ | refine os rfl rfl ?_ | refine ot rfl (by omega) ?_ | refine O_nil ?_) | refine wo rfl ?_ | refine wc rfl ?_ | refine wg rfl ?_ | refine go rfl ?_ | refine gc rfl ?_ | refine gg rfl ?_)
  refine O_invoke rfl rfl D.mN trivial rfl (D.len _) ?_
  rintro _ _ ⟨rfl, rfl⟩
  repeat' (first | (refine isO ?_; first | refine oo (Pc rfl) ?_ | refine oo (Pa rfl (by omega) (by omega)) ?_ | (refine ob rfl ?_ ?_ <;> intro hq <;> try (exfalso; omega)) | refine oo (Pi rfl (by omega)) ?_ | refine oo (Pl rfl) ?_ | refine oo (Px rfl rfl) ?_ | refine oo (Pj rfl (by omega) (by omega)) ?_ | refine oo (Pk rfl (by omega) (by omega)) ?_ | refine oo (Pf rfl) ?_ | refine oo (Pv rfl (by omega) (by omega)) ?_ | refine oo (Pn rfl) ?_ | refine oo (Pm rfl) ?_ | refine os rfl rfl ?_ | refine ot rfl (by omega) ?_ | refine O_nil ?_) | refine wo rfl ?_ | refine wc rfl ?_ | refine wg rfl ?_ | refine go rfl ?_ | refine gc rfl ?_ | refine gg rfl ?_)
  · exact G_fin ⟨_, rfl, cs, .rfl, .refl _, fun x y h1 h2 h3 => by omega⟩
  · refine O_call rfl rfl Tb.k107 trivial rfl (len107_c l0.length _ hm) ?_
    rintro _ _ ⟨b, rfl, h1, h2, h3, rfl⟩
    repeat' (first | (refine isO ?_; first | refine oo (Pc rfl) ?_ | refine oo (Pa rfl (by omega) (by omega)) ?_ | (refine ob rfl ?_ ?_ <;> intro hq <;> try (exfalso; omega)) | refine oo (Pi rfl (by omega)) ?_ | refine oo (Pl rfl) ?_ | refine oo (Px rfl rfl) ?_ | refine oo (Pj rfl (by omega) (by omega)) ?_ | refine oo (Pk rfl (by omega) (by omega)) ?_ | refine oo (Pf rfl) ?_ | refine oo (Pv rfl (by omega) (by omega)) ?_ | refine oo (Pn rfl) ?_ | refine oo (Pm rfl) ?_ | refine os rfl rfl ?_ | refine ot rfl (by omega) ?_ | refine O_nil ?_) | refine wo rfl ?_ | refine wc rfl ?_ | refine wg rfl ?_ | refine go rfl ?_ | refine gc rfl ?_ | refine gg rfl ?_)
    refine O_call rfl rfl Tb.k108 trivial rfl (pdq108_c D (l0.length + 1) cs 0 l0.length b F (by omega) hp (by omega) (by omega) (by omega) (by omega) (by omega) (fun h => by omega)) ?_
    rintro _ _ ⟨cs', hrk, hr, hs⟩
    refine O_weak hrk ?_
    repeat' (first | (refine isO ?_; first | refine oo (Pc rfl) ?_ | refine oo (Pa rfl (by omega) (by omega)) ?_ | (refine ob rfl ?_ ?_ <;> intro hq <;> try (exfalso; omega)) | refine oo (Pi rfl (by omega)) ?_ | refine oo (Pl rfl) ?_ | refine oo (Px rfl rfl) ?_ | refine oo (Pj rfl (by omega) (by omega)) ?_ | refine oo (Pk rfl (by omega) (by omega)) ?_ | refine oo (Pf rfl) ?_ | refine oo (Pv rfl (by omega) (by omega)) ?_ | refine oo (Pn rfl) ?_ | refine oo (Pm rfl) ?_ | refine os rfl rfl ?_ | refine ot rfl (by omega) ?_ | refine O_nil ?_) | refine wo rfl ?_ | refine wc rfl ?_ | refine wg rfl ?_ | refine go rfl ?_ | refine gc rfl ?_ | refine gg rfl ?_)
    exact G_fin ⟨_, rfl, cs', .rfl, hr.perm, hs⟩

theorem nonif153 : NonIfT Try.prog 153 := Tb.n153
theorem sort65_c (b cap : Nat) (sp : List Value) (cs : List Cd) (F : Mem) (hn : cs.length ≤ 100) :
    HC Try.prog 65 #[.slice (some ⟨b, 0, none⟩) cs.length cap] (⟨true, b, 0, codesV cs ++ sp⟩ :: F) (fun _ M' => ∃ cs', Rk M' (⟨true, b, 0, codesV cs' ++ sp⟩ :: F) ∧ cs'.Perm cs ∧ Asc Cd.sym 0 cs.length cs') := by
  refine HC_of_W (fn := Try.f65) Try.func65 rfl rfl rfl rfl ?_
  repeat' (first | (refine isO ?_; first | refine oo (Pc rfl) ?_ | refine oo (Pa rfl (by omega) (by omega)) ?_ | (refine ob rfl ?_ ?_ <;> intro hq <;> try (exfalso; omega)) | refine oo (Pi rfl (by omega)) ?_ | refine oo (Pl rfl) ?_ | refine oo (Px rfl rfl) ?_ | refine oo (Pj rfl (by omega) (by omega)) ?_ | refine oo (Pk rfl (by omega) (by omega)) ?_ | refine oo (Pf rfl) ?_ | refine oo (Pv rfl (by omega) (by omega)) ?_ | refine oo (Pn rfl) ?_ | refine oo (Pm rfl) ?_ | refine os rfl rfl ?_ | refine ot rfl (by omega) ?_ | refine O_nil ?_) | refine wo rfl ?_ | refine wc rfl ?_ | refine wg rfl ?_ | refine go rfl ?_ | refine gc rfl ?_ | refine gg rfl ?_)
  refine O_call rfl rfl Tb.k101 trivial rfl (sort101_c (datSym b cap sp cs hn) cs F (.refl _)) ?_
  rintro _ _ ⟨cs', hrk, hp, hs⟩
  refine O_weak hrk ?_
  repeat' (first | (refine isO ?_; first | refine oo (Pc rfl) ?_ | refine oo (Pa rfl (by omega) (by omega)) ?_ | (refine ob rfl ?_ ?_ <;> intro hq <;> try (exfalso; omega)) | refine oo (Pi rfl (by omega)) ?_ | refine oo (Pl rfl) ?_ | refine oo (Px rfl rfl) ?_ | refine oo (Pj rfl (by omega) (by omega)) ?_ | refine oo (Pk rfl (by omega) (by omega)) ?_ | refine oo (Pf rfl) ?_ | refine oo (Pv rfl (by omega) (by omega)) ?_ | refine oo (Pn rfl) ?_ | refine oo (Pm rfl) ?_ | refine os rfl rfl ?_ | refine ot rfl (by omega) ?_ | refine O_nil ?_) | refine wo rfl ?_ | refine wc rfl ?_ | refine wg rfl ?_ | refine go rfl ?_ | refine gc rfl ?_ | refine gg rfl ?_)
  exact G_fin ⟨_, rfl, cs', .rfl, hp, hs⟩
theorem sort66_c (b cap : Nat) (sp : List Value) (cs : List Cd) (F : Mem) (hn : cs.length ≤ 100) (hsy : ∀ c ∈ cs, c.sym < 4294967296) :
    HC Try.prog 66 #[.slice (some ⟨b, 0, none⟩) cs.length cap] (⟨true, b, 0, codesV cs ++ sp⟩ :: F) (fun _ M' => ∃ cs', Rk M' (⟨true, b, 0, codesV cs' ++ sp⟩ :: F) ∧ cs'.Perm cs ∧ Asc cntKey 0 cs.length cs') := by
  refine HC_of_W (fn := Try.f66) Try.func66 rfl rfl rfl rfl ?_
  repeat' (first | (refine isO ?_; first | refine oo (Pc rfl) ?_ | refine oo (Pa rfl (by omega) (by omega)) ?_ | (refine ob rfl ?_ ?_ <;> intro hq <;> try (exfalso; omega)) | refine oo (Pi rfl (by omega)) ?_ | refine oo (Pl rfl) ?_ | refine oo (Px rfl rfl) ?_ | refine oo (Pj rfl (by omega) (by omega)) ?_ | refine oo (Pk rfl (by omega) (by omega)) ?_ | refine oo (Pf rfl) ?_ | refine oo (Pv rfl (by omega) (by omega)) ?_ | refine oo (Pn rfl) ?_ | refine oo (Pm rfl) ?_ | refine os rfl rfl ?_ | refine ot rfl (by omega) ?_ | refine O_nil ?_) | refine wo rfl ?_ | refine wc rfl ?_ | refine wg rfl ?_ | refine go rfl ?_ | refine gc rfl ?_ | refine gg rfl ?_)
  refine O_call rfl rfl Tb.k101 trivial rfl (sort101_c (datCnt b cap sp cs hn hsy) cs F (.refl _)) ?_
  rintro _ _ ⟨cs', hrk, hp, hs⟩
  refine O_weak hrk ?_
  repeat' (first | (refine isO ?_; first | refine oo (Pc rfl) ?_ | refine oo (Pa rfl (by omega) (by omega)) ?_ | (refine ob rfl ?_ ?_ <;> intro hq <;> try (exfalso; omega)) | refine oo (Pi rfl (by omega)) ?_ | refine oo (Pl rfl) ?_ | refine oo (Px rfl rfl) ?_ | refine oo (Pj rfl (by omega) (by omega)) ?_ | refine oo (Pk rfl (by omega) (by omega)) ?_ | refine oo (Pf rfl) ?_ | refine oo (Pv rfl (by omega) (by omega)) ?_ | refine oo (Pn rfl) ?_ | refine oo (Pm rfl) ?_ | refine os rfl rfl ?_ | refine ot rfl (by omega) ?_ | refine O_nil ?_) | refine wo rfl ?_ | refine wc rfl ?_ | refine wg rfl ?_ | refine go rfl ?_ | refine gc rfl ?_ | refine gg rfl ?_)
  exact G_fin ⟨_, rfl, cs', .rfl, hp, hs⟩

theorem codesNil_c (F : Mem) : HC Try.prog 41 #[.slice none 0 0] F (fun v M' => ∃ b', v = .slice (some ⟨b', 0, none⟩) 0 0 ∧ M' = ⟨true, b', 0, []⟩ :: F) := by
  refine HC_of_W (fn := Try.f41) Try.func41 rfl rfl rfl rfl ?_
  repeat' (first | (refine isO ?_; first | refine oo (Pc rfl) ?_ | refine oo (Pa rfl (by omega) (by omega)) ?_ | (refine ob rfl ?_ ?_ <;> intro hq <;> try (exfalso; omega)) | refine oo (Pi rfl (by omega)) ?_ | refine oo (Pl rfl) ?_ | refine oo (Px rfl rfl) ?_ | refine oo (Pj rfl (by omega) (by omega)) ?_ | refine oo (Pk rfl (by omega) (by omega)) ?_ | refine oo (Pf rfl) ?_ | refine oo (Pv rfl (by omega) (by omega)) ?_ | refine oo (Pn rfl) ?_ | refine oo (Pm rfl) ?_ | refine os rfl rfl ?_ | refine ot rfl (by omega) ?_ | refine O_nil ?_) | refine wo rfl ?_ | refine wc rfl ?_ | refine wg rfl ?_ | refine go rfl ?_ | refine gc rfl ?_ | refine gg rfl ?_)
  refine O_buildSlice rfl row79_0 trivial rfl fun b0 => ?_
  repeat' (first | (refine isO ?_; first | refine oo (Pc rfl) ?_ | refine oo (Pa rfl (by omega) (by omega)) ?_ | (refine ob rfl ?_ ?_ <;> intro hq <;> try (exfalso; omega)) | refine oo (Pi rfl (by omega)) ?_ | refine oo (Pl rfl) ?_ | refine oo (Px rfl rfl) ?_ | refine oo (Pj rfl (by omega) (by omega)) ?_ | refine oo (Pk rfl (by omega) (by omega)) ?_ | refine oo (Pf rfl) ?_ | refine oo (Pv rfl (by omega) (by omega)) ?_ | refine oo (Pn rfl) ?_ | refine oo (Pm rfl) ?_ | refine os rfl rfl ?_ | refine ot rfl (by omega) ?_ | refine O_nil ?_) | refine wo rfl ?_ | refine wc rfl ?_ | refine wg rfl ?_ | refine go rfl ?_ | refine gc rfl ?_ | refine gg rfl ?_)
  refine W_loop (α := Unit) (fun _ => [(3, .slice (some ⟨b0, 0, none⟩) 0 0), (8, .int .i64 0), (9, .int .i64 0)]) (fun _ => ⟨true, b0, 0, []⟩ :: F) (fun _ => True) (fun _ => 0) () trivial ⟨rfl, rfl, rfl, trivial⟩ .rfl ?_
  rintro _ _
  repeat' (first | (refine isO ?_; first | refine oo (Pc rfl) ?_ | refine oo (Pa rfl (by omega) (by omega)) ?_ | (refine ob rfl ?_ ?_ <;> intro hq <;> try (exfalso; omega)) | refine oo (Pi rfl (by omega)) ?_ | refine oo (Pl rfl) ?_ | refine oo (Px rfl rfl) ?_ | refine oo (Pj rfl (by omega) (by omega)) ?_ | refine oo (Pk rfl (by omega) (by omega)) ?_ | refine oo (Pf rfl) ?_ | refine oo (Pv rfl (by omega) (by omega)) ?_ | refine oo (Pn rfl) ?_ | refine oo (Pm rfl) ?_ | refine os rfl rfl ?_ | refine ot rfl (by omega) ?_ | refine O_nil ?_) | refine wo rfl ?_ | refine wc rfl ?_ | refine wg rfl ?_ | refine go rfl ?_ | refine gc rfl ?_ | refine gg rfl ?_)
  exact G_fin ⟨_, rfl, b0, rfl, rfl⟩
/-- impl.codes of any row of codes that is owned. -/
theorem codesZ_c (v : Value) (cs : List Cd) (m F : Mem) (h : Own v 4 (codesV cs) m) (hn : cs.length ≤ 100) :
    HC Try.prog 41 #[v] (m ++ F) (fun r M' => ∃ b' cap' sp', r = .slice (some ⟨b', 0, none⟩) cs.length cap' ∧ M' = ⟨true, b', 0, codesV cs ++ sp'⟩ :: (m ++ F)) := by
  rcases h with ⟨rfl, he, rfl⟩ | ⟨b, n, c, sp, rfl, rfl, hl, hc⟩
  · have h0 : cs.length = 0 := by have := codesV_length cs; rw [he] at this; simp only [List.length_nil] at this; omega
    refine (codesNil_c _).mono ?_
    rintro _ _ ⟨b', rfl, rfl⟩
    exact ⟨b', 0, [], by rw [h0], by rw [he]; rfl⟩
  · have e : n = cs.length := by have := codesV_length cs; omega
    subst e
    refine (codes_c cs true b c sp F hn).mono ?_
    rintro _ _ ⟨b', c', s', rfl, _, rfl⟩
    exact ⟨b', c', s', rfl, rfl⟩

theorem sorted24_c (v : Value) (cs : List Cd) (m F : Mem) (h : Own v 4 (codesV cs) m) (hn : cs.length ≤ 100) :
    HC Try.prog 24 #[v] (m ++ F) (fun r M' => ∃ cs' m', Own r 4 (codesV cs') m' ∧ cs'.Perm cs ∧ Asc Cd.sym 0 cs.length cs' ∧ Rk M' (m' ++ (m ++ F))) := by
  refine HC_of_W (fn := Try.f24) Try.func24 rfl rfl rfl rfl ?_
  repeat' (first | (refine isO ?_; first | refine oo (Pc rfl) ?_ | refine oo (Pa rfl (by omega) (by omega)) ?_ | (refine ob rfl ?_ ?_ <;> intro hq <;> try (exfalso; omega)) | refine oo (Pi rfl (by omega)) ?_ | refine oo (Pl rfl) ?_ | refine oo (Px rfl rfl) ?_ | refine oo (Pj rfl (by omega) (by omega)) ?_ | refine oo (Pk rfl (by omega) (by omega)) ?_ | refine oo (Pf rfl) ?_ | refine oo (Pv rfl (by omega) (by omega)) ?_ | refine oo (Pn rfl) ?_ | refine oo (Pm rfl) ?_ | refine os rfl rfl ?_ | refine ot rfl (by omega) ?_ | refine O_nil ?_) | refine wo rfl ?_ | refine wc rfl ?_ | refine wg rfl ?_ | refine go rfl ?_ | refine gc rfl ?_ | refine gg rfl ?_)
  refine O_call rfl rfl Tb.k41 trivial rfl (codesZ_c v cs m F h hn) ?_
  rintro _ _ ⟨b, c, sp, rfl, rfl⟩
  repeat' (first | (refine isO ?_; first | refine oo (Pc rfl) ?_ | refine oo (Pa rfl (by omega) (by omega)) ?_ | (refine ob rfl ?_ ?_ <;> intro hq <;> try (exfalso; omega)) | refine oo (Pi rfl (by omega)) ?_ | refine oo (Pl rfl) ?_ | refine oo (Px rfl rfl) ?_ | refine oo (Pj rfl (by omega) (by omega)) ?_ | refine oo (Pk rfl (by omega) (by omega)) ?_ | refine oo (Pf rfl) ?_ | refine oo (Pv rfl (by omega) (by omega)) ?_ | refine oo (Pn rfl) ?_ | refine oo (Pm rfl) ?_ | refine os rfl rfl ?_ | refine ot rfl (by omega) ?_ | refine O_nil ?_) | refine wo rfl ?_ | refine wc rfl ?_ | refine wg rfl ?_ | refine go rfl ?_ | refine gc rfl ?_ | refine gg rfl ?_)
  refine O_call rfl rfl Tb.k65 trivial rfl (sort65_c b c sp cs _ hn) ?_
  rintro _ _ ⟨cs', hrk, hp, hs⟩
  refine O_weak hrk ?_
  clear hrk
  rw [← hp.length_eq]
  repeat' (first | (refine isO ?_; first | refine oo (Pc rfl) ?_ | refine oo (Pa rfl (by omega) (by omega)) ?_ | (refine ob rfl ?_ ?_ <;> intro hq <;> try (exfalso; omega)) | refine oo (Pi rfl (by omega)) ?_ | refine oo (Pl rfl) ?_ | refine oo (Px rfl rfl) ?_ | refine oo (Pj rfl (by omega) (by omega)) ?_ | refine oo (Pk rfl (by omega) (by omega)) ?_ | refine oo (Pf rfl) ?_ | refine oo (Pv rfl (by omega) (by omega)) ?_ | refine oo (Pn rfl) ?_ | refine oo (Pm rfl) ?_ | refine os rfl rfl ?_ | refine ot rfl (by omega) ?_ | refine O_nil ?_) | refine wo rfl ?_ | refine wc rfl ?_ | refine wg rfl ?_ | refine go rfl ?_ | refine gc rfl ?_ | refine gg rfl ?_)
  refine O_call rfl rfl Tb.k43 trivial rfl (uncodes_c cs' true b c sp _ (by rw [hp.length_eq]; exact hn)) ?_
  rintro r _ ⟨m', hown, hrk⟩
  refine O_weak (.trans hrk (.drop .rfl)) ?_
  repeat' (first | (refine isO ?_; first | refine oo (Pc rfl) ?_ | refine oo (Pa rfl (by omega) (by omega)) ?_ | (refine ob rfl ?_ ?_ <;> intro hq <;> try (exfalso; omega)) | refine oo (Pi rfl (by omega)) ?_ | refine oo (Pl rfl) ?_ | refine oo (Px rfl rfl) ?_ | refine oo (Pj rfl (by omega) (by omega)) ?_ | refine oo (Pk rfl (by omega) (by omega)) ?_ | refine oo (Pf rfl) ?_ | refine oo (Pv rfl (by omega) (by omega)) ?_ | refine oo (Pn rfl) ?_ | refine oo (Pm rfl) ?_ | refine os rfl rfl ?_ | refine ot rfl (by omega) ?_ | refine O_nil ?_) | refine wo rfl ?_ | refine wc rfl ?_ | refine wg rfl ?_ | refine go rfl ?_ | refine gc rfl ?_ | refine gg rfl ?_)
  exact G_fin ⟨_, rfl, cs', m', hown, hp, by rw [hp.length_eq]; exact hs, .rfl⟩
theorem sorted25_c (v : Value) (cs : List Cd) (m F : Mem) (h : Own v 4 (codesV cs) m) (hn : cs.length ≤ 100) (hsy : ∀ c ∈ cs, c.sym < 4294967296) :
    HC Try.prog 25 #[v] (m ++ F) (fun r M' => ∃ cs' m', Own r 4 (codesV cs') m' ∧ cs'.Perm cs ∧ Asc cntKey 0 cs.length cs' ∧ Rk M' (m' ++ (m ++ F))) := by
  refine HC_of_W (fn := Try.f25) Try.func25 rfl rfl rfl rfl ?_
  repeat' (first | (refine isO ?_; first | refine oo (Pc rfl) ?_ | refine oo (Pa rfl (by omega) (by omega)) ?_ | (refine ob rfl ?_ ?_ <;> intro hq <;> try (exfalso; omega)) | refine oo (Pi rfl (by omega)) ?_ | refine oo (Pl rfl) ?_ | refine oo (Px rfl rfl) ?_ | refine oo (Pj rfl (by omega) (by omega)) ?_ | refine oo (Pk rfl (by omega) (by omega)) ?_ | refine oo (Pf rfl) ?_ | refine oo (Pv rfl (by omega) (by omega)) ?_ | refine oo (Pn rfl) ?_ | refine oo (Pm rfl) ?_ | refine os rfl rfl ?_ | refine ot rfl (by omega) ?_ | refine O_nil ?_) | refine wo rfl ?_ | refine wc rfl ?_ | refine wg rfl ?_ | refine go rfl ?_ | refine gc rfl ?_ | refine gg rfl ?_)
  refine O_call rfl rfl Tb.k41 trivial rfl (codesZ_c v cs m F h hn) ?_
  rintro _ _ ⟨b, c, sp, rfl, rfl⟩
  repeat' (first | (refine isO ?_; first | refine oo (Pc rfl) ?_ | refine oo (Pa rfl (by omega) (by omega)) ?_ | (refine ob rfl ?_ ?_ <;> intro hq <;> try (exfalso; omega)) | refine oo (Pi rfl (by omega)) ?_ | refine oo (Pl rfl) ?_ | refine oo (Px rfl rfl) ?_ | refine oo (Pj rfl (by omega) (by omega)) ?_ | refine oo (Pk rfl (by omega) (by omega)) ?_ | refine oo (Pf rfl) ?_ | refine oo (Pv rfl (by omega) (by omega)) ?_ | refine oo (Pn rfl) ?_ | refine oo (Pm rfl) ?_ | refine os rfl rfl ?_ | refine ot rfl (by omega) ?_ | refine O_nil ?_) | refine wo rfl ?_ | refine wc rfl ?_ | refine wg rfl ?_ | refine go rfl ?_ | refine gc rfl ?_ | refine gg rfl ?_)
  refine O_call rfl rfl Tb.k66 trivial rfl (sort66_c b c sp cs _ hn hsy) ?_
  rintro _ _ ⟨cs', hrk, hp, hs⟩
  refine O_weak hrk ?_
  clear hrk
  rw [← hp.length_eq]
  repeat' (first | (refine isO ?_; first | refine oo (Pc rfl) ?_ | refine oo (Pa rfl (by omega) (by omega)) ?_ | (refine ob rfl ?_ ?_ <;> intro hq <;> try (exfalso; omega)) | refine oo (Pi rfl (by omega)) ?_ | refine oo (Pl rfl) ?_ | refine oo (Px rfl rfl) ?_ | refine oo (Pj rfl (by omega) (by omega)) ?_ | refine oo (Pk rfl (by omega) (by omega)) ?_ | refine oo (Pf rfl) ?_ | refine oo (Pv rfl (by omega) (by omega)) ?_ | refine oo (Pn rfl) ?_ | refine oo (Pm rfl) ?_ | refine os rfl rfl ?_ | refine ot rfl (by omega) ?_ | refine O_nil ?_) | refine wo rfl ?_ | refine wc rfl ?_ | refine wg rfl ?_ | refine go rfl ?_ | refine gc rfl ?_ | refine gg rfl ?_)
  refine O_call rfl rfl Tb.k43 trivial rfl (uncodes_c cs' true b c sp _ (by rw [hp.length_eq]; exact hn)) ?_
  rintro r _ ⟨m', hown, hrk⟩
  refine O_weak (.trans hrk (.drop .rfl)) ?_
  repeat' (first | (refine isO ?_; first | refine oo (Pc rfl) ?_ | refine oo (Pa rfl (by omega) (by omega)) ?_ | (refine ob rfl ?_ ?_ <;> intro hq <;> try (exfalso; omega)) | refine oo (Pi rfl (by omega)) ?_ | refine oo (Pl rfl) ?_ | refine oo (Px rfl rfl) ?_ | refine oo (Pj rfl (by omega) (by omega)) ?_ | refine oo (Pk rfl (by omega) (by omega)) ?_ | refine oo (Pf rfl) ?_ | refine oo (Pv rfl (by omega) (by omega)) ?_ | refine oo (Pn rfl) ?_ | refine oo (Pm rfl) ?_ | refine os rfl rfl ?_ | refine ot rfl (by omega) ?_ | refine O_nil ?_) | refine wo rfl ?_ | refine wc rfl ?_ | refine wg rfl ?_ | refine go rfl ?_ | refine gc rfl ?_ | refine gg rfl ?_)
  exact G_fin ⟨_, rfl, cs', m', hown, hp, by rw [hp.length_eq]; exact hs, .rfl⟩

/-- spec.CodeOf finds the first code with a symbol. -/
theorem codeOfG_c (cs : List Cd) (k v b cap : Nat) (own : Bool) (sp : List Value) (M : Mem) (hm : (⟨own, b, 0, codesV cs ++ sp⟩ : Sg) ∈ M) (hn : cs.length ≤ 100) (hk : k < cs.length) (hv : (cs.getD k Cd.zero).sym = v) (hb : v < 4294967296) (hsy : ∀ c ∈ cs, c.sym < 4294967296)
    (hu : ∀ i, i < k → (cs.getD i Cd.zero).sym ≠ v) :
    HC Try.prog 26 #[.slice (some ⟨b, 0, none⟩) cs.length cap, .int .u64 v] M (fun r M' => r = .tuple #[.agg (cs.getD k Cd.zero).cells.toArray, .bool true] ∧ Rk M' M) := by
  refine HC_of_WR (fn := Try.f26) Try.func26 rfl rfl rfl rfl ?_
  repeat' (first | (refine isO ?_; first | refine oo (Pc rfl) ?_ | refine oo (Pa rfl (by omega) (by omega)) ?_ | (refine ob rfl ?_ ?_ <;> intro hq <;> try (exfalso; omega)) | refine oo (Pi rfl (by omega)) ?_ | refine oo (Pl rfl) ?_ | refine oo (Px rfl rfl) ?_ | refine oo (Pj rfl (by omega) (by omega)) ?_ | refine oo (Pk rfl (by omega) (by omega)) ?_ | refine oo (Pf rfl) ?_ | refine oo (Pv rfl (by omega) (by omega)) ?_ | refine oo (Pn rfl) ?_ | refine oo (Pm rfl) ?_ | refine os rfl rfl ?_ | refine ot rfl (by omega) ?_ | refine O_nil ?_) | refine wo rfl ?_ | refine wc rfl ?_ | refine wg rfl ?_ | refine go rfl ?_ | refine gc rfl ?_ | refine gg rfl ?_)
  refine O_alloc zero42 trivial rfl fun b4 => ?_
  repeat' (first | (refine isO ?_; first | refine oo (Pc rfl) ?_ | refine oo (Pa rfl (by omega) (by omega)) ?_ | (refine ob rfl ?_ ?_ <;> intro hq <;> try (exfalso; omega)) | refine oo (Pi rfl (by omega)) ?_ | refine oo (Pl rfl) ?_ | refine oo (Px rfl rfl) ?_ | refine oo (Pj rfl (by omega) (by omega)) ?_ | refine oo (Pk rfl (by omega) (by omega)) ?_ | refine oo (Pf rfl) ?_ | refine oo (Pv rfl (by omega) (by omega)) ?_ | refine oo (Pn rfl) ?_ | refine oo (Pm rfl) ?_ | refine os rfl rfl ?_ | refine ot rfl (by omega) ?_ | refine O_nil ?_) | refine wo rfl ?_ | refine wc rfl ?_ | refine wg rfl ?_ | refine go rfl ?_ | refine gc rfl ?_ | refine gg rfl ?_)
  refine W_loop (α := Nat) (fun i => [(0, .slice (some ⟨b, 0, none⟩) cs.length cap), (1, .int .u64 v), (4, .pointer (some ⟨b4, 0, none⟩)), (6, .int .i64 i)]) (fun _ => ⟨true, b4, 0, [.int .u32 0, .int .u32 0, .int .u32 0, .int .u32 0]⟩ :: M) (fun i => i ≤ k) (fun i => cs.length - i)
    0 (Nat.zero_le _) ⟨rfl, rfl, rfl, rfl, trivial⟩ .rfl ?_
  rintro i hi
  try dsimp only
  repeat' (first | (refine isO ?_; first | refine oo (Pc rfl) ?_ | refine oo (Pa rfl (by omega) (by omega)) ?_ | (refine ob rfl ?_ ?_ <;> intro hq <;> try (exfalso; omega)) | refine oo (Pi rfl (by omega)) ?_ | refine oo (Pl rfl) ?_ | refine oo (Px rfl rfl) ?_ | refine oo (Pj rfl (by omega) (by omega)) ?_ | refine oo (Pk rfl (by omega) (by omega)) ?_ | refine oo (Pf rfl) ?_ | refine oo (Pv rfl (by omega) (by omega)) ?_ | refine oo (Pn rfl) ?_ | refine oo (Pm rfl) ?_ | refine os rfl rfl ?_ | refine ot rfl (by omega) ?_ | refine O_nil ?_) | refine wo rfl ?_ | refine wc rfl ?_ | refine wg rfl ?_ | refine go rfl ?_ | refine gc rfl ?_ | refine gg rfl ?_)
  · have hil : i < cs.length := by omega
    have hg0 := codesV_f cs sp i hil
    have hmem : cs.getD i Cd.zero ∈ cs := by simp [hil]
    have hs1 := hsy _ hmem
    have hui := hu i
    refine O_pure (P_loadAt (o := 0) (n := i * 4) Tb.p40 rfl (by omega) (.tail _ hm) hg0) trivial rfl ?_
    repeat' (first | (refine isO ?_; first | refine oo (Pc rfl) ?_ | refine oo (Pa rfl (by omega) (by omega)) ?_ | (refine ob rfl ?_ ?_ <;> intro hq <;> try (exfalso; omega)) | refine oo (Pi rfl (by omega)) ?_ | refine oo (Pl rfl) ?_ | refine oo (Px rfl rfl) ?_ | refine oo (Pj rfl (by omega) (by omega)) ?_ | refine oo (Pk rfl (by omega) (by omega)) ?_ | refine oo (Pf rfl) ?_ | refine oo (Pv rfl (by omega) (by omega)) ?_ | refine oo (Pn rfl) ?_ | refine oo (Pm rfl) ?_ | refine os rfl rfl ?_ | refine ot rfl (by omega) ?_ | refine O_nil ?_) | refine wo rfl ?_ | refine wc rfl ?_ | refine wg rfl ?_ | refine go rfl ?_ | refine gc rfl ?_ | refine gg rfl ?_)
    · obtain rfl : i = k := by
        refine Nat.le_antisymm hi (Nat.le_of_not_lt fun hlt => hui hlt (by omega))
      refine O_pure (P_loadAggAt (o := 0) (i := i * 4) (cs := (cs.getD i Cd.zero).cells) Tb.a42 Tb.c42 (by decide) rfl (by omega) (.tail _ hm) (by rw [List.length_append, codesV_length]; omega) (codesV_block cs sp i hil)) trivial rfl ?_
      refine O_storeAgg0 (cs := (cs.getD i Cd.zero).cells) Tb.c42 (by decide) rfl rfl rfl (Cd.cells_one _) trivial .head rfl ?_
      repeat' (first | (refine isO ?_; first | refine oo (Pc rfl) ?_ | refine oo (Pa rfl (by omega) (by omega)) ?_ | (refine ob rfl ?_ ?_ <;> intro hq <;> try (exfalso; omega)) | refine oo (Pi rfl (by omega)) ?_ | refine oo (Pl rfl) ?_ | refine oo (Px rfl rfl) ?_ | refine oo (Pj rfl (by omega) (by omega)) ?_ | refine oo (Pk rfl (by omega) (by omega)) ?_ | refine oo (Pf rfl) ?_ | refine oo (Pv rfl (by omega) (by omega)) ?_ | refine oo (Pn rfl) ?_ | refine oo (Pm rfl) ?_ | refine os rfl rfl ?_ | refine ot rfl (by omega) ?_ | refine O_nil ?_) | refine wo rfl ?_ | refine wc rfl ?_ | refine wg rfl ?_ | refine go rfl ?_ | refine gc rfl ?_ | refine gg rfl ?_)
      exact G_fin ⟨[.agg (cs.getD i Cd.zero).cells.toArray, .bool true], ⟨ResV.agg rfl (.head _) Tb.a42 Tb.c42 (by decide) rfl, ResV.tmp rfl, trivial⟩, rfl, .drop .rfl⟩
    · have hne : i ≠ k := fun e => by subst e; omega
      exact G_stop ⟨i + 1, by omega, by omega, ⟨rfl, rfl, rfl, rfl, trivial⟩, .rfl⟩
end Go.Proofs.Ytjkpfliaflmppaa.Pc

namespace Go.Proofs.Ytjkpfliaflmppaa.Pc
open Go Go.RowKit Go.Proofs.Ytjkpfliaflmppaa.Vm
theorem zero2 : zeroOf Try.prog 2 = some [.int .i64 0] := by kernel_rfl
theorem zero4 : zeroOf Try.prog 4 = some [.bool false] := by kernel_rfl
theorem zero22 : zeroOf Try.prog 22 = some [.slice none 0 0] := by kernel_rfl
theorem zero23 : zeroOf Try.prog 23 = some [.slice none 0 0] := by kernel_rfl
theorem zero94 : zeroOf Try.prog 94 = some [.slice none 0 0, .int .i64 0, .int .i8 0] := by kernel_rfl
theorem zero103 : zeroOf Try.prog 103 = some [.slice none 0 0, .int .u32 0, .int .u32 0] := by kernel_rfl
theorem zero76 : zeroOf Try.prog 76 = some [.int .i64 0, .int .u64 0, .int .u64 0, .slice none 0 0] := by kernel_rfl
theorem len99 : (zeroOf Try.prog 99).map (·.length) = some 518 := by kernel_rfl
theorem zero99 : ∃ c, zeroOf Try.prog 99 = some c ∧ c.length = 518 := by
  have h := len99
  cases hI : zeroOf Try.prog 99 with
  | none => simp [hI] at h
  | some I => simp [hI] at h; exact ⟨I, rfl, h⟩
theorem some109 : (zeroOf Try.prog 109).isSome = true := by kernel_rfl
theorem zero109 : ∃ c, zeroOf Try.prog 109 = some c := Option.isSome_iff_exists.1 some109
end Go.Proofs.Ytjkpfliaflmppaa.Pc
