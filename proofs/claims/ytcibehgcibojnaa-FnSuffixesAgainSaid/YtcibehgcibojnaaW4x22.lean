/- induceSA: the suffixes in their order. Conditions: the text's letters are less than k; the cells tell what is given at first. -/
import Derived.Test.YtcibehgcibojnaaW4x21
import Derived.Test.YtcibehgcibojnaaW4x07

namespace Go.Proofs.Ytcibehgcibojnaa.Saii
open Go Go.RowKit Go.Proofs.Ytcibehgcibojnaa.Vm Go.Proofs.Ytcibehgcibojnaa.Sais
set_option maxHeartbeats 8000000 in
theorem induceSA_c (T : List Nat) (k : Nat) (hT : Txt T k) (G : Nat → Option Nat) (hG : GoodG T G) (hl : ∀ p y, G p = some y → Lms T y) (SA C B : List Int) (h0 : Cel0 T E3L G SA) (hC : Cnt T T.length k C) (hB : B.length = k)
    (own : Bool) (bT oT lT cT bS oS lS cS bB oB lB cB bC oC lC cC : Nat) (F : Mem) (hlT : T.length ≤ lT) (hlS : T.length ≤ lS) (hlB : k ≤ lB) (hlC : k ≤ lC) (hne : bC ≠ bB) :
    HC Try.prog 27 #[.slice (some ⟨bT, oT, none⟩) lT cT, .slice (some ⟨bS, oS, none⟩) lS cS, .slice (some ⟨bC, oC, none⟩) lC cC, .slice (some ⟨bB, oB, none⟩) lB cB, .int .i64 T.length, .int .i64 k]
      (⟨own, bT, oT, ints .i64 (T.map Nat.cast)⟩ :: ⟨true, bS, oS, ints .i64 SA⟩ :: ⟨true, bC, oC, ints .i64 C⟩ :: ⟨true, bB, oB, ints .i64 B⟩ :: F)
      (fun v M' => v = .tuple #[] ∧ ∃ SA' B', Fin3 T k G SA' ∧ SA'.length = T.length ∧ B'.length = k ∧ M' = ⟨own, bT, oT, ints .i64 (T.map Nat.cast)⟩ :: ⟨true, bS, oS, ints .i64 SA'⟩ :: ⟨true, bC, oC, ints .i64 C⟩ :: ⟨true, bB, oB, ints .i64 B'⟩ :: F) := by
  have hn1 := hT.n1
  have hk1 := hT.k1
  have hlt := hT.lt
  have hk0 := hT.k0
  have hlen : (T.map (Nat.cast : Nat → Int)).length = T.length := List.length_map _
  refine HC_of_W (fn := Try.f27) Try.func27 rfl rfl rfl rfl ?_
  repeat' (first|(refine isO ?_;first|refine oo (Pc rfl) ?_|refine oo (Pa rfl (by omega) (by omega)) ?_|(refine ob rfl ?_ ?_<;>intro hq<;>try (exfalso;omega))|refine oo (Pi rfl (by first|omega|(simp only [wr_length];omega))) ?_|refine oo (Pz rfl (by omega) (by omega)) ?_|refine oo (Pl rfl) ?_|refine oo (Px rfl rfl) ?_|refine oo (Pj rfl (by omega) (by omega)) ?_|refine oo (Pk rfl (by omega) (by omega)) ?_|refine oo (Pf rfl) ?_|refine oo (Pv rfl (by omega) (by omega)) ?_|refine oo (Pn rfl) ?_|refine oo (Ph rfl) ?_|refine oo (Pg rfl (by omega) (by omega)) ?_|refine oo (Pe rfl (by omega) (by omega)) ?_|refine oo (Po rfl (by omega) (by omega)) ?_|refine oo (Pm rfl) ?_|refine os rfl rfl ?_|refine ot rfl (by first|omega|(simp only [wr_length];omega)) ?_|refine O_nil ?_)|refine wo rfl ?_|refine wc rfl ?_|refine wg rfl ?_|refine go rfl ?_|refine gc rfl ?_|refine gg rfl ?_)
  (refine W_region_still Tb.mixed (by kernel_rfl) ?_; (repeat' (first | (refine isS ?_; first | refine ss (Pc rfl) ?_ | refine ss (Pa rfl (by omega) (by omega)) ?_ | (refine sb rfl ?_ ?_ <;> intro hq <;> try (exfalso; omega)) | refine ss (Pi rfl (by first | omega | (simp only [wr_length]; omega))) ?_ | refine ss (Pz rfl (by omega) (by omega)) ?_ | refine ss (Pl rfl) ?_ | refine ss (Px rfl rfl) ?_ | refine ss (Pj rfl (by omega) (by omega)) ?_ | refine ss (Pk rfl (by omega) (by omega)) ?_ | refine ss (Pf rfl) ?_ | refine ss (Pv rfl (by omega) (by omega)) ?_ | refine ss (Pn rfl) ?_ | refine ss (Ph rfl) ?_ | refine ss (Pg rfl (by omega) (by omega)) ?_ | refine ss (Pe rfl (by omega) (by omega)) ?_ | refine ss (Po rfl (by omega) (by omega)) ?_ | refine ss (Pm rfl) ?_ | refine OS_nil ?_))); refine OS_pure (Sai.P_peq3 rfl rfl (.tail _ (.tail _ (.head _))) (.tail _ (.tail _ (.tail _ (.head _)))) hne) trivial rfl ?_; (repeat' (first | (refine isS ?_; first | refine ss (Pc rfl) ?_ | refine ss (Pa rfl (by omega) (by omega)) ?_ | (refine sb rfl ?_ ?_ <;> intro hq <;> try (exfalso; omega)) | refine ss (Pi rfl (by first | omega | (simp only [wr_length]; omega))) ?_ | refine ss (Pz rfl (by omega) (by omega)) ?_ | refine ss (Pl rfl) ?_ | refine ss (Px rfl rfl) ?_ | refine ss (Pj rfl (by omega) (by omega)) ?_ | refine ss (Pk rfl (by omega) (by omega)) ?_ | refine ss (Pf rfl) ?_ | refine ss (Pv rfl (by omega) (by omega)) ?_ | refine ss (Pn rfl) ?_ | refine ss (Ph rfl) ?_ | refine ss (Pg rfl (by omega) (by omega)) ?_ | refine ss (Pe rfl (by omega) (by omega)) ?_ | refine ss (Po rfl (by omega) (by omega)) ?_ | refine ss (Pm rfl) ?_ | refine OS_nil ?_))))
  repeat' (first|(refine isO ?_;first|refine oo (Pc rfl) ?_|refine oo (Pa rfl (by omega) (by omega)) ?_|(refine ob rfl ?_ ?_<;>intro hq<;>try (exfalso;omega))|refine oo (Pi rfl (by first|omega|(simp only [wr_length];omega))) ?_|refine oo (Pz rfl (by omega) (by omega)) ?_|refine oo (Pl rfl) ?_|refine oo (Px rfl rfl) ?_|refine oo (Pj rfl (by omega) (by omega)) ?_|refine oo (Pk rfl (by omega) (by omega)) ?_|refine oo (Pf rfl) ?_|refine oo (Pv rfl (by omega) (by omega)) ?_|refine oo (Pn rfl) ?_|refine oo (Ph rfl) ?_|refine oo (Pg rfl (by omega) (by omega)) ?_|refine oo (Pe rfl (by omega) (by omega)) ?_|refine oo (Po rfl (by omega) (by omega)) ?_|refine oo (Pm rfl) ?_|refine os rfl rfl ?_|refine ot rfl (by first|omega|(simp only [wr_length];omega)) ?_|refine O_nil ?_)|refine wo rfl ?_|refine wc rfl ?_|refine wg rfl ?_|refine go rfl ?_|refine gc rfl ?_|refine gg rfl ?_)
  refine O_weak (M' := ⟨true, bC, oC, ints .i64 C⟩ :: ⟨true, bB, oB, ints .i64 B⟩ :: ⟨own, bT, oT, ints .i64 (T.map Nat.cast)⟩ :: ⟨true, bS, oS, ints .i64 SA⟩ :: F) (by repeat (first | exact .rfl | exact .nil | (apply Rk.cons; (· exact TakeI.out)) | refine .drop ?_)) ?_
  refine O_call rfl rfl Tb.k22 trivial rfl (begins_c T k hT C B bB oB lB cB bC oC lC cC _ hlB hlC hC hB) ?_
  rintro _ _ ⟨rfl, B1, hB1, rfl⟩
  obtain ⟨hb0, hst⟩ := RL3.start hT hG hB1 h0
  have hSl := h0.1
  have hB1l := hB1.1
  have e1 : rd (T.map Nat.cast) ((T.length : Int) - 1) = (ch T (T.length - 1) : Nat) := by rw [rd_ch', show ((T.length : Int) - 1).toNat = T.length - 1 by omega]
  have e2 : rd B1 (rd (T.map Nat.cast) ((T.length : Int) - 1)) = (bst T (ch T (T.length - 1)) : Nat) := by rw [e1]; exact hB1.2 _ (hlt _)
  have e3 : rd (T.map Nat.cast) ((T.length : Int) - 1 - 1) = (ch T (T.length - 2) : Nat) := by rw [rd_ch', show ((T.length : Int) - 1 - 1).toNat = T.length - 2 by omega]
  have c1 := hlt (T.length - 1)
  have c2 := hlt (T.length - 2)
  have hn0 := hT.n0
  have hcmp : (0 < T.length - 1 ∧ ch T (T.length - 2) < ch T (T.length - 1)) ∨ ¬ (0 < T.length - 1 ∧ ch T (T.length - 2) < ch T (T.length - 1)) := Decidable.em _
  rcases hcmp with hcmp | hcmp
  all_goals
    repeat' (first|(refine isO ?_;first|refine oo (Pc rfl) ?_|refine oo (Pa rfl (by omega) (by omega)) ?_|(refine ob rfl ?_ ?_<;>intro hq<;>try (exfalso;omega))|refine oo (Pi rfl (by first|omega|(simp only [wr_length];omega))) ?_|refine oo (Pz rfl (by omega) (by omega)) ?_|refine oo (Pl rfl) ?_|refine oo (Px rfl rfl) ?_|refine oo (Pj rfl (by omega) (by omega)) ?_|refine oo (Pk rfl (by omega) (by omega)) ?_|refine oo (Pf rfl) ?_|refine oo (Pv rfl (by omega) (by omega)) ?_|refine oo (Pn rfl) ?_|refine oo (Ph rfl) ?_|refine oo (Pg rfl (by omega) (by omega)) ?_|refine oo (Pe rfl (by omega) (by omega)) ?_|refine oo (Po rfl (by omega) (by omega)) ?_|refine oo (Pm rfl) ?_|refine os rfl rfl ?_|refine ot rfl (by first|omega|(simp only [wr_length];omega)) ?_|refine O_nil ?_)|refine wo rfl ?_|refine wc rfl ?_|refine wg rfl ?_|refine go rfl ?_|refine gc rfl ?_|refine gg rfl ?_)
  all_goals
    rw [e2, e1]
    refine W_loop (α := Nat × List Int × List Int × Nat × Nat) (fun x => [(0, .slice (some ⟨bT, oT, none⟩) lT cT), (1, .slice (some ⟨bS, oS, none⟩) lS cS), (2, .slice (some ⟨bC, oC, none⟩) lC cC), (3, .slice (some ⟨bB, oB, none⟩) lB cB), (4, .int .i64 T.length), (5, .int .i64 k), (12, .int .i64 x.2.2.2.1), (13, .int .i64 x.1), (16, .int .i64 x.2.2.2.2)])
      (fun x => ⟨own, bT, oT, ints .i64 (T.map Nat.cast)⟩ :: ⟨true, bS, oS, ints .i64 x.2.1⟩ :: ⟨true, bC, oC, ints .i64 C⟩ :: ⟨true, bB, oB, ints .i64 x.2.2.1⟩ :: F) (fun x => x.1 ≤ T.length ∧ RL3 T k G x.1 x.2.1 x.2.2.1 x.2.2.2.1 x.2.2.2.2) (fun x => T.length - x.1)
      (0, _, B1, bst T (ch T (T.length - 1)) + 1, ch T (T.length - 1)) ⟨by omega, hst _ (by first | exact (if_pos hcmp).symm | exact (if_neg hcmp).symm)⟩ ⟨rfl, rfl, rfl, rfl, rfl, rfl, rfl, rfl, rfl, trivial⟩ (by repeat (first | exact .rfl | exact .nil | (apply Rk.cons; (· exact TakeI.out)) | refine .drop ?_)) ?_
    clear hst e1 e2 e3 c1 c2 hcmp hb0 h0 hSl hB1 hB1l hB
    rintro ⟨i, SA1, B2, b, c⟩ ⟨hi, hr⟩
    dsimp only at hi hr ⊢
    obtain ⟨hl1, hl2, hl3⟩ := hr.len
    by_cases hin : i < T.length
    · rcases hr.step hG hlt hin with ⟨hx, hx2, hr'⟩ | ⟨j, q, hx, hx0, hjn, hqn, hiq, hq, hr'⟩
      · repeat' (first|(refine isO ?_;first|refine oo (Pc rfl) ?_|refine oo (Pa rfl (by omega) (by omega)) ?_|(refine ob rfl ?_ ?_<;>intro hq<;>try (exfalso;omega))|refine oo (Pi rfl (by first|omega|(simp only [wr_length];omega))) ?_|refine oo (Pz rfl (by omega) (by omega)) ?_|refine oo (Pl rfl) ?_|refine oo (Px rfl rfl) ?_|refine oo (Pj rfl (by omega) (by omega)) ?_|refine oo (Pk rfl (by omega) (by omega)) ?_|refine oo (Pf rfl) ?_|refine oo (Pv rfl (by omega) (by omega)) ?_|refine oo (Pn rfl) ?_|refine oo (Ph rfl) ?_|refine oo (Pg rfl (by omega) (by omega)) ?_|refine oo (Pe rfl (by omega) (by omega)) ?_|refine oo (Po rfl (by omega) (by omega)) ?_|refine oo (Pm rfl) ?_|refine os rfl rfl ?_|refine ot rfl (by first|omega|(simp only [wr_length];omega)) ?_|refine O_nil ?_)|refine wo rfl ?_|refine wc rfl ?_|refine wg rfl ?_|refine go rfl ?_|refine gc rfl ?_|refine gg rfl ?_)
        exact G_stop ⟨(i + 1, _, B2, b, c), ⟨by dsimp only; omega, hr'⟩, by dsimp only; omega, ⟨rfl, rfl, rfl, rfl, rfl, rfl, rfl, rfl, rfl, trivial⟩, .rfl⟩
      · have e4 : rd (T.map Nat.cast) (rd SA1 i - 1) = (ch T j : Nat) := by rw [hx]; exact rd_ch _ _
        have e6 : rd (T.map Nat.cast) (rd SA1 i - 1 - 1) = (ch T (j - 1) : Nat) := by rw [hx, rd_ch', show ((j : Int) - 1).toNat = j - 1 by omega]
        have c1 := hlt j
        have c2 := hlt (j - 1)
        have hcmp : (0 < j ∧ ch T (j - 1) < ch T j) ∨ ¬ (0 < j ∧ ch T (j - 1) < ch T j) := Decidable.em _
        rcases hq with ⟨hq1, hq2⟩ | ⟨hq1, hq2⟩
        · subst hq2
          rw [if_pos hq1] at hr'
          rcases hcmp with hcmp | hcmp
          all_goals
            repeat' (first|(refine isO ?_;first|refine oo (Pc rfl) ?_|refine oo (Pa rfl (by omega) (by omega)) ?_|(refine ob rfl ?_ ?_<;>intro hq<;>try (exfalso;omega))|refine oo (Pi rfl (by first|omega|(simp only [wr_length];omega))) ?_|refine oo (Pz rfl (by omega) (by omega)) ?_|refine oo (Pl rfl) ?_|refine oo (Px rfl rfl) ?_|refine oo (Pj rfl (by omega) (by omega)) ?_|refine oo (Pk rfl (by omega) (by omega)) ?_|refine oo (Pf rfl) ?_|refine oo (Pv rfl (by omega) (by omega)) ?_|refine oo (Pn rfl) ?_|refine oo (Ph rfl) ?_|refine oo (Pg rfl (by omega) (by omega)) ?_|refine oo (Pe rfl (by omega) (by omega)) ?_|refine oo (Po rfl (by omega) (by omega)) ?_|refine oo (Pm rfl) ?_|refine os rfl rfl ?_|refine ot rfl (by first|omega|(simp only [wr_length];omega)) ?_|refine O_nil ?_)|refine wo rfl ?_|refine wc rfl ?_|refine wg rfl ?_|refine go rfl ?_|refine gc rfl ?_|refine gg rfl ?_)
          all_goals
            rw [hx]
            exact G_stop ⟨(i + 1, _, B2, q + 1, ch T j), ⟨by dsimp only; omega, hr' _ (by first | exact (if_pos hcmp).symm | exact (if_neg hcmp).symm)⟩, by dsimp only; omega, ⟨rfl, rfl, rfl, rfl, rfl, rfl, rfl, rfl, by rw [hq1]; rfl, trivial⟩, .rfl⟩
        · have e5 : rd (wr B2 c b) (rd (T.map Nat.cast) (rd SA1 i - 1)) = q := by rw [e4]; exact hq2
          rw [if_neg hq1] at hr'
          rcases hcmp with hcmp | hcmp
          all_goals
            repeat' (first|(refine isO ?_;first|refine oo (Pc rfl) ?_|refine oo (Pa rfl (by omega) (by omega)) ?_|(refine ob rfl ?_ ?_<;>intro hq<;>try (exfalso;omega))|refine oo (Pi rfl (by first|omega|(simp only [wr_length];omega))) ?_|refine oo (Pz rfl (by omega) (by omega)) ?_|refine oo (Pl rfl) ?_|refine oo (Px rfl rfl) ?_|refine oo (Pj rfl (by omega) (by omega)) ?_|refine oo (Pk rfl (by omega) (by omega)) ?_|refine oo (Pf rfl) ?_|refine oo (Pv rfl (by omega) (by omega)) ?_|refine oo (Pn rfl) ?_|refine oo (Ph rfl) ?_|refine oo (Pg rfl (by omega) (by omega)) ?_|refine oo (Pe rfl (by omega) (by omega)) ?_|refine oo (Po rfl (by omega) (by omega)) ?_|refine oo (Pm rfl) ?_|refine os rfl rfl ?_|refine ot rfl (by first|omega|(simp only [wr_length];omega)) ?_|refine O_nil ?_)|refine wo rfl ?_|refine wc rfl ?_|refine wg rfl ?_|refine go rfl ?_|refine gc rfl ?_|refine gg rfl ?_)
          all_goals
            rw [e5, e4, hx]
            exact G_stop ⟨(i + 1, _, _, q + 1, ch T j), ⟨by dsimp only; omega, hr' _ (by first | exact (if_pos hcmp).symm | exact (if_neg hcmp).symm)⟩, by dsimp only; omega, ⟨rfl, rfl, rfl, rfl, rfl, rfl, rfl, rfl, rfl, trivial⟩, .rfl⟩
    · obtain rfl : i = T.length := by omega
      obtain ⟨s, W, f1, f2, f3, f4⟩ := hr.turn hG hl
      repeat' (first|(refine isO ?_;first|refine oo (Pc rfl) ?_|refine oo (Pa rfl (by omega) (by omega)) ?_|(refine ob rfl ?_ ?_<;>intro hq<;>try (exfalso;omega))|refine oo (Pi rfl (by first|omega|(simp only [wr_length];omega))) ?_|refine oo (Pz rfl (by omega) (by omega)) ?_|refine oo (Pl rfl) ?_|refine oo (Px rfl rfl) ?_|refine oo (Pj rfl (by omega) (by omega)) ?_|refine oo (Pk rfl (by omega) (by omega)) ?_|refine oo (Pf rfl) ?_|refine oo (Pv rfl (by omega) (by omega)) ?_|refine oo (Pn rfl) ?_|refine oo (Ph rfl) ?_|refine oo (Pg rfl (by omega) (by omega)) ?_|refine oo (Pe rfl (by omega) (by omega)) ?_|refine oo (Po rfl (by omega) (by omega)) ?_|refine oo (Pm rfl) ?_|refine os rfl rfl ?_|refine ot rfl (by first|omega|(simp only [wr_length];omega)) ?_|refine O_nil ?_)|refine wo rfl ?_|refine wc rfl ?_|refine wg rfl ?_|refine go rfl ?_|refine gc rfl ?_|refine gg rfl ?_)
      (refine W_region_still Tb.mixed (by kernel_rfl) ?_; (repeat' (first | (refine isS ?_; first | refine ss (Pc rfl) ?_ | refine ss (Pa rfl (by omega) (by omega)) ?_ | (refine sb rfl ?_ ?_ <;> intro hq <;> try (exfalso; omega)) | refine ss (Pi rfl (by first | omega | (simp only [wr_length]; omega))) ?_ | refine ss (Pz rfl (by omega) (by omega)) ?_ | refine ss (Pl rfl) ?_ | refine ss (Px rfl rfl) ?_ | refine ss (Pj rfl (by omega) (by omega)) ?_ | refine ss (Pk rfl (by omega) (by omega)) ?_ | refine ss (Pf rfl) ?_ | refine ss (Pv rfl (by omega) (by omega)) ?_ | refine ss (Pn rfl) ?_ | refine ss (Ph rfl) ?_ | refine ss (Pg rfl (by omega) (by omega)) ?_ | refine ss (Pe rfl (by omega) (by omega)) ?_ | refine ss (Po rfl (by omega) (by omega)) ?_ | refine ss (Pm rfl) ?_ | refine OS_nil ?_))); refine OS_pure (Sai.P_peq3 rfl rfl (.tail _ (.tail _ (.head _))) (.tail _ (.tail _ (.tail _ (.head _)))) hne) trivial rfl ?_; (repeat' (first | (refine isS ?_; first | refine ss (Pc rfl) ?_ | refine ss (Pa rfl (by omega) (by omega)) ?_ | (refine sb rfl ?_ ?_ <;> intro hq <;> try (exfalso; omega)) | refine ss (Pi rfl (by first | omega | (simp only [wr_length]; omega))) ?_ | refine ss (Pz rfl (by omega) (by omega)) ?_ | refine ss (Pl rfl) ?_ | refine ss (Px rfl rfl) ?_ | refine ss (Pj rfl (by omega) (by omega)) ?_ | refine ss (Pk rfl (by omega) (by omega)) ?_ | refine ss (Pf rfl) ?_ | refine ss (Pv rfl (by omega) (by omega)) ?_ | refine ss (Pn rfl) ?_ | refine ss (Ph rfl) ?_ | refine ss (Pg rfl (by omega) (by omega)) ?_ | refine ss (Pe rfl (by omega) (by omega)) ?_ | refine ss (Po rfl (by omega) (by omega)) ?_ | refine ss (Pm rfl) ?_ | refine OS_nil ?_))))
      repeat' (first|(refine isO ?_;first|refine oo (Pc rfl) ?_|refine oo (Pa rfl (by omega) (by omega)) ?_|(refine ob rfl ?_ ?_<;>intro hq<;>try (exfalso;omega))|refine oo (Pi rfl (by first|omega|(simp only [wr_length];omega))) ?_|refine oo (Pz rfl (by omega) (by omega)) ?_|refine oo (Pl rfl) ?_|refine oo (Px rfl rfl) ?_|refine oo (Pj rfl (by omega) (by omega)) ?_|refine oo (Pk rfl (by omega) (by omega)) ?_|refine oo (Pf rfl) ?_|refine oo (Pv rfl (by omega) (by omega)) ?_|refine oo (Pn rfl) ?_|refine oo (Ph rfl) ?_|refine oo (Pg rfl (by omega) (by omega)) ?_|refine oo (Pe rfl (by omega) (by omega)) ?_|refine oo (Po rfl (by omega) (by omega)) ?_|refine oo (Pm rfl) ?_|refine os rfl rfl ?_|refine ot rfl (by first|omega|(simp only [wr_length];omega)) ?_|refine O_nil ?_)|refine wo rfl ?_|refine wc rfl ?_|refine wg rfl ?_|refine go rfl ?_|refine gc rfl ?_|refine gg rfl ?_)
      refine O_weak (M' := ⟨true, bC, oC, ints .i64 C⟩ :: ⟨true, bB, oB, ints .i64 B2⟩ :: ⟨own, bT, oT, ints .i64 (T.map Nat.cast)⟩ :: ⟨true, bS, oS, ints .i64 SA1⟩ :: F) (by repeat (first | exact .rfl | exact .nil | (apply Rk.cons; (· exact TakeI.out)) | refine .drop ?_)) ?_
      refine O_call rfl rfl Tb.k22 trivial rfl (ends_c T k hT C B2 bB oB lB cB bC oC lC cC _ hlB hlC hC hl2) ?_
      rintro _ _ ⟨rfl, B3, hB3, rfl⟩
      have hB3l := hB3.1
      have e7 : rd B3 0 = (bst T (0 + 1) : Nat) := hB3.2 0 hk0
      have f5 := f4 B3 0 hB3 hk0
      have hb1 := bst_le T (0 + 1)
      repeat' (first|(refine isO ?_;first|refine oo (Pc rfl) ?_|refine oo (Pa rfl (by omega) (by omega)) ?_|(refine ob rfl ?_ ?_<;>intro hq<;>try (exfalso;omega))|refine oo (Pi rfl (by first|omega|(simp only [wr_length];omega))) ?_|refine oo (Pz rfl (by omega) (by omega)) ?_|refine oo (Pl rfl) ?_|refine oo (Px rfl rfl) ?_|refine oo (Pj rfl (by omega) (by omega)) ?_|refine oo (Pk rfl (by omega) (by omega)) ?_|refine oo (Pf rfl) ?_|refine oo (Pv rfl (by omega) (by omega)) ?_|refine oo (Pn rfl) ?_|refine oo (Ph rfl) ?_|refine oo (Pg rfl (by omega) (by omega)) ?_|refine oo (Pe rfl (by omega) (by omega)) ?_|refine oo (Po rfl (by omega) (by omega)) ?_|refine oo (Pm rfl) ?_|refine os rfl rfl ?_|refine ot rfl (by first|omega|(simp only [wr_length];omega)) ?_|refine O_nil ?_)|refine wo rfl ?_|refine wc rfl ?_|refine wg rfl ?_|refine go rfl ?_|refine gc rfl ?_|refine gg rfl ?_)
      rw [e7]
      generalize bst T (0 + 1) = b0 at *
      clear f4 e7 hr hi hin hl1 hl2 hl3 hB3
      refine W_loop (α := Nat × List Int × List Int × Nat × Nat) (fun x => [(0, .slice (some ⟨bT, oT, none⟩) lT cT), (1, .slice (some ⟨bS, oS, none⟩) lS cS), (2, .slice (some ⟨bC, oC, none⟩) lC cC), (3, .slice (some ⟨bB, oB, none⟩) lB cB), (4, .int .i64 T.length), (5, .int .i64 k), (12, .int .i64 x.2.2.2.1), (13, .int .i64 ((x.1 : Int) - 1)), (16, .int .i64 x.2.2.2.2)])
        (fun x => ⟨own, bT, oT, ints .i64 (T.map Nat.cast)⟩ :: ⟨true, bS, oS, ints .i64 x.2.1⟩ :: ⟨true, bC, oC, ints .i64 C⟩ :: ⟨true, bB, oB, ints .i64 x.2.2.1⟩ :: F) (fun x => x.1 ≤ T.length ∧ RS3 T k (GH T (fun _ => True) s) (T.length - x.1) x.2.1 x.2.2.1 x.2.2.2.1 x.2.2.2.2) (fun x => x.1)
        (T.length, SA1, B3, b0, 0) ⟨Nat.le_refl _, by dsimp only; rw [Nat.sub_self]; exact f5⟩ ⟨rfl, rfl, rfl, rfl, rfl, rfl, rfl, rfl, rfl, trivial⟩ (by repeat (first | exact .rfl | exact .nil | (apply Rk.cons; (· exact TakeI.out)) | refine .drop ?_)) ?_
      clear f5 hb1 hB3l
      rintro ⟨r, SA1, B2, b, c⟩ ⟨hi, hr⟩
      dsimp only at hi hr ⊢
      obtain ⟨hl1, hl2, hl3, hl5⟩ := hr.len
      cases r with
      | zero =>
        repeat' (first|(refine isO ?_;first|refine oo (Pc rfl) ?_|refine oo (Pa rfl (by omega) (by omega)) ?_|(refine ob rfl ?_ ?_<;>intro hq<;>try (exfalso;omega))|refine oo (Pi rfl (by first|omega|(simp only [wr_length];omega))) ?_|refine oo (Pz rfl (by omega) (by omega)) ?_|refine oo (Pl rfl) ?_|refine oo (Px rfl rfl) ?_|refine oo (Pj rfl (by omega) (by omega)) ?_|refine oo (Pk rfl (by omega) (by omega)) ?_|refine oo (Pf rfl) ?_|refine oo (Pv rfl (by omega) (by omega)) ?_|refine oo (Pn rfl) ?_|refine oo (Ph rfl) ?_|refine oo (Pg rfl (by omega) (by omega)) ?_|refine oo (Pe rfl (by omega) (by omega)) ?_|refine oo (Po rfl (by omega) (by omega)) ?_|refine oo (Pm rfl) ?_|refine os rfl rfl ?_|refine ot rfl (by first|omega|(simp only [wr_length];omega)) ?_|refine O_nil ?_)|refine wo rfl ?_|refine wc rfl ?_|refine wg rfl ?_|refine go rfl ?_|refine gc rfl ?_|refine gg rfl ?_)
        exact G_fin ⟨_, rfl, rfl, SA1, B2, ⟨s, W, f1, f2, f3, B2, b, c, hr⟩, hl1, hl2, rfl⟩
      | succ u =>
        have hst := hr.step f3 hlt (u := u) (by omega)
        rw [show T.length - (u + 1) + 1 = T.length - u by omega] at hst
        rw [show (((u + 1 : Nat) : Int) - 1) = (u : Int) by omega]
        rcases hst with ⟨hx, hx2, hr'⟩ | ⟨j, q, hx, hx0, hjn, hqu, hq, hr'⟩
        · repeat' (first|(refine isO ?_;first|refine oo (Pc rfl) ?_|refine oo (Pa rfl (by omega) (by omega)) ?_|(refine ob rfl ?_ ?_<;>intro hq<;>try (exfalso;omega))|refine oo (Pi rfl (by first|omega|(simp only [wr_length];omega))) ?_|refine oo (Pz rfl (by omega) (by omega)) ?_|refine oo (Pl rfl) ?_|refine oo (Px rfl rfl) ?_|refine oo (Pj rfl (by omega) (by omega)) ?_|refine oo (Pk rfl (by omega) (by omega)) ?_|refine oo (Pf rfl) ?_|refine oo (Pv rfl (by omega) (by omega)) ?_|refine oo (Pn rfl) ?_|refine oo (Ph rfl) ?_|refine oo (Pg rfl (by omega) (by omega)) ?_|refine oo (Pe rfl (by omega) (by omega)) ?_|refine oo (Po rfl (by omega) (by omega)) ?_|refine oo (Pm rfl) ?_|refine os rfl rfl ?_|refine ot rfl (by first|omega|(simp only [wr_length];omega)) ?_|refine O_nil ?_)|refine wo rfl ?_|refine wc rfl ?_|refine wg rfl ?_|refine go rfl ?_|refine gc rfl ?_|refine gg rfl ?_)
          exact G_stop ⟨(u, _, B2, b, c), ⟨by dsimp only; omega, hr'⟩, by dsimp only; omega, ⟨rfl, rfl, rfl, rfl, rfl, rfl, rfl, rfl, rfl, trivial⟩, .rfl⟩
        · have e4 : rd (T.map Nat.cast) (rd SA1 u - 1) = (ch T j : Nat) := by rw [hx]; exact rd_ch _ _
          have e6 : rd (T.map Nat.cast) (rd SA1 u - 1 - 1) = (ch T (j - 1) : Nat) := by rw [hx, rd_ch', show ((j : Int) - 1).toNat = j - 1 by omega]
          have c1 := hlt j
          have c2 := hlt (j - 1)
          have hcmp : (j = 0 ∨ ch T j < ch T (j - 1)) ∨ ¬ (j = 0 ∨ ch T j < ch T (j - 1)) := Decidable.em _
          rcases hq with ⟨hq1, hq2⟩ | ⟨hq1, hq2⟩
          · have e8 : (b : Int) - 1 = q := by omega
            rw [if_pos hq1] at hr'
            rcases hcmp with hcmp | hcmp
            all_goals
              repeat' (first|(refine isO ?_;first|refine oo (Pc rfl) ?_|refine oo (Pa rfl (by omega) (by omega)) ?_|(refine ob rfl ?_ ?_<;>intro hq<;>try (exfalso;omega))|refine oo (Pi rfl (by first|omega|(simp only [wr_length];omega))) ?_|refine oo (Pz rfl (by omega) (by omega)) ?_|refine oo (Pl rfl) ?_|refine oo (Px rfl rfl) ?_|refine oo (Pj rfl (by omega) (by omega)) ?_|refine oo (Pk rfl (by omega) (by omega)) ?_|refine oo (Pf rfl) ?_|refine oo (Pv rfl (by omega) (by omega)) ?_|refine oo (Pn rfl) ?_|refine oo (Ph rfl) ?_|refine oo (Pg rfl (by omega) (by omega)) ?_|refine oo (Pe rfl (by omega) (by omega)) ?_|refine oo (Po rfl (by omega) (by omega)) ?_|refine oo (Pm rfl) ?_|refine os rfl rfl ?_|refine ot rfl (by first|omega|(simp only [wr_length];omega)) ?_|refine O_nil ?_)|refine wo rfl ?_|refine wc rfl ?_|refine wg rfl ?_|refine go rfl ?_|refine gc rfl ?_|refine gg rfl ?_)
            all_goals
              rw [e8, hx]
              exact G_stop ⟨(u, _, B2, q, ch T j), ⟨by dsimp only; omega, hr' _ (by first | exact (if_pos hcmp).symm | exact (if_neg hcmp).symm)⟩, by dsimp only; omega, ⟨rfl, rfl, rfl, rfl, rfl, rfl, rfl, rfl, by rw [hq1]; rfl, trivial⟩, .rfl⟩
          · have e5 : rd (wr B2 c b) (rd (T.map Nat.cast) (rd SA1 u - 1)) = (q + 1 : Nat) := by rw [e4]; exact hq2
            have e8 : ((q + 1 : Nat) : Int) - 1 = q := by omega
            rw [if_neg hq1] at hr'
            rcases hcmp with hcmp | hcmp
            all_goals
              repeat' (first|(refine isO ?_;first|refine oo (Pc rfl) ?_|refine oo (Pa rfl (by omega) (by omega)) ?_|(refine ob rfl ?_ ?_<;>intro hq<;>try (exfalso;omega))|refine oo (Pi rfl (by first|omega|(simp only [wr_length];omega))) ?_|refine oo (Pz rfl (by omega) (by omega)) ?_|refine oo (Pl rfl) ?_|refine oo (Px rfl rfl) ?_|refine oo (Pj rfl (by omega) (by omega)) ?_|refine oo (Pk rfl (by omega) (by omega)) ?_|refine oo (Pf rfl) ?_|refine oo (Pv rfl (by omega) (by omega)) ?_|refine oo (Pn rfl) ?_|refine oo (Ph rfl) ?_|refine oo (Pg rfl (by omega) (by omega)) ?_|refine oo (Pe rfl (by omega) (by omega)) ?_|refine oo (Po rfl (by omega) (by omega)) ?_|refine oo (Pm rfl) ?_|refine os rfl rfl ?_|refine ot rfl (by first|omega|(simp only [wr_length];omega)) ?_|refine O_nil ?_)|refine wo rfl ?_|refine wc rfl ?_|refine wg rfl ?_|refine go rfl ?_|refine gc rfl ?_|refine gg rfl ?_)
            all_goals
              rw [e5, e8, e4, hx]
              exact G_stop ⟨(u, _, _, q, ch T j), ⟨by dsimp only; omega, hr' _ (by first | exact (if_pos hcmp).symm | exact (if_neg hcmp).symm)⟩, by dsimp only; omega, ⟨rfl, rfl, rfl, rfl, rfl, rfl, rfl, rfl, rfl, trivial⟩, .rfl⟩
end Go.Proofs.Ytcibehgcibojnaa.Saii
