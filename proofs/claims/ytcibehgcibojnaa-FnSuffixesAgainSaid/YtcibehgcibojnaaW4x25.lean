/- sortLMS2: the substrings in their order, with marks. Conditions: the text's letters are less than k, two letters at least; the cells tell what is given at first. -/
import Derived.Test.YtcibehgcibojnaaW4x21
import Derived.Test.YtcibehgcibojnaaW4x10
import Derived.Test.YtcibehgcibojnaaW4x11

namespace Go.Proofs.Ytcibehgcibojnaa.Saii
open Go Go.RowKit Go.Proofs.Ytcibehgcibojnaa.Vm Go.Proofs.Ytcibehgcibojnaa.Sais
set_option maxHeartbeats 16000000 in
theorem sortLMS2_c (T : List Nat) (k : Nat) (hT : Txt T k) (hn : 2 ≤ T.length) (G : Nat → Option Nat) (hS : Seeds1 T G) (z : Nat) (hz : Lms T z) (hzG : ∀ p y, G p = some y → z < y) (SA C B D : List Int) (h0 : Cel2 T G SA) (hC : Cnt T T.length k C) (hB : B.length = k) (hD : D.length = 2 * k ∧ ∀ t, t < 2 * k → rd D (t : Int) = 0)
    (own : Bool) (bT oT lT cT bS oS lS cS bB oB lB cB bC oC lC cC bD oD lD cD : Nat) (F : Mem) (hlT : T.length ≤ lT) (hlS : T.length ≤ lS) (hlB : k ≤ lB) (hlC : k ≤ lC) (hlD : 2 * k ≤ lD) :
    HC Try.prog 23 #[.slice (some ⟨bT, oT, none⟩) lT cT, .slice (some ⟨bS, oS, none⟩) lS cS, .slice (some ⟨bC, oC, none⟩) lC cC, .slice (some ⟨bB, oB, none⟩) lB cB, .slice (some ⟨bD, oD, none⟩) lD cD, .int .i64 T.length, .int .i64 k]
      (⟨own, bT, oT, ints .i64 (T.map Nat.cast)⟩ :: ⟨true, bS, oS, ints .i64 SA⟩ :: ⟨true, bC, oC, ints .i64 C⟩ :: ⟨true, bB, oB, ints .i64 B⟩ :: ⟨true, bD, oD, ints .i64 D⟩ :: F)
      (fun v M' => v = .tuple #[] ∧ ∃ SA' B' D', Sorted2 T SA' ∧ B'.length = k ∧ D'.length = 2 * k ∧ M' = ⟨own, bT, oT, ints .i64 (T.map Nat.cast)⟩ :: ⟨true, bS, oS, ints .i64 SA'⟩ :: ⟨true, bC, oC, ints .i64 C⟩ :: ⟨true, bB, oB, ints .i64 B'⟩ :: ⟨true, bD, oD, ints .i64 D'⟩ :: F) := by
  have hG := hS.good
  have hl := hS.lms
  have hn1 := hT.n1
  have hk1 := hT.k1
  have hlt := hT.lt
  have hk0 := hT.k0
  have hlen : (T.map (Nat.cast : Nat → Int)).length = T.length := List.length_map _
  refine HC_of_W (fn := Try.f23) Try.func23 rfl rfl rfl rfl ?_
  repeat' (first|(refine isO ?_;first|refine oo (Pc rfl) ?_|refine oo (Pa rfl (by omega) (by omega)) ?_|(refine ob rfl ?_ ?_<;>intro hq<;>try (exfalso;omega))|refine oo (Pi rfl (by first|omega|(simp only [wr_length];omega))) ?_|refine oo (Pz rfl (by omega) (by omega)) ?_|refine oo (Pl rfl) ?_|refine oo (Px rfl rfl) ?_|refine oo (Pj rfl (by omega) (by omega)) ?_|refine oo (Pk rfl (by omega) (by omega)) ?_|refine oo (Pf rfl) ?_|refine oo (Pv rfl (by omega) (by omega)) ?_|refine oo (Pn rfl) ?_|refine oo (Ph rfl) ?_|refine oo (Pg rfl (by omega) (by omega)) ?_|refine oo (Pe rfl (by omega) (by omega)) ?_|refine oo (Po rfl (by omega) (by omega)) ?_|refine oo (Pm rfl) ?_|refine os rfl rfl ?_|refine ot rfl (by first|omega|(simp only [wr_length];omega)) ?_|refine O_nil ?_)|refine wo rfl ?_|refine wc rfl ?_|refine wg rfl ?_|refine go rfl ?_|refine gc rfl ?_|refine gg rfl ?_)
  refine O_weak (M' := ⟨true, bC, oC, ints .i64 C⟩ :: ⟨true, bB, oB, ints .i64 B⟩ :: ⟨own, bT, oT, ints .i64 (T.map Nat.cast)⟩ :: ⟨true, bS, oS, ints .i64 SA⟩ :: ⟨true, bD, oD, ints .i64 D⟩ :: F) (by repeat (first | exact .rfl | exact .nil | (apply Rk.cons; (· exact TakeI.out)) | refine .drop ?_)) ?_
  refine O_call rfl rfl Tb.k22 trivial rfl (begins_c T k hT C B bB oB lB cB bC oC lC cC _ hlB hlC hC hB) ?_
  rintro _ _ ⟨rfl, B1, hB1, rfl⟩
  obtain ⟨hb0, hst⟩ := RL2.start hT hn hG hl hz hzG hB1 h0 hD
  have hSl := h0.1
  have hB1l := hB1.1
  have hDl := hD.1
  have e1 : rd (T.map Nat.cast) ((T.length : Int) - 1) = (ch T (T.length - 1) : Nat) := by rw [rd_ch', show ((T.length : Int) - 1).toNat = T.length - 1 by omega]
  have e2 : rd B1 (rd (T.map Nat.cast) ((T.length : Int) - 1)) = (bst T (ch T (T.length - 1)) : Nat) := by rw [e1]; exact hB1.2 _ (hlt _)
  have e3 : rd (T.map Nat.cast) ((T.length : Int) - 1 - 1) = (ch T (T.length - 2) : Nat) := by rw [rd_ch', show ((T.length : Int) - 1 - 1).toNat = T.length - 2 by omega]
  have c1 := hlt (T.length - 1)
  have c2 := hlt (T.length - 2)
  have hstop : Stop [7, 11] := ⟨⟩
  repeat' (first|(refine isO ?_;first|refine oo (Pc rfl) ?_|refine oo (Pa rfl (by omega) (by omega)) ?_|(refine ob rfl ?_ ?_<;>intro hq<;>try (exfalso;omega))|refine oo (Pi rfl (by first|omega|(simp only [wr_length];omega))) ?_|refine oo (Pz rfl (by omega) (by omega)) ?_|refine oo (Pl rfl) ?_|refine oo (Px rfl rfl) ?_|refine oo (Pj rfl (by omega) (by omega)) ?_|refine oo (Pk rfl (by omega) (by omega)) ?_|refine oo (Pf rfl) ?_|refine oo (Pv rfl (by omega) (by omega)) ?_|refine oo (Pn rfl) ?_|refine oo (Ph rfl) ?_|refine oo (Pg rfl (by omega) (by omega)) ?_|refine oo (Pe rfl (by omega) (by omega)) ?_|refine oo (Po rfl (by omega) (by omega)) ?_|refine oo (Pm rfl) ?_|refine os rfl rfl ?_|refine ot rfl (by first|omega|(simp only [wr_length];omega)) ?_|refine O_nil ?_)|refine wu hstop rfl rfl ?_|refine gu hstop rfl rfl ?_|refine wc rfl ?_|refine wg rfl ?_|refine gc rfl ?_|refine gg rfl ?_)
  rw [e2, e1]
  refine W_join1 (fun E' M' => ∃ t : Int, ((ch T (T.length - 2) < ch T (T.length - 1) ∧ t = 1) ∨ (¬ ch T (T.length - 2) < ch T (T.length - 1) ∧ t = 0)) ∧ Sub E' [(0, .slice (some ⟨bT, oT, none⟩) lT cT), (1, .slice (some ⟨bS, oS, none⟩) lS cS), (2, .slice (some ⟨bC, oC, none⟩) lC cC), (3, .slice (some ⟨bB, oB, none⟩) lB cB), (4, .slice (some ⟨bD, oD, none⟩) lD cD), (5, .int .i64 T.length), (6, .int .i64 k), (14, .int .i64 (bst T (ch T (T.length - 1)) : Nat)), (16, .int .i64 ((T.length : Int) - 1 - 1)), (17, .int .i64 t), (20, .int .i64 (ch T (T.length - 1) : Nat))] ∧ Rk M' (⟨own, bT, oT, ints .i64 (T.map Nat.cast)⟩ :: ⟨true, bS, oS, ints .i64 SA⟩ :: ⟨true, bC, oC, ints .i64 C⟩ :: ⟨true, bB, oB, ints .i64 B1⟩ :: ⟨true, bD, oD, ints .i64 D⟩ :: F)) ?_ ?_
  · by_cases hcmp : ch T (T.length - 2) < ch T (T.length - 1)
    · repeat' (first|(refine isO ?_;first|refine oo (Pc rfl) ?_|refine oo (Pa rfl (by omega) (by omega)) ?_|(refine ob rfl ?_ ?_<;>intro hq<;>try (exfalso;omega))|refine oo (Pi rfl (by first|omega|(simp only [wr_length];omega))) ?_|refine oo (Pz rfl (by omega) (by omega)) ?_|refine oo (Pl rfl) ?_|refine oo (Px rfl rfl) ?_|refine oo (Pj rfl (by omega) (by omega)) ?_|refine oo (Pk rfl (by omega) (by omega)) ?_|refine oo (Pf rfl) ?_|refine oo (Pv rfl (by omega) (by omega)) ?_|refine oo (Pn rfl) ?_|refine oo (Ph rfl) ?_|refine oo (Pg rfl (by omega) (by omega)) ?_|refine oo (Pe rfl (by omega) (by omega)) ?_|refine oo (Po rfl (by omega) (by omega)) ?_|refine oo (Pm rfl) ?_|refine os rfl rfl ?_|refine ot rfl (by first|omega|(simp only [wr_length];omega)) ?_|refine O_nil ?_)|refine wo rfl ?_|refine wc rfl ?_|refine wg rfl ?_|refine go rfl ?_|refine gc rfl ?_|refine gg rfl ?_)
      exact G_stop ⟨1, .inl ⟨hcmp, rfl⟩, by (repeat (first | exact trivial | refine ⟨rfl, ?_⟩)), by repeat (first | exact .rfl | exact .nil | (apply Rk.cons; (· exact TakeI.out)) | refine .drop ?_)⟩
    · repeat' (first|(refine isO ?_;first|refine oo (Pc rfl) ?_|refine oo (Pa rfl (by omega) (by omega)) ?_|(refine ob rfl ?_ ?_<;>intro hq<;>try (exfalso;omega))|refine oo (Pi rfl (by first|omega|(simp only [wr_length];omega))) ?_|refine oo (Pz rfl (by omega) (by omega)) ?_|refine oo (Pl rfl) ?_|refine oo (Px rfl rfl) ?_|refine oo (Pj rfl (by omega) (by omega)) ?_|refine oo (Pk rfl (by omega) (by omega)) ?_|refine oo (Pf rfl) ?_|refine oo (Pv rfl (by omega) (by omega)) ?_|refine oo (Pn rfl) ?_|refine oo (Ph rfl) ?_|refine oo (Pg rfl (by omega) (by omega)) ?_|refine oo (Pe rfl (by omega) (by omega)) ?_|refine oo (Po rfl (by omega) (by omega)) ?_|refine oo (Pm rfl) ?_|refine os rfl rfl ?_|refine ot rfl (by first|omega|(simp only [wr_length];omega)) ?_|refine O_nil ?_)|refine wo rfl ?_|refine wc rfl ?_|refine wg rfl ?_|refine go rfl ?_|refine gc rfl ?_|refine gg rfl ?_)
      exact G_stop ⟨0, .inr ⟨hcmp, rfl⟩, by (repeat (first | exact trivial | refine ⟨rfl, ?_⟩)), by repeat (first | exact .rfl | exact .nil | (apply Rk.cons; (· exact TakeI.out)) | refine .drop ?_)⟩
  rintro E' M' ⟨t, ht, hsub, hrk⟩
  refine G_code (W_weak hsub hrk ?_)
  clear hsub hrk E' M'
  repeat' (first|(refine isO ?_;first|refine oo (Pc rfl) ?_|refine oo (Pa rfl (by omega) (by omega)) ?_|(refine ob rfl ?_ ?_<;>intro hq<;>try (exfalso;omega))|refine oo (Pi rfl (by first|omega|(simp only [wr_length];omega))) ?_|refine oo (Pz rfl (by omega) (by omega)) ?_|refine oo (Pl rfl) ?_|refine oo (Px rfl rfl) ?_|refine oo (Pj rfl (by omega) (by omega)) ?_|refine oo (Pk rfl (by omega) (by omega)) ?_|refine oo (Pf rfl) ?_|refine oo (Pv rfl (by omega) (by omega)) ?_|refine oo (Pn rfl) ?_|refine oo (Ph rfl) ?_|refine oo (Pg rfl (by omega) (by omega)) ?_|refine oo (Pe rfl (by omega) (by omega)) ?_|refine oo (Po rfl (by omega) (by omega)) ?_|refine oo (Pm rfl) ?_|refine os rfl rfl ?_|refine ot rfl (by first|omega|(simp only [wr_length];omega)) ?_|refine O_nil ?_)|refine wu hstop rfl rfl ?_|refine gu hstop rfl rfl ?_|refine wc rfl ?_|refine wg rfl ?_|refine gc rfl ?_|refine gg rfl ?_)
  refine W_join1 (fun E' M' => ∃ SA', RL2 T k z G 0 SA' B1 D (bst T (ch T (T.length - 1)) + 1) (ch T (T.length - 1)) 0 ∧ Sub E' [(0, .slice (some ⟨bT, oT, none⟩) lT cT), (1, .slice (some ⟨bS, oS, none⟩) lS cS), (2, .slice (some ⟨bC, oC, none⟩) lC cC), (3, .slice (some ⟨bB, oB, none⟩) lB cB), (4, .slice (some ⟨bD, oD, none⟩) lD cD), (5, .int .i64 T.length), (6, .int .i64 k), (14, .int .i64 (bst T (ch T (T.length - 1)) : Nat)), (20, .int .i64 (ch T (T.length - 1) : Nat))] ∧ Rk M' (⟨own, bT, oT, ints .i64 (T.map Nat.cast)⟩ :: ⟨true, bS, oS, ints .i64 SA'⟩ :: ⟨true, bC, oC, ints .i64 C⟩ :: ⟨true, bB, oB, ints .i64 B1⟩ :: ⟨true, bD, oD, ints .i64 D⟩ :: F)) ?_ ?_
  · clear hstop
    rcases ht with ⟨hcmp, rfl⟩ | ⟨hcmp, rfl⟩
    all_goals
      repeat' (first|(refine isO ?_;first|refine oo (Pc rfl) ?_|refine oo (Pa rfl (by omega) (by omega)) ?_|(refine ob rfl ?_ ?_<;>intro hq<;>try (exfalso;omega))|refine oo (Pi rfl (by first|omega|(simp only [wr_length];omega))) ?_|refine oo (Pz rfl (by omega) (by omega)) ?_|refine oo (Pl rfl) ?_|refine oo (Px rfl rfl) ?_|refine oo (Pj rfl (by omega) (by omega)) ?_|refine oo (Pk rfl (by omega) (by omega)) ?_|refine oo (Pf rfl) ?_|refine oo (Pv rfl (by omega) (by omega)) ?_|refine oo (Pn rfl) ?_|refine oo (Ph rfl) ?_|refine oo (Pg rfl (by omega) (by omega)) ?_|refine oo (Pe rfl (by omega) (by omega)) ?_|refine oo (Po rfl (by omega) (by omega)) ?_|refine oo (Pm rfl) ?_|refine os rfl rfl ?_|refine ot rfl (by first|omega|(simp only [wr_length];omega)) ?_|refine O_nil ?_)|refine wo rfl ?_|refine wc rfl ?_|refine wg rfl ?_|refine go rfl ?_|refine gc rfl ?_|refine gg rfl ?_)
      exact G_stop ⟨_, hst _ (by first | exact (if_pos hcmp).symm | exact (if_neg hcmp).symm), by (repeat (first | exact trivial | refine ⟨rfl, ?_⟩)), by repeat (first | exact .rfl | exact .nil | (apply Rk.cons; (· exact TakeI.out)) | refine .drop ?_)⟩
  clear ht e1 e2 e3 c2 hst h0 hSl hB1 hB1l hB hstop
  rintro E' M' ⟨SA1, hr, hsub, hrk⟩
  refine G_code (W_weak hsub hrk ?_)
  clear hsub hrk E' M'
  repeat' (first|(refine isO ?_;first|refine oo (Pc rfl) ?_|refine oo (Pa rfl (by omega) (by omega)) ?_|(refine ob rfl ?_ ?_<;>intro hq<;>try (exfalso;omega))|refine oo (Pi rfl (by first|omega|(simp only [wr_length];omega))) ?_|refine oo (Pz rfl (by omega) (by omega)) ?_|refine oo (Pl rfl) ?_|refine oo (Px rfl rfl) ?_|refine oo (Pj rfl (by omega) (by omega)) ?_|refine oo (Pk rfl (by omega) (by omega)) ?_|refine oo (Pf rfl) ?_|refine oo (Pv rfl (by omega) (by omega)) ?_|refine oo (Pn rfl) ?_|refine oo (Ph rfl) ?_|refine oo (Pg rfl (by omega) (by omega)) ?_|refine oo (Pe rfl (by omega) (by omega)) ?_|refine oo (Po rfl (by omega) (by omega)) ?_|refine oo (Pm rfl) ?_|refine os rfl rfl ?_|refine ot rfl (by first|omega|(simp only [wr_length];omega)) ?_|refine O_nil ?_)|refine wo rfl ?_|refine wc rfl ?_|refine wg rfl ?_|refine go rfl ?_|refine gc rfl ?_|refine gg rfl ?_)
  refine W_loop (α := Nat × List Int × List Int × List Int × Nat × Nat × Nat) (fun x => [(0, .slice (some ⟨bT, oT, none⟩) lT cT), (1, .slice (some ⟨bS, oS, none⟩) lS cS), (2, .slice (some ⟨bC, oC, none⟩) lC cC), (3, .slice (some ⟨bB, oB, none⟩) lB cB), (4, .slice (some ⟨bD, oD, none⟩) lD cD), (5, .int .i64 T.length), (6, .int .i64 k), (14, .int .i64 x.2.2.2.2.1), (15, .int .i64 x.1), (18, .int .i64 x.2.2.2.2.2.2), (20, .int .i64 x.2.2.2.2.2.1)])
    (fun x => ⟨own, bT, oT, ints .i64 (T.map Nat.cast)⟩ :: ⟨true, bS, oS, ints .i64 x.2.1⟩ :: ⟨true, bC, oC, ints .i64 C⟩ :: ⟨true, bB, oB, ints .i64 x.2.2.1⟩ :: ⟨true, bD, oD, ints .i64 x.2.2.2.1⟩ :: F) (fun x => x.1 ≤ T.length ∧ RL2 T k z G x.1 x.2.1 x.2.2.1 x.2.2.2.1 x.2.2.2.2.1 x.2.2.2.2.2.1 x.2.2.2.2.2.2) (fun x => T.length - x.1)
    (0, SA1, B1, D, bst T (ch T (T.length - 1)) + 1, ch T (T.length - 1), 0) ⟨by omega, hr⟩ (by (repeat (first | exact trivial | refine ⟨rfl, ?_⟩))) (by repeat (first | exact .rfl | exact .nil | (apply Rk.cons; (· exact TakeI.out)) | refine .drop ?_)) ?_
  clear hr hD hDl hb0 c1
  rintro ⟨i, SA1, B2, D1, b, c, d⟩ ⟨hi, hr⟩
  dsimp only at hi hr ⊢
  obtain ⟨hl1, hl2, hl3, hl4, hl5⟩ := hr.len
  by_cases hin : i < T.length
  · rcases hr.step hG hl hlt hz hin with ⟨hx, hr'⟩ | ⟨hx, hx2, hr'⟩ | ⟨j, q, μ, hx, hj1, hjn, hqn, hiq, hQ, hr'⟩
    · repeat' (first|(refine isO ?_;first|refine oo (Pc rfl) ?_|refine oo (Pa rfl (by omega) (by omega)) ?_|(refine ob rfl ?_ ?_<;>intro hq<;>try (exfalso;omega))|refine oo (Pi rfl (by first|omega|(simp only [wr_length];omega))) ?_|refine oo (Pz rfl (by omega) (by omega)) ?_|refine oo (Pl rfl) ?_|refine oo (Px rfl rfl) ?_|refine oo (Pj rfl (by omega) (by omega)) ?_|refine oo (Pk rfl (by omega) (by omega)) ?_|refine oo (Pf rfl) ?_|refine oo (Pv rfl (by omega) (by omega)) ?_|refine oo (Pn rfl) ?_|refine oo (Ph rfl) ?_|refine oo (Pg rfl (by omega) (by omega)) ?_|refine oo (Pe rfl (by omega) (by omega)) ?_|refine oo (Po rfl (by omega) (by omega)) ?_|refine oo (Pm rfl) ?_|refine os rfl rfl ?_|refine ot rfl (by first|omega|(simp only [wr_length];omega)) ?_|refine O_nil ?_)|refine wo rfl ?_|refine wc rfl ?_|refine wg rfl ?_|refine go rfl ?_|refine gc rfl ?_|refine gg rfl ?_)
      exact G_stop ⟨(i + 1, SA1, B2, D1, b, c, d), ⟨by dsimp only; omega, hr'⟩, by dsimp only; omega, by (repeat (first | exact trivial | refine ⟨rfl, ?_⟩)), .rfl⟩
    · repeat' (first|(refine isO ?_;first|refine oo (Pc rfl) ?_|refine oo (Pa rfl (by omega) (by omega)) ?_|(refine ob rfl ?_ ?_<;>intro hq<;>try (exfalso;omega))|refine oo (Pi rfl (by first|omega|(simp only [wr_length];omega))) ?_|refine oo (Pz rfl (by omega) (by omega)) ?_|refine oo (Pl rfl) ?_|refine oo (Px rfl rfl) ?_|refine oo (Pj rfl (by omega) (by omega)) ?_|refine oo (Pk rfl (by omega) (by omega)) ?_|refine oo (Pf rfl) ?_|refine oo (Pv rfl (by omega) (by omega)) ?_|refine oo (Pn rfl) ?_|refine oo (Ph rfl) ?_|refine oo (Pg rfl (by omega) (by omega)) ?_|refine oo (Pe rfl (by omega) (by omega)) ?_|refine oo (Po rfl (by omega) (by omega)) ?_|refine oo (Pm rfl) ?_|refine os rfl rfl ?_|refine ot rfl (by first|omega|(simp only [wr_length];omega)) ?_|refine O_nil ?_)|refine wo rfl ?_|refine wc rfl ?_|refine wg rfl ?_|refine go rfl ?_|refine gc rfl ?_|refine gg rfl ?_)
      exact G_stop ⟨(i + 1, _, B2, D1, b, c, d), ⟨by dsimp only; omega, hr'⟩, by dsimp only; omega, by (repeat (first | exact trivial | refine ⟨rfl, ?_⟩)), .rfl⟩
    · have c1 := hlt j
      have c2 := hlt (j - 1)
      have htt : ((ch T j : Nat) : Int) * 2 = (tt (ch T j) true : Nat) := by simp [tt]; omega
      have htf : ((ch T j : Nat) : Int) * 2 + 1 = (tt (ch T j) false : Nat) := by simp [tt]; omega
      clear hr
      have hstop : Stop [20, 23, 30, 32, 35] := ⟨⟩
      obtain ⟨d', hd'⟩ : ∃ d', d' = d + if μ = true then 1 else 0 := ⟨_, rfl⟩
      obtain ⟨κ, hκ⟩ : ∃ κ, κ = decide (¬ ch T (j - 1) < ch T j) := ⟨_, rfl⟩
      have h9 := hr' κ d' hκ hd'
      clear hr'
      have hmu : 0 ≤ mn T.length μ := by unfold mn; split <;> omega
      repeat' (first|(refine isO ?_;first|refine oo (Pc rfl) ?_|refine oo (Pa rfl (by omega) (by omega)) ?_|(refine ob rfl ?_ ?_<;>intro hq<;>try (exfalso;omega))|refine oo (Pi rfl (by first|omega|(simp only [wr_length];omega))) ?_|refine oo (Pz rfl (by omega) (by omega)) ?_|refine oo (Pl rfl) ?_|refine oo (Px rfl rfl) ?_|refine oo (Pj rfl (by omega) (by omega)) ?_|refine oo (Pk rfl (by omega) (by omega)) ?_|refine oo (Pf rfl) ?_|refine oo (Pv rfl (by omega) (by omega)) ?_|refine oo (Pn rfl) ?_|refine oo (Ph rfl) ?_|refine oo (Pg rfl (by omega) (by omega)) ?_|refine oo (Pe rfl (by omega) (by omega)) ?_|refine oo (Po rfl (by omega) (by omega)) ?_|refine oo (Pm rfl) ?_|refine os rfl rfl ?_|refine ot rfl (by first|omega|(simp only [wr_length];omega)) ?_|refine O_nil ?_)|refine wu hstop rfl rfl ?_|refine gu hstop rfl rfl ?_|refine wc rfl ?_|refine wg rfl ?_|refine gc rfl ?_|refine gg rfl ?_)
      refine W_join1 (fun E' M' => Sub E' [(0, .slice (some ⟨bT, oT, none⟩) lT cT), (1, .slice (some ⟨bS, oS, none⟩) lS cS), (2, .slice (some ⟨bC, oC, none⟩) lC cC), (3, .slice (some ⟨bB, oB, none⟩) lB cB), (4, .slice (some ⟨bD, oD, none⟩) lD cD), (5, .int .i64 T.length), (6, .int .i64 k), (14, .int .i64 b), (15, .int .i64 i), (16, .int .i64 j), (18, .int .i64 d'), (20, .int .i64 c)] ∧ Rk M' (⟨own, bT, oT, ints .i64 (T.map Nat.cast)⟩ :: ⟨true, bS, oS, ints .i64 SA1⟩ :: ⟨true, bC, oC, ints .i64 C⟩ :: ⟨true, bB, oB, ints .i64 B2⟩ :: ⟨true, bD, oD, ints .i64 D1⟩ :: F)) ?_ ?_
      · clear hstop hκ h9 hQ
        cases μ with
        | false =>
          have hx3 : rd SA1 i = (j : Int) := by rw [hx, mn_false, Int.add_zero]
          have hd2 : d' = d := by simpa using hd'
          subst hd2
          clear hd' hx
          repeat' (first|(refine isO ?_;first|refine oo (Pc rfl) ?_|refine oo (Pa rfl (by omega) (by omega)) ?_|(refine ob rfl ?_ ?_<;>intro hq<;>try (exfalso;omega))|refine oo (Pi rfl (by first|omega|(simp only [wr_length];omega))) ?_|refine oo (Pz rfl (by omega) (by omega)) ?_|refine oo (Pl rfl) ?_|refine oo (Px rfl rfl) ?_|refine oo (Pj rfl (by omega) (by omega)) ?_|refine oo (Pk rfl (by omega) (by omega)) ?_|refine oo (Pf rfl) ?_|refine oo (Pv rfl (by omega) (by omega)) ?_|refine oo (Pn rfl) ?_|refine oo (Ph rfl) ?_|refine oo (Pg rfl (by omega) (by omega)) ?_|refine oo (Pe rfl (by omega) (by omega)) ?_|refine oo (Po rfl (by omega) (by omega)) ?_|refine oo (Pm rfl) ?_|refine os rfl rfl ?_|refine ot rfl (by first|omega|(simp only [wr_length];omega)) ?_|refine O_nil ?_)|refine wo rfl ?_|refine wc rfl ?_|refine wg rfl ?_|refine go rfl ?_|refine gc rfl ?_|refine gg rfl ?_)
          rw [hx3]
          exact G_stop ⟨by (repeat (first | exact trivial | refine ⟨rfl, ?_⟩)), .rfl⟩
        | true =>
          have hx3 : rd SA1 i - (T.length : Int) = (j : Int) := by rw [hx, mn_true]; omega
          have hd2 : d' = d + 1 := by simpa using hd'
          subst hd2
          clear hd' hx
          repeat' (first|(refine isO ?_;first|refine oo (Pc rfl) ?_|refine oo (Pa rfl (by omega) (by omega)) ?_|(refine ob rfl ?_ ?_<;>intro hq<;>try (exfalso;omega))|refine oo (Pi rfl (by first|omega|(simp only [wr_length];omega))) ?_|refine oo (Pz rfl (by omega) (by omega)) ?_|refine oo (Pl rfl) ?_|refine oo (Px rfl rfl) ?_|refine oo (Pj rfl (by omega) (by omega)) ?_|refine oo (Pk rfl (by omega) (by omega)) ?_|refine oo (Pf rfl) ?_|refine oo (Pv rfl (by omega) (by omega)) ?_|refine oo (Pn rfl) ?_|refine oo (Ph rfl) ?_|refine oo (Pg rfl (by omega) (by omega)) ?_|refine oo (Pe rfl (by omega) (by omega)) ?_|refine oo (Po rfl (by omega) (by omega)) ?_|refine oo (Pm rfl) ?_|refine os rfl rfl ?_|refine ot rfl (by first|omega|(simp only [wr_length];omega)) ?_|refine O_nil ?_)|refine wo rfl ?_|refine wc rfl ?_|refine wg rfl ?_|refine go rfl ?_|refine gc rfl ?_|refine gg rfl ?_)
          rw [hx3]
          exact G_stop ⟨by (repeat (first | exact trivial | refine ⟨rfl, ?_⟩)), .rfl⟩
      have hd3 : d' ≤ d + 1 := by cases μ <;> simp at hd' <;> omega
      clear hd' hx hmu
      rintro E' M' ⟨hsub, hrk⟩
      refine G_code (W_weak hsub hrk ?_)
      clear hsub hrk E' M'
      repeat' (first|(refine isO ?_;first|refine oo (Pc rfl) ?_|refine oo (Pa rfl (by omega) (by omega)) ?_|(refine ob rfl ?_ ?_<;>intro hq<;>try (exfalso;omega))|refine oo (Pi rfl (by first|omega|(simp only [wr_length];omega))) ?_|refine oo (Pz rfl (by omega) (by omega)) ?_|refine oo (Pl rfl) ?_|refine oo (Px rfl rfl) ?_|refine oo (Pj rfl (by omega) (by omega)) ?_|refine oo (Pk rfl (by omega) (by omega)) ?_|refine oo (Pf rfl) ?_|refine oo (Pv rfl (by omega) (by omega)) ?_|refine oo (Pn rfl) ?_|refine oo (Ph rfl) ?_|refine oo (Pg rfl (by omega) (by omega)) ?_|refine oo (Pe rfl (by omega) (by omega)) ?_|refine oo (Po rfl (by omega) (by omega)) ?_|refine oo (Pm rfl) ?_|refine os rfl rfl ?_|refine ot rfl (by first|omega|(simp only [wr_length];omega)) ?_|refine O_nil ?_)|refine wu hstop rfl rfl ?_|refine gu hstop rfl rfl ?_|refine wc rfl ?_|refine wg rfl ?_|refine gc rfl ?_|refine gg rfl ?_)
      refine W_join1 (fun E' M' => ∃ B3 : List Int, B3 = (if ch T j = c then B2 else wr B2 c b) ∧ Sub E' [(0, .slice (some ⟨bT, oT, none⟩) lT cT), (1, .slice (some ⟨bS, oS, none⟩) lS cS), (2, .slice (some ⟨bC, oC, none⟩) lC cC), (3, .slice (some ⟨bB, oB, none⟩) lB cB), (4, .slice (some ⟨bD, oD, none⟩) lD cD), (5, .int .i64 T.length), (6, .int .i64 k), (14, .int .i64 q), (15, .int .i64 i), (16, .int .i64 j), (18, .int .i64 d'), (19, .int .i64 (ch T j : Nat)), (20, .int .i64 (ch T j : Nat))] ∧ Rk M' (⟨own, bT, oT, ints .i64 (T.map Nat.cast)⟩ :: ⟨true, bS, oS, ints .i64 SA1⟩ :: ⟨true, bC, oC, ints .i64 C⟩ :: ⟨true, bB, oB, ints .i64 B3⟩ :: ⟨true, bD, oD, ints .i64 D1⟩ :: F)) ?_ ?_
      · clear hstop h9 hκ
        have e4 : rd (T.map Nat.cast) (j : Int) = (ch T j : Nat) := rd_ch _ _
        rcases hQ with ⟨hQ1, hQ2⟩ | ⟨hQ1, hQ2⟩
        · subst hQ1
          subst hQ2
          repeat' (first|(refine isO ?_;first|refine oo (Pc rfl) ?_|refine oo (Pa rfl (by omega) (by omega)) ?_|(refine ob rfl ?_ ?_<;>intro hq<;>try (exfalso;omega))|refine oo (Pi rfl (by first|omega|(simp only [wr_length];omega))) ?_|refine oo (Pz rfl (by omega) (by omega)) ?_|refine oo (Pl rfl) ?_|refine oo (Px rfl rfl) ?_|refine oo (Pj rfl (by omega) (by omega)) ?_|refine oo (Pk rfl (by omega) (by omega)) ?_|refine oo (Pf rfl) ?_|refine oo (Pv rfl (by omega) (by omega)) ?_|refine oo (Pn rfl) ?_|refine oo (Ph rfl) ?_|refine oo (Pg rfl (by omega) (by omega)) ?_|refine oo (Pe rfl (by omega) (by omega)) ?_|refine oo (Po rfl (by omega) (by omega)) ?_|refine oo (Pm rfl) ?_|refine os rfl rfl ?_|refine ot rfl (by first|omega|(simp only [wr_length];omega)) ?_|refine O_nil ?_)|refine wo rfl ?_|refine wc rfl ?_|refine wg rfl ?_|refine go rfl ?_|refine gc rfl ?_|refine gg rfl ?_)
          rw [e4]
          exact G_stop ⟨B2, (if_pos rfl).symm, by (repeat (first | exact trivial | refine ⟨rfl, ?_⟩)), .rfl⟩
        · have e5 : rd (wr B2 c b) (rd (T.map Nat.cast) (j : Int)) = q := by rw [e4]; exact hQ2
          repeat' (first|(refine isO ?_;first|refine oo (Pc rfl) ?_|refine oo (Pa rfl (by omega) (by omega)) ?_|(refine ob rfl ?_ ?_<;>intro hq<;>try (exfalso;omega))|refine oo (Pi rfl (by first|omega|(simp only [wr_length];omega))) ?_|refine oo (Pz rfl (by omega) (by omega)) ?_|refine oo (Pl rfl) ?_|refine oo (Px rfl rfl) ?_|refine oo (Pj rfl (by omega) (by omega)) ?_|refine oo (Pk rfl (by omega) (by omega)) ?_|refine oo (Pf rfl) ?_|refine oo (Pv rfl (by omega) (by omega)) ?_|refine oo (Pn rfl) ?_|refine oo (Ph rfl) ?_|refine oo (Pg rfl (by omega) (by omega)) ?_|refine oo (Pe rfl (by omega) (by omega)) ?_|refine oo (Po rfl (by omega) (by omega)) ?_|refine oo (Pm rfl) ?_|refine os rfl rfl ?_|refine ot rfl (by first|omega|(simp only [wr_length];omega)) ?_|refine O_nil ?_)|refine wo rfl ?_|refine wc rfl ?_|refine wg rfl ?_|refine go rfl ?_|refine gc rfl ?_|refine gg rfl ?_)
          rw [e5, e4]
          exact G_stop ⟨_, (if_neg hQ1).symm, by (repeat (first | exact trivial | refine ⟨rfl, ?_⟩)), .rfl⟩
      clear hQ
      rintro E' M' ⟨B3, hB3, hsub, hrk⟩
      refine G_code (W_weak hsub hrk ?_)
      clear hsub hrk E' M'
      rw [← hB3] at h9
      clear hB3
      repeat' (first|(refine isO ?_;first|refine oo (Pc rfl) ?_|refine oo (Pa rfl (by omega) (by omega)) ?_|(refine ob rfl ?_ ?_<;>intro hq<;>try (exfalso;omega))|refine oo (Pi rfl (by first|omega|(simp only [wr_length];omega))) ?_|refine oo (Pz rfl (by omega) (by omega)) ?_|refine oo (Pl rfl) ?_|refine oo (Px rfl rfl) ?_|refine oo (Pj rfl (by omega) (by omega)) ?_|refine oo (Pk rfl (by omega) (by omega)) ?_|refine oo (Pf rfl) ?_|refine oo (Pv rfl (by omega) (by omega)) ?_|refine oo (Pn rfl) ?_|refine oo (Ph rfl) ?_|refine oo (Pg rfl (by omega) (by omega)) ?_|refine oo (Pe rfl (by omega) (by omega)) ?_|refine oo (Po rfl (by omega) (by omega)) ?_|refine oo (Pm rfl) ?_|refine os rfl rfl ?_|refine ot rfl (by first|omega|(simp only [wr_length];omega)) ?_|refine O_nil ?_)|refine wu hstop rfl rfl ?_|refine gu hstop rfl rfl ?_|refine wc rfl ?_|refine wg rfl ?_|refine gc rfl ?_|refine gg rfl ?_)
      refine W_join1 (fun E' M' => Sub E' [(0, .slice (some ⟨bT, oT, none⟩) lT cT), (1, .slice (some ⟨bS, oS, none⟩) lS cS), (2, .slice (some ⟨bC, oC, none⟩) lC cC), (3, .slice (some ⟨bB, oB, none⟩) lB cB), (4, .slice (some ⟨bD, oD, none⟩) lD cD), (5, .int .i64 T.length), (6, .int .i64 k), (14, .int .i64 q), (15, .int .i64 i), (16, .int .i64 ((j : Int) - 1)), (17, .int .i64 (tt (ch T j) κ : Nat)), (18, .int .i64 d'), (20, .int .i64 (ch T j : Nat))] ∧ Rk M' (⟨own, bT, oT, ints .i64 (T.map Nat.cast)⟩ :: ⟨true, bS, oS, ints .i64 SA1⟩ :: ⟨true, bC, oC, ints .i64 C⟩ :: ⟨true, bB, oB, ints .i64 B3⟩ :: ⟨true, bD, oD, ints .i64 D1⟩ :: F)) ?_ ?_
      · clear hstop h9
        have e6 : rd (T.map Nat.cast) ((j : Int) - 1) = (ch T (j - 1) : Nat) := by rw [rd_ch', show ((j : Int) - 1).toNat = j - 1 by omega]
        by_cases hcmp : ch T (j - 1) < ch T j
        · have hk4 : κ = false := by rw [hκ]; simp [hcmp]
          subst hk4
          clear hκ
          repeat' (first|(refine isO ?_;first|refine oo (Pc rfl) ?_|refine oo (Pa rfl (by omega) (by omega)) ?_|(refine ob rfl ?_ ?_<;>intro hq<;>try (exfalso;omega))|refine oo (Pi rfl (by first|omega|(simp only [wr_length];omega))) ?_|refine oo (Pz rfl (by omega) (by omega)) ?_|refine oo (Pl rfl) ?_|refine oo (Px rfl rfl) ?_|refine oo (Pj rfl (by omega) (by omega)) ?_|refine oo (Pk rfl (by omega) (by omega)) ?_|refine oo (Pf rfl) ?_|refine oo (Pv rfl (by omega) (by omega)) ?_|refine oo (Pn rfl) ?_|refine oo (Ph rfl) ?_|refine oo (Pg rfl (by omega) (by omega)) ?_|refine oo (Pe rfl (by omega) (by omega)) ?_|refine oo (Po rfl (by omega) (by omega)) ?_|refine oo (Pm rfl) ?_|refine os rfl rfl ?_|refine ot rfl (by first|omega|(simp only [wr_length];omega)) ?_|refine O_nil ?_)|refine wo rfl ?_|refine wc rfl ?_|refine wg rfl ?_|refine go rfl ?_|refine gc rfl ?_|refine gg rfl ?_)
          rw [htf]
          exact G_stop ⟨by (repeat (first | exact trivial | refine ⟨rfl, ?_⟩)), .rfl⟩
        · have hk4 : κ = true := by rw [hκ]; simp [hcmp]
          subst hk4
          clear hκ
          repeat' (first|(refine isO ?_;first|refine oo (Pc rfl) ?_|refine oo (Pa rfl (by omega) (by omega)) ?_|(refine ob rfl ?_ ?_<;>intro hq<;>try (exfalso;omega))|refine oo (Pi rfl (by first|omega|(simp only [wr_length];omega))) ?_|refine oo (Pz rfl (by omega) (by omega)) ?_|refine oo (Pl rfl) ?_|refine oo (Px rfl rfl) ?_|refine oo (Pj rfl (by omega) (by omega)) ?_|refine oo (Pk rfl (by omega) (by omega)) ?_|refine oo (Pf rfl) ?_|refine oo (Pv rfl (by omega) (by omega)) ?_|refine oo (Pn rfl) ?_|refine oo (Ph rfl) ?_|refine oo (Pg rfl (by omega) (by omega)) ?_|refine oo (Pe rfl (by omega) (by omega)) ?_|refine oo (Po rfl (by omega) (by omega)) ?_|refine oo (Pm rfl) ?_|refine os rfl rfl ?_|refine ot rfl (by first|omega|(simp only [wr_length];omega)) ?_|refine O_nil ?_)|refine wo rfl ?_|refine wc rfl ?_|refine wg rfl ?_|refine go rfl ?_|refine gc rfl ?_|refine gg rfl ?_)
          rw [htt]
          exact G_stop ⟨by (repeat (first | exact trivial | refine ⟨rfl, ?_⟩)), .rfl⟩
      clear hκ
      rintro E' M' ⟨hsub, hrk⟩
      refine G_code (W_weak hsub hrk ?_)
      clear hsub hrk E' M'
      have htk : tt (ch T j) κ < 2 * k := by unfold tt; split <;> omega
      repeat' (first|(refine isO ?_;first|refine oo (Pc rfl) ?_|refine oo (Pa rfl (by omega) (by omega)) ?_|(refine ob rfl ?_ ?_<;>intro hq<;>try (exfalso;omega))|refine oo (Pi rfl (by first|omega|(simp only [wr_length];omega))) ?_|refine oo (Pz rfl (by omega) (by omega)) ?_|refine oo (Pl rfl) ?_|refine oo (Px rfl rfl) ?_|refine oo (Pj rfl (by omega) (by omega)) ?_|refine oo (Pk rfl (by omega) (by omega)) ?_|refine oo (Pf rfl) ?_|refine oo (Pv rfl (by omega) (by omega)) ?_|refine oo (Pn rfl) ?_|refine oo (Ph rfl) ?_|refine oo (Pg rfl (by omega) (by omega)) ?_|refine oo (Pe rfl (by omega) (by omega)) ?_|refine oo (Po rfl (by omega) (by omega)) ?_|refine oo (Pm rfl) ?_|refine os rfl rfl ?_|refine ot rfl (by first|omega|(simp only [wr_length];omega)) ?_|refine O_nil ?_)|refine wu hstop rfl rfl ?_|refine gu hstop rfl rfl ?_|refine wc rfl ?_|refine wg rfl ?_|refine gc rfl ?_|refine gg rfl ?_)
      refine W_join1 (fun E' M' => ∃ D3 : List Int, D3 = (if rd D1 (tt (ch T j) κ : Nat) ≠ (d' : Int) then wr D1 (tt (ch T j) κ : Nat) d' else D1) ∧ Sub E' [(0, .slice (some ⟨bT, oT, none⟩) lT cT), (1, .slice (some ⟨bS, oS, none⟩) lS cS), (2, .slice (some ⟨bC, oC, none⟩) lC cC), (3, .slice (some ⟨bB, oB, none⟩) lB cB), (4, .slice (some ⟨bD, oD, none⟩) lD cD), (5, .int .i64 T.length), (6, .int .i64 k), (14, .int .i64 q), (15, .int .i64 i), (16, .int .i64 ((j : Int) - 1 + mn T.length (decide (rd D1 (tt (ch T j) κ : Nat) ≠ (d' : Int))))), (17, .int .i64 (tt (ch T j) κ : Nat)), (18, .int .i64 d'), (20, .int .i64 (ch T j : Nat))] ∧ Rk M' (⟨own, bT, oT, ints .i64 (T.map Nat.cast)⟩ :: ⟨true, bS, oS, ints .i64 SA1⟩ :: ⟨true, bC, oC, ints .i64 C⟩ :: ⟨true, bB, oB, ints .i64 B3⟩ :: ⟨true, bD, oD, ints .i64 D3⟩ :: F)) ?_ ?_
      · clear hstop h9
        by_cases hdm : rd D1 (tt (ch T j) κ : Nat) = (d' : Int)
        · repeat' (first|(refine isO ?_;first|refine oo (Pc rfl) ?_|refine oo (Pa rfl (by omega) (by omega)) ?_|(refine ob rfl ?_ ?_<;>intro hq<;>try (exfalso;omega))|refine oo (Pi rfl (by first|omega|(simp only [wr_length];omega))) ?_|refine oo (Pz rfl (by omega) (by omega)) ?_|refine oo (Pl rfl) ?_|refine oo (Px rfl rfl) ?_|refine oo (Pj rfl (by omega) (by omega)) ?_|refine oo (Pk rfl (by omega) (by omega)) ?_|refine oo (Pf rfl) ?_|refine oo (Pv rfl (by omega) (by omega)) ?_|refine oo (Pn rfl) ?_|refine oo (Ph rfl) ?_|refine oo (Pg rfl (by omega) (by omega)) ?_|refine oo (Pe rfl (by omega) (by omega)) ?_|refine oo (Po rfl (by omega) (by omega)) ?_|refine oo (Pm rfl) ?_|refine os rfl rfl ?_|refine ot rfl (by first|omega|(simp only [wr_length];omega)) ?_|refine O_nil ?_)|refine wo rfl ?_|refine wc rfl ?_|refine wg rfl ?_|refine go rfl ?_|refine gc rfl ?_|refine gg rfl ?_)
          rw [show decide (rd D1 (tt (ch T j) κ : Nat) ≠ (d' : Int)) = false from decide_eq_false fun h => h hdm, mn_false, Int.add_zero]
          exact G_stop ⟨D1, (if_neg fun h => h hdm).symm, by (repeat (first | exact trivial | refine ⟨rfl, ?_⟩)), .rfl⟩
        · repeat' (first|(refine isO ?_;first|refine oo (Pc rfl) ?_|refine oo (Pa rfl (by omega) (by omega)) ?_|(refine ob rfl ?_ ?_<;>intro hq<;>try (exfalso;omega))|refine oo (Pi rfl (by first|omega|(simp only [wr_length];omega))) ?_|refine oo (Pz rfl (by omega) (by omega)) ?_|refine oo (Pl rfl) ?_|refine oo (Px rfl rfl) ?_|refine oo (Pj rfl (by omega) (by omega)) ?_|refine oo (Pk rfl (by omega) (by omega)) ?_|refine oo (Pf rfl) ?_|refine oo (Pv rfl (by omega) (by omega)) ?_|refine oo (Pn rfl) ?_|refine oo (Ph rfl) ?_|refine oo (Pg rfl (by omega) (by omega)) ?_|refine oo (Pe rfl (by omega) (by omega)) ?_|refine oo (Po rfl (by omega) (by omega)) ?_|refine oo (Pm rfl) ?_|refine os rfl rfl ?_|refine ot rfl (by first|omega|(simp only [wr_length];omega)) ?_|refine O_nil ?_)|refine wo rfl ?_|refine wc rfl ?_|refine wg rfl ?_|refine go rfl ?_|refine gc rfl ?_|refine gg rfl ?_)
          rw [show decide (rd D1 (tt (ch T j) κ : Nat) ≠ (d' : Int)) = true from decide_eq_true hdm, mn_true]
          exact G_stop ⟨_, (if_pos hdm).symm, by (repeat (first | exact trivial | refine ⟨rfl, ?_⟩)), .rfl⟩
      rintro E' M' ⟨D3, hD3, hsub, hrk⟩
      refine G_code (W_weak hsub hrk ?_)
      clear hsub hrk E' M' hstop
      rw [← hD3] at h9
      clear hD3
      have hXb : 0 ≤ mn T.length (decide (rd D1 (tt (ch T j) κ : Nat) ≠ (d' : Int))) ∧ mn T.length (decide (rd D1 (tt (ch T j) κ : Nat) ≠ (d' : Int))) ≤ T.length := by unfold mn; split <;> omega
      generalize mn T.length (decide (rd D1 (tt (ch T j) κ : Nat) ≠ (d' : Int))) = X at *
      cases κ with
      | false =>
        have ht2 : ((tt (ch T j) false : Nat) : Int) % 2 = 1 := by rw [← htf]; omega
        rw [if_neg (by decide)] at h9
        repeat' (first|(refine isO ?_;first|refine oo (Pc rfl) ?_|refine oo (Pa rfl (by omega) (by omega)) ?_|(refine ob rfl ?_ ?_<;>intro hq<;>try (exfalso;omega))|refine oo (Pi rfl (by first|omega|(simp only [wr_length];omega))) ?_|refine oo (Pz rfl (by omega) (by omega)) ?_|refine oo (Pl rfl) ?_|refine oo (Px rfl rfl) ?_|refine oo (Pj rfl (by omega) (by omega)) ?_|refine oo (Pk rfl (by omega) (by omega)) ?_|refine oo (Pf rfl) ?_|refine oo (Pv rfl (by omega) (by omega)) ?_|refine oo (Pn rfl) ?_|refine oo (Ph rfl) ?_|refine oo (Pg rfl (by omega) (by omega)) ?_|refine oo (Pe rfl (by omega) (by omega)) ?_|refine oo (Po rfl (by omega) (by omega)) ?_|refine oo (Pm rfl) ?_|refine os rfl rfl ?_|refine ot rfl (by first|omega|(simp only [wr_length];omega)) ?_|refine O_nil ?_)|refine wo rfl ?_|refine wc rfl ?_|refine wg rfl ?_|refine go rfl ?_|refine gc rfl ?_|refine gg rfl ?_)
        exact G_stop ⟨(i + 1, _, B3, D3, q + 1, ch T j, d'), ⟨by dsimp only; omega, h9⟩, by dsimp only; omega, by (repeat (first | exact trivial | refine ⟨rfl, ?_⟩)), .rfl⟩
      | true =>
        have ht2 : ((tt (ch T j) true : Nat) : Int) % 2 = 0 := by rw [← htt]; omega
        rw [if_pos rfl] at h9
        repeat' (first|(refine isO ?_;first|refine oo (Pc rfl) ?_|refine oo (Pa rfl (by omega) (by omega)) ?_|(refine ob rfl ?_ ?_<;>intro hq<;>try (exfalso;omega))|refine oo (Pi rfl (by first|omega|(simp only [wr_length];omega))) ?_|refine oo (Pz rfl (by omega) (by omega)) ?_|refine oo (Pl rfl) ?_|refine oo (Px rfl rfl) ?_|refine oo (Pj rfl (by omega) (by omega)) ?_|refine oo (Pk rfl (by omega) (by omega)) ?_|refine oo (Pf rfl) ?_|refine oo (Pv rfl (by omega) (by omega)) ?_|refine oo (Pn rfl) ?_|refine oo (Ph rfl) ?_|refine oo (Pg rfl (by omega) (by omega)) ?_|refine oo (Pe rfl (by omega) (by omega)) ?_|refine oo (Po rfl (by omega) (by omega)) ?_|refine oo (Pm rfl) ?_|refine os rfl rfl ?_|refine ot rfl (by first|omega|(simp only [wr_length];omega)) ?_|refine O_nil ?_)|refine wo rfl ?_|refine wc rfl ?_|refine wg rfl ?_|refine go rfl ?_|refine gc rfl ?_|refine gg rfl ?_)
        exact G_stop ⟨(i + 1, _, B3, D3, q + 1, ch T j, d'), ⟨by dsimp only; omega, h9⟩, by dsimp only; omega, by (repeat (first | exact trivial | refine ⟨rfl, ?_⟩)), .rfl⟩
  · obtain rfl : i = T.length := by omega
    obtain ⟨s, hM, hW⟩ := hr.mid hG hl hz
    clear hr
    repeat' (first|(refine isO ?_;first|refine oo (Pc rfl) ?_|refine oo (Pa rfl (by omega) (by omega)) ?_|(refine ob rfl ?_ ?_<;>intro hq<;>try (exfalso;omega))|refine oo (Pi rfl (by first|omega|(simp only [wr_length];omega))) ?_|refine oo (Pz rfl (by omega) (by omega)) ?_|refine oo (Pl rfl) ?_|refine oo (Px rfl rfl) ?_|refine oo (Pj rfl (by omega) (by omega)) ?_|refine oo (Pk rfl (by omega) (by omega)) ?_|refine oo (Pf rfl) ?_|refine oo (Pv rfl (by omega) (by omega)) ?_|refine oo (Pn rfl) ?_|refine oo (Ph rfl) ?_|refine oo (Pg rfl (by omega) (by omega)) ?_|refine oo (Pe rfl (by omega) (by omega)) ?_|refine oo (Po rfl (by omega) (by omega)) ?_|refine oo (Pm rfl) ?_|refine os rfl rfl ?_|refine ot rfl (by first|omega|(simp only [wr_length];omega)) ?_|refine O_nil ?_)|refine wo rfl ?_|refine wc rfl ?_|refine wg rfl ?_|refine go rfl ?_|refine gc rfl ?_|refine gg rfl ?_)
    have hgv := hM.gv hG hl
    refine W_loop (α := Nat × List Int) (fun x => [(0, .slice (some ⟨bT, oT, none⟩) lT cT), (1, .slice (some ⟨bS, oS, none⟩) lS cS), (2, .slice (some ⟨bC, oC, none⟩) lC cC), (3, .slice (some ⟨bB, oB, none⟩) lB cB), (4, .slice (some ⟨bD, oD, none⟩) lD cD), (5, .int .i64 T.length), (6, .int .i64 k), (15, .int .i64 ((x.1 : Int) - 1)), (18, .int .i64 d)]) (fun x => ⟨own, bT, oT, ints .i64 (T.map Nat.cast)⟩ :: ⟨true, bS, oS, ints .i64 x.2⟩ :: ⟨true, bC, oC, ints .i64 C⟩ :: ⟨true, bB, oB, ints .i64 B2⟩ :: ⟨true, bD, oD, ints .i64 D1⟩ :: F)
      (fun x => x.1 ≤ T.length ∧ Btw (gP T s) (key T) T.length x.1 x.2) (fun x => x.1) (T.length, SA1) ⟨Nat.le_refl _, hW⟩ (by (repeat (first | exact trivial | refine ⟨rfl, ?_⟩))) .rfl ?_
    clear hW hl1 SA1 hi hin hl3
    rintro ⟨r, SA1⟩ ⟨hi, hW⟩
    dsimp only at hi hW ⊢
    have hl1 := hW.len
    cases r with
    | succ u =>
      rw [show (((u + 1 : Nat) : Int) - 1) = (u : Int) by omega]
      rcases hW.step hgv (by omega) with ⟨hx, hW'⟩ | ⟨hx, hx2, hW'⟩ | ⟨hx, hx2, v, hI⟩
      · repeat' (first|(refine isO ?_;first|refine oo (Pc rfl) ?_|refine oo (Pa rfl (by omega) (by omega)) ?_|(refine ob rfl ?_ ?_<;>intro hq<;>try (exfalso;omega))|refine oo (Pi rfl (by first|omega|(simp only [wr_length];omega))) ?_|refine oo (Pz rfl (by omega) (by omega)) ?_|refine oo (Pl rfl) ?_|refine oo (Px rfl rfl) ?_|refine oo (Pj rfl (by omega) (by omega)) ?_|refine oo (Pk rfl (by omega) (by omega)) ?_|refine oo (Pf rfl) ?_|refine oo (Pv rfl (by omega) (by omega)) ?_|refine oo (Pn rfl) ?_|refine oo (Ph rfl) ?_|refine oo (Pg rfl (by omega) (by omega)) ?_|refine oo (Pe rfl (by omega) (by omega)) ?_|refine oo (Po rfl (by omega) (by omega)) ?_|refine oo (Pm rfl) ?_|refine os rfl rfl ?_|refine ot rfl (by first|omega|(simp only [wr_length];omega)) ?_|refine O_nil ?_)|refine wo rfl ?_|refine wc rfl ?_|refine wg rfl ?_|refine go rfl ?_|refine gc rfl ?_|refine gg rfl ?_)
        exact G_stop ⟨(u, SA1), ⟨by dsimp only; omega, hW'⟩, by dsimp only; omega, by (repeat (first | exact trivial | refine ⟨rfl, ?_⟩)), .rfl⟩
      · repeat' (first|(refine isO ?_;first|refine oo (Pc rfl) ?_|refine oo (Pa rfl (by omega) (by omega)) ?_|(refine ob rfl ?_ ?_<;>intro hq<;>try (exfalso;omega))|refine oo (Pi rfl (by first|omega|(simp only [wr_length];omega))) ?_|refine oo (Pz rfl (by omega) (by omega)) ?_|refine oo (Pl rfl) ?_|refine oo (Px rfl rfl) ?_|refine oo (Pj rfl (by omega) (by omega)) ?_|refine oo (Pk rfl (by omega) (by omega)) ?_|refine oo (Pf rfl) ?_|refine oo (Pv rfl (by omega) (by omega)) ?_|refine oo (Pn rfl) ?_|refine oo (Ph rfl) ?_|refine oo (Pg rfl (by omega) (by omega)) ?_|refine oo (Pe rfl (by omega) (by omega)) ?_|refine oo (Po rfl (by omega) (by omega)) ?_|refine oo (Pm rfl) ?_|refine os rfl rfl ?_|refine ot rfl (by first|omega|(simp only [wr_length];omega)) ?_|refine O_nil ?_)|refine wo rfl ?_|refine wc rfl ?_|refine wg rfl ?_|refine go rfl ?_|refine gc rfl ?_|refine gg rfl ?_)
        exact G_stop ⟨(u, SA1), ⟨by dsimp only; omega, hW'⟩, by dsimp only; omega, by (repeat (first | exact trivial | refine ⟨rfl, ?_⟩)), .rfl⟩
      · repeat' (first|(refine isO ?_;first|refine oo (Pc rfl) ?_|refine oo (Pa rfl (by omega) (by omega)) ?_|(refine ob rfl ?_ ?_<;>intro hq<;>try (exfalso;omega))|refine oo (Pi rfl (by first|omega|(simp only [wr_length];omega))) ?_|refine oo (Pz rfl (by omega) (by omega)) ?_|refine oo (Pl rfl) ?_|refine oo (Px rfl rfl) ?_|refine oo (Pj rfl (by omega) (by omega)) ?_|refine oo (Pk rfl (by omega) (by omega)) ?_|refine oo (Pf rfl) ?_|refine oo (Pv rfl (by omega) (by omega)) ?_|refine oo (Pn rfl) ?_|refine oo (Ph rfl) ?_|refine oo (Pg rfl (by omega) (by omega)) ?_|refine oo (Pe rfl (by omega) (by omega)) ?_|refine oo (Po rfl (by omega) (by omega)) ?_|refine oo (Pm rfl) ?_|refine os rfl rfl ?_|refine ot rfl (by first|omega|(simp only [wr_length];omega)) ?_|refine O_nil ?_)|refine wo rfl ?_|refine wc rfl ?_|refine wg rfl ?_|refine go rfl ?_|refine gc rfl ?_|refine gg rfl ?_)
        have hl6 := hI.len
        clear hx hx2 hW
        generalize wr SA1 (u : Int) (rd SA1 u + (T.length : Int)) = SA2 at *
        refine W_loop (α := Nat) (fun x => [(0, .slice (some ⟨bT, oT, none⟩) lT cT), (1, .slice (some ⟨bS, oS, none⟩) lS cS), (2, .slice (some ⟨bC, oC, none⟩) lC cC), (3, .slice (some ⟨bB, oB, none⟩) lB cB), (4, .slice (some ⟨bD, oD, none⟩) lD cD), (5, .int .i64 T.length), (6, .int .i64 k), (15, .int .i64 u), (16, .int .i64 ((x : Int) - 1)), (18, .int .i64 d)]) (fun _ => ⟨own, bT, oT, ints .i64 (T.map Nat.cast)⟩ :: ⟨true, bS, oS, ints .i64 SA2⟩ :: ⟨true, bC, oC, ints .i64 C⟩ :: ⟨true, bB, oB, ints .i64 B2⟩ :: ⟨true, bD, oD, ints .i64 D1⟩ :: F)
          (fun x => Inn (gP T s) (key T) T.length u v x SA2) (fun x => x) u hI (by (repeat (first | exact trivial | refine ⟨rfl, ?_⟩))) .rfl ?_
        clear hI
        rintro jj hI
        have hjj := hI.pos
        have hju := hI.ji
        cases jj with
        | zero => omega
        | succ j =>
          rw [show (((j + 1 : Nat) : Int) - 1) = (j : Int) by omega]
          rcases hI.step hgv with ⟨hx, hI'⟩ | ⟨hx, hx2, hW'⟩
          · repeat' (first|(refine isO ?_;first|refine oo (Pc rfl) ?_|refine oo (Pa rfl (by omega) (by omega)) ?_|(refine ob rfl ?_ ?_<;>intro hq<;>try (exfalso;omega))|refine oo (Pi rfl (by first|omega|(simp only [wr_length];omega))) ?_|refine oo (Pz rfl (by omega) (by omega)) ?_|refine oo (Pl rfl) ?_|refine oo (Px rfl rfl) ?_|refine oo (Pj rfl (by omega) (by omega)) ?_|refine oo (Pk rfl (by omega) (by omega)) ?_|refine oo (Pf rfl) ?_|refine oo (Pv rfl (by omega) (by omega)) ?_|refine oo (Pn rfl) ?_|refine oo (Ph rfl) ?_|refine oo (Pg rfl (by omega) (by omega)) ?_|refine oo (Pe rfl (by omega) (by omega)) ?_|refine oo (Po rfl (by omega) (by omega)) ?_|refine oo (Pm rfl) ?_|refine os rfl rfl ?_|refine ot rfl (by first|omega|(simp only [wr_length];omega)) ?_|refine O_nil ?_)|refine wo rfl ?_|refine wc rfl ?_|refine wg rfl ?_|refine go rfl ?_|refine gc rfl ?_|refine gg rfl ?_)
            exact G_stop ⟨j, hI', by omega, by (repeat (first | exact trivial | refine ⟨rfl, ?_⟩)), .rfl⟩
          · repeat' (first|(refine isO ?_;first|refine oo (Pc rfl) ?_|refine oo (Pa rfl (by omega) (by omega)) ?_|(refine ob rfl ?_ ?_<;>intro hq<;>try (exfalso;omega))|refine oo (Pi rfl (by first|omega|(simp only [wr_length];omega))) ?_|refine oo (Pz rfl (by omega) (by omega)) ?_|refine oo (Pl rfl) ?_|refine oo (Px rfl rfl) ?_|refine oo (Pj rfl (by omega) (by omega)) ?_|refine oo (Pk rfl (by omega) (by omega)) ?_|refine oo (Pf rfl) ?_|refine oo (Pv rfl (by omega) (by omega)) ?_|refine oo (Pn rfl) ?_|refine oo (Ph rfl) ?_|refine oo (Pg rfl (by omega) (by omega)) ?_|refine oo (Pe rfl (by omega) (by omega)) ?_|refine oo (Po rfl (by omega) (by omega)) ?_|refine oo (Pm rfl) ?_|refine os rfl rfl ?_|refine ot rfl (by first|omega|(simp only [wr_length];omega)) ?_|refine O_nil ?_)|refine wo rfl ?_|refine wc rfl ?_|refine wg rfl ?_|refine go rfl ?_|refine gc rfl ?_|refine gg rfl ?_)
            exact G_stop ⟨(j, _), ⟨by dsimp only; omega, hW'⟩, by dsimp only; omega, by (repeat (first | exact trivial | refine ⟨rfl, ?_⟩)), .rfl⟩
    | zero =>
      have hH := hM.good hG
      have f4 := fun B' (hB' : EndsTo T k k B') => hM.turn hW hB' hk0
      clear hW
      repeat' (first|(refine isO ?_;first|refine oo (Pc rfl) ?_|refine oo (Pa rfl (by omega) (by omega)) ?_|(refine ob rfl ?_ ?_<;>intro hq<;>try (exfalso;omega))|refine oo (Pi rfl (by first|omega|(simp only [wr_length];omega))) ?_|refine oo (Pz rfl (by omega) (by omega)) ?_|refine oo (Pl rfl) ?_|refine oo (Px rfl rfl) ?_|refine oo (Pj rfl (by omega) (by omega)) ?_|refine oo (Pk rfl (by omega) (by omega)) ?_|refine oo (Pf rfl) ?_|refine oo (Pv rfl (by omega) (by omega)) ?_|refine oo (Pn rfl) ?_|refine oo (Ph rfl) ?_|refine oo (Pg rfl (by omega) (by omega)) ?_|refine oo (Pe rfl (by omega) (by omega)) ?_|refine oo (Po rfl (by omega) (by omega)) ?_|refine oo (Pm rfl) ?_|refine os rfl rfl ?_|refine ot rfl (by first|omega|(simp only [wr_length];omega)) ?_|refine O_nil ?_)|refine wo rfl ?_|refine wc rfl ?_|refine wg rfl ?_|refine go rfl ?_|refine gc rfl ?_|refine gg rfl ?_)
      refine O_weak (M' := ⟨true, bC, oC, ints .i64 C⟩ :: ⟨true, bB, oB, ints .i64 B2⟩ :: ⟨own, bT, oT, ints .i64 (T.map Nat.cast)⟩ :: ⟨true, bS, oS, ints .i64 SA1⟩ :: ⟨true, bD, oD, ints .i64 D1⟩ :: F) (by repeat (first | exact .rfl | exact .nil | (apply Rk.cons; (· exact TakeI.out)) | refine .drop ?_)) ?_
      refine O_call rfl rfl Tb.k22 trivial rfl (ends_c T k hT C B2 bB oB lB cB bC oC lC cC _ hlB hlC hC hl2) ?_
      rintro _ _ ⟨rfl, B3, hB3, rfl⟩
      have hB3l := hB3.1
      have e7 : rd B3 0 = (bst T (0 + 1) : Nat) := hB3.2 0 hk0
      have f5 := f4 B3 hB3
      have hb1 := bst_le T (0 + 1)
      repeat' (first|(refine isO ?_;first|refine oo (Pc rfl) ?_|refine oo (Pa rfl (by omega) (by omega)) ?_|(refine ob rfl ?_ ?_<;>intro hq<;>try (exfalso;omega))|refine oo (Pi rfl (by first|omega|(simp only [wr_length];omega))) ?_|refine oo (Pz rfl (by omega) (by omega)) ?_|refine oo (Pl rfl) ?_|refine oo (Px rfl rfl) ?_|refine oo (Pj rfl (by omega) (by omega)) ?_|refine oo (Pk rfl (by omega) (by omega)) ?_|refine oo (Pf rfl) ?_|refine oo (Pv rfl (by omega) (by omega)) ?_|refine oo (Pn rfl) ?_|refine oo (Ph rfl) ?_|refine oo (Pg rfl (by omega) (by omega)) ?_|refine oo (Pe rfl (by omega) (by omega)) ?_|refine oo (Po rfl (by omega) (by omega)) ?_|refine oo (Pm rfl) ?_|refine os rfl rfl ?_|refine ot rfl (by first|omega|(simp only [wr_length];omega)) ?_|refine O_nil ?_)|refine wo rfl ?_|refine wc rfl ?_|refine wg rfl ?_|refine go rfl ?_|refine gc rfl ?_|refine gg rfl ?_)
      rw [e7]
      generalize bst T (0 + 1) = b0 at *
      clear f4 e7 hi hl2 hB3 hl1 hl4
      refine W_loop (α := Nat × List Int × List Int × List Int × Nat × Nat × Nat) (fun x => [(0, .slice (some ⟨bT, oT, none⟩) lT cT), (1, .slice (some ⟨bS, oS, none⟩) lS cS), (2, .slice (some ⟨bC, oC, none⟩) lC cC), (3, .slice (some ⟨bB, oB, none⟩) lB cB), (4, .slice (some ⟨bD, oD, none⟩) lD cD), (5, .int .i64 T.length), (6, .int .i64 k), (14, .int .i64 x.2.2.2.2.1), (15, .int .i64 ((x.1 : Int) - 1)), (18, .int .i64 x.2.2.2.2.2.2), (20, .int .i64 x.2.2.2.2.2.1)])
        (fun x => ⟨own, bT, oT, ints .i64 (T.map Nat.cast)⟩ :: ⟨true, bS, oS, ints .i64 x.2.1⟩ :: ⟨true, bC, oC, ints .i64 C⟩ :: ⟨true, bB, oB, ints .i64 x.2.2.1⟩ :: ⟨true, bD, oD, ints .i64 x.2.2.2.1⟩ :: F) (fun x => x.1 ≤ T.length ∧ RS2 T k z (d + 1) (GH T (fun v => 2 ≤ v ∧ Sais.St T (v - 1)) s) (T.length - x.1) x.2.1 x.2.2.1 x.2.2.2.1 x.2.2.2.2.1 x.2.2.2.2.2.1 x.2.2.2.2.2.2) (fun x => x.1)
        (T.length, SA1, B3, D1, b0, 0, d + 1) ⟨Nat.le_refl _, by dsimp only; rw [Nat.sub_self]; exact f5⟩ (by (repeat (first | exact trivial | refine ⟨rfl, ?_⟩))) (by repeat (first | exact .rfl | exact .nil | (apply Rk.cons; (· exact TakeI.out)) | refine .drop ?_)) ?_
      have hd0 : d ≤ 1000 := by omega
      clear f5 hb1 hB3l hl5
      rintro ⟨r, SA1, B2, D1, b, c, d1⟩ ⟨hi, hr⟩
      dsimp only at hi hr ⊢
      obtain ⟨hl1, hl2, hl3, hl5, hl4, hl6⟩ := hr.len
      cases r with
      | zero =>
        repeat' (first|(refine isO ?_;first|refine oo (Pc rfl) ?_|refine oo (Pa rfl (by omega) (by omega)) ?_|(refine ob rfl ?_ ?_<;>intro hq<;>try (exfalso;omega))|refine oo (Pi rfl (by first|omega|(simp only [wr_length];omega))) ?_|refine oo (Pz rfl (by omega) (by omega)) ?_|refine oo (Pl rfl) ?_|refine oo (Px rfl rfl) ?_|refine oo (Pj rfl (by omega) (by omega)) ?_|refine oo (Pk rfl (by omega) (by omega)) ?_|refine oo (Pf rfl) ?_|refine oo (Pv rfl (by omega) (by omega)) ?_|refine oo (Pn rfl) ?_|refine oo (Ph rfl) ?_|refine oo (Pg rfl (by omega) (by omega)) ?_|refine oo (Pe rfl (by omega) (by omega)) ?_|refine oo (Po rfl (by omega) (by omega)) ?_|refine oo (Pm rfl) ?_|refine os rfl rfl ?_|refine ot rfl (by first|omega|(simp only [wr_length];omega)) ?_|refine O_nil ?_)|refine wo rfl ?_|refine wc rfl ?_|refine wg rfl ?_|refine go rfl ?_|refine gc rfl ?_|refine gg rfl ?_)
        exact G_fin ⟨_, rfl, rfl, SA1, B2, D1, hr.sorted hT hS hz hM, hl2, hl4, rfl⟩
      | succ u =>
        have e0 : T.length - (u + 1) + 1 = T.length - u := by omega
        rw [show (((u + 1 : Nat) : Int) - 1) = (u : Int) by omega]
        have hst := hr.step hH hlt hz (fun h => flatS hlt hG hl hM hH h) (u := u) (by omega)
        rw [e0] at hst
        clear e0
        clear hr
        rcases hst with ⟨hx, hr'⟩ | ⟨j, q, μ, hx, hj1, hjn, hqu, hQ, hr'⟩
        · repeat' (first|(refine isO ?_;first|refine oo (Pc rfl) ?_|refine oo (Pa rfl (by omega) (by omega)) ?_|(refine ob rfl ?_ ?_<;>intro hq<;>try (exfalso;omega))|refine oo (Pi rfl (by first|omega|(simp only [wr_length];omega))) ?_|refine oo (Pz rfl (by omega) (by omega)) ?_|refine oo (Pl rfl) ?_|refine oo (Px rfl rfl) ?_|refine oo (Pj rfl (by omega) (by omega)) ?_|refine oo (Pk rfl (by omega) (by omega)) ?_|refine oo (Pf rfl) ?_|refine oo (Pv rfl (by omega) (by omega)) ?_|refine oo (Pn rfl) ?_|refine oo (Ph rfl) ?_|refine oo (Pg rfl (by omega) (by omega)) ?_|refine oo (Pe rfl (by omega) (by omega)) ?_|refine oo (Po rfl (by omega) (by omega)) ?_|refine oo (Pm rfl) ?_|refine os rfl rfl ?_|refine ot rfl (by first|omega|(simp only [wr_length];omega)) ?_|refine O_nil ?_)|refine wo rfl ?_|refine wc rfl ?_|refine wg rfl ?_|refine go rfl ?_|refine gc rfl ?_|refine gg rfl ?_)
          exact G_stop ⟨(u, SA1, B2, D1, b, c, d1), ⟨by dsimp only; omega, hr'⟩, by dsimp only; omega, by (repeat (first | exact trivial | refine ⟨rfl, ?_⟩)), .rfl⟩
        · have c1 := hlt j
          have c2 := hlt (j - 1)
          have htt : ((ch T j : Nat) : Int) * 2 = (tt (ch T j) true : Nat) := by simp [tt]; omega
          have htf : ((ch T j : Nat) : Int) * 2 + 1 = (tt (ch T j) false : Nat) := by simp [tt]; omega
          have e8 : ((q + 1 : Nat) : Int) - 1 = q := by omega
          have hstop : Stop [61, 64, 71, 73, 77] := ⟨⟩
          obtain ⟨d', hd'⟩ : ∃ d', d' = d1 + if μ = true then 1 else 0 := ⟨_, rfl⟩
          obtain ⟨κ, hκ⟩ : ∃ κ, κ = decide (¬ ch T j < ch T (j - 1)) := ⟨_, rfl⟩
          have h9 := hr' κ d' hκ hd'
          clear hr'
          have hmu : 0 ≤ mn T.length μ := by unfold mn; split <;> omega
          repeat' (first|(refine isO ?_;first|refine oo (Pc rfl) ?_|refine oo (Pa rfl (by omega) (by omega)) ?_|(refine ob rfl ?_ ?_<;>intro hq<;>try (exfalso;omega))|refine oo (Pi rfl (by first|omega|(simp only [wr_length];omega))) ?_|refine oo (Pz rfl (by omega) (by omega)) ?_|refine oo (Pl rfl) ?_|refine oo (Px rfl rfl) ?_|refine oo (Pj rfl (by omega) (by omega)) ?_|refine oo (Pk rfl (by omega) (by omega)) ?_|refine oo (Pf rfl) ?_|refine oo (Pv rfl (by omega) (by omega)) ?_|refine oo (Pn rfl) ?_|refine oo (Ph rfl) ?_|refine oo (Pg rfl (by omega) (by omega)) ?_|refine oo (Pe rfl (by omega) (by omega)) ?_|refine oo (Po rfl (by omega) (by omega)) ?_|refine oo (Pm rfl) ?_|refine os rfl rfl ?_|refine ot rfl (by first|omega|(simp only [wr_length];omega)) ?_|refine O_nil ?_)|refine wu hstop rfl rfl ?_|refine gu hstop rfl rfl ?_|refine wc rfl ?_|refine wg rfl ?_|refine gc rfl ?_|refine gg rfl ?_)
          refine W_join1 (fun E' M' => Sub E' [(0, .slice (some ⟨bT, oT, none⟩) lT cT), (1, .slice (some ⟨bS, oS, none⟩) lS cS), (2, .slice (some ⟨bC, oC, none⟩) lC cC), (3, .slice (some ⟨bB, oB, none⟩) lB cB), (4, .slice (some ⟨bD, oD, none⟩) lD cD), (5, .int .i64 T.length), (6, .int .i64 k), (14, .int .i64 b), (15, .int .i64 u), (16, .int .i64 j), (18, .int .i64 d'), (20, .int .i64 c)] ∧ Rk M' (⟨own, bT, oT, ints .i64 (T.map Nat.cast)⟩ :: ⟨true, bS, oS, ints .i64 SA1⟩ :: ⟨true, bC, oC, ints .i64 C⟩ :: ⟨true, bB, oB, ints .i64 B2⟩ :: ⟨true, bD, oD, ints .i64 D1⟩ :: F)) ?_ ?_
          · clear hstop hκ h9 hQ
            cases μ with
            | false =>
              have hx3 : rd SA1 u = (j : Int) := by rw [hx, mn_false, Int.add_zero]
              have hd2 : d' = d1 := by simpa using hd'
              subst hd2
              clear hd' hx
              repeat' (first|(refine isO ?_;first|refine oo (Pc rfl) ?_|refine oo (Pa rfl (by omega) (by omega)) ?_|(refine ob rfl ?_ ?_<;>intro hq<;>try (exfalso;omega))|refine oo (Pi rfl (by first|omega|(simp only [wr_length];omega))) ?_|refine oo (Pz rfl (by omega) (by omega)) ?_|refine oo (Pl rfl) ?_|refine oo (Px rfl rfl) ?_|refine oo (Pj rfl (by omega) (by omega)) ?_|refine oo (Pk rfl (by omega) (by omega)) ?_|refine oo (Pf rfl) ?_|refine oo (Pv rfl (by omega) (by omega)) ?_|refine oo (Pn rfl) ?_|refine oo (Ph rfl) ?_|refine oo (Pg rfl (by omega) (by omega)) ?_|refine oo (Pe rfl (by omega) (by omega)) ?_|refine oo (Po rfl (by omega) (by omega)) ?_|refine oo (Pm rfl) ?_|refine os rfl rfl ?_|refine ot rfl (by first|omega|(simp only [wr_length];omega)) ?_|refine O_nil ?_)|refine wo rfl ?_|refine wc rfl ?_|refine wg rfl ?_|refine go rfl ?_|refine gc rfl ?_|refine gg rfl ?_)
              rw [hx3]
              exact G_stop ⟨by (repeat (first | exact trivial | refine ⟨rfl, ?_⟩)), .rfl⟩
            | true =>
              have hx3 : rd SA1 u - (T.length : Int) = (j : Int) := by rw [hx, mn_true]; omega
              have hd2 : d' = d1 + 1 := by simpa using hd'
              subst hd2
              clear hd' hx
              repeat' (first|(refine isO ?_;first|refine oo (Pc rfl) ?_|refine oo (Pa rfl (by omega) (by omega)) ?_|(refine ob rfl ?_ ?_<;>intro hq<;>try (exfalso;omega))|refine oo (Pi rfl (by first|omega|(simp only [wr_length];omega))) ?_|refine oo (Pz rfl (by omega) (by omega)) ?_|refine oo (Pl rfl) ?_|refine oo (Px rfl rfl) ?_|refine oo (Pj rfl (by omega) (by omega)) ?_|refine oo (Pk rfl (by omega) (by omega)) ?_|refine oo (Pf rfl) ?_|refine oo (Pv rfl (by omega) (by omega)) ?_|refine oo (Pn rfl) ?_|refine oo (Ph rfl) ?_|refine oo (Pg rfl (by omega) (by omega)) ?_|refine oo (Pe rfl (by omega) (by omega)) ?_|refine oo (Po rfl (by omega) (by omega)) ?_|refine oo (Pm rfl) ?_|refine os rfl rfl ?_|refine ot rfl (by first|omega|(simp only [wr_length];omega)) ?_|refine O_nil ?_)|refine wo rfl ?_|refine wc rfl ?_|refine wg rfl ?_|refine go rfl ?_|refine gc rfl ?_|refine gg rfl ?_)
              rw [hx3]
              exact G_stop ⟨by (repeat (first | exact trivial | refine ⟨rfl, ?_⟩)), .rfl⟩
          have hd3 : d' ≤ d1 + 1 := by cases μ <;> simp at hd' <;> omega
          clear hd' hx hmu
          rintro E' M' ⟨hsub, hrk⟩
          refine G_code (W_weak hsub hrk ?_)
          clear hsub hrk E' M'
          repeat' (first|(refine isO ?_;first|refine oo (Pc rfl) ?_|refine oo (Pa rfl (by omega) (by omega)) ?_|(refine ob rfl ?_ ?_<;>intro hq<;>try (exfalso;omega))|refine oo (Pi rfl (by first|omega|(simp only [wr_length];omega))) ?_|refine oo (Pz rfl (by omega) (by omega)) ?_|refine oo (Pl rfl) ?_|refine oo (Px rfl rfl) ?_|refine oo (Pj rfl (by omega) (by omega)) ?_|refine oo (Pk rfl (by omega) (by omega)) ?_|refine oo (Pf rfl) ?_|refine oo (Pv rfl (by omega) (by omega)) ?_|refine oo (Pn rfl) ?_|refine oo (Ph rfl) ?_|refine oo (Pg rfl (by omega) (by omega)) ?_|refine oo (Pe rfl (by omega) (by omega)) ?_|refine oo (Po rfl (by omega) (by omega)) ?_|refine oo (Pm rfl) ?_|refine os rfl rfl ?_|refine ot rfl (by first|omega|(simp only [wr_length];omega)) ?_|refine O_nil ?_)|refine wu hstop rfl rfl ?_|refine gu hstop rfl rfl ?_|refine wc rfl ?_|refine wg rfl ?_|refine gc rfl ?_|refine gg rfl ?_)
          refine W_join1 (fun E' M' => ∃ B3 : List Int, B3 = (if ch T j = c then B2 else wr B2 c b) ∧ Sub E' [(0, .slice (some ⟨bT, oT, none⟩) lT cT), (1, .slice (some ⟨bS, oS, none⟩) lS cS), (2, .slice (some ⟨bC, oC, none⟩) lC cC), (3, .slice (some ⟨bB, oB, none⟩) lB cB), (4, .slice (some ⟨bD, oD, none⟩) lD cD), (5, .int .i64 T.length), (6, .int .i64 k), (14, .int .i64 ((q + 1 : Nat) : Int)), (15, .int .i64 u), (16, .int .i64 j), (18, .int .i64 d'), (19, .int .i64 (ch T j : Nat)), (20, .int .i64 (ch T j : Nat))] ∧ Rk M' (⟨own, bT, oT, ints .i64 (T.map Nat.cast)⟩ :: ⟨true, bS, oS, ints .i64 SA1⟩ :: ⟨true, bC, oC, ints .i64 C⟩ :: ⟨true, bB, oB, ints .i64 B3⟩ :: ⟨true, bD, oD, ints .i64 D1⟩ :: F)) ?_ ?_
          · clear hstop h9 hκ
            have e4 : rd (T.map Nat.cast) (j : Int) = (ch T j : Nat) := rd_ch _ _
            rcases hQ with ⟨hQ1, hQ2⟩ | ⟨hQ1, hQ2⟩
            · subst hQ1
              subst hQ2
              repeat' (first|(refine isO ?_;first|refine oo (Pc rfl) ?_|refine oo (Pa rfl (by omega) (by omega)) ?_|(refine ob rfl ?_ ?_<;>intro hq<;>try (exfalso;omega))|refine oo (Pi rfl (by first|omega|(simp only [wr_length];omega))) ?_|refine oo (Pz rfl (by omega) (by omega)) ?_|refine oo (Pl rfl) ?_|refine oo (Px rfl rfl) ?_|refine oo (Pj rfl (by omega) (by omega)) ?_|refine oo (Pk rfl (by omega) (by omega)) ?_|refine oo (Pf rfl) ?_|refine oo (Pv rfl (by omega) (by omega)) ?_|refine oo (Pn rfl) ?_|refine oo (Ph rfl) ?_|refine oo (Pg rfl (by omega) (by omega)) ?_|refine oo (Pe rfl (by omega) (by omega)) ?_|refine oo (Po rfl (by omega) (by omega)) ?_|refine oo (Pm rfl) ?_|refine os rfl rfl ?_|refine ot rfl (by first|omega|(simp only [wr_length];omega)) ?_|refine O_nil ?_)|refine wo rfl ?_|refine wc rfl ?_|refine wg rfl ?_|refine go rfl ?_|refine gc rfl ?_|refine gg rfl ?_)
              rw [e4]
              exact G_stop ⟨B2, (if_pos rfl).symm, by (repeat (first | exact trivial | refine ⟨rfl, ?_⟩)), .rfl⟩
            · have e5 : rd (wr B2 c b) (rd (T.map Nat.cast) (j : Int)) = ((q + 1 : Nat) : Int) := by rw [e4]; exact hQ2
              repeat' (first|(refine isO ?_;first|refine oo (Pc rfl) ?_|refine oo (Pa rfl (by omega) (by omega)) ?_|(refine ob rfl ?_ ?_<;>intro hq<;>try (exfalso;omega))|refine oo (Pi rfl (by first|omega|(simp only [wr_length];omega))) ?_|refine oo (Pz rfl (by omega) (by omega)) ?_|refine oo (Pl rfl) ?_|refine oo (Px rfl rfl) ?_|refine oo (Pj rfl (by omega) (by omega)) ?_|refine oo (Pk rfl (by omega) (by omega)) ?_|refine oo (Pf rfl) ?_|refine oo (Pv rfl (by omega) (by omega)) ?_|refine oo (Pn rfl) ?_|refine oo (Ph rfl) ?_|refine oo (Pg rfl (by omega) (by omega)) ?_|refine oo (Pe rfl (by omega) (by omega)) ?_|refine oo (Po rfl (by omega) (by omega)) ?_|refine oo (Pm rfl) ?_|refine os rfl rfl ?_|refine ot rfl (by first|omega|(simp only [wr_length];omega)) ?_|refine O_nil ?_)|refine wo rfl ?_|refine wc rfl ?_|refine wg rfl ?_|refine go rfl ?_|refine gc rfl ?_|refine gg rfl ?_)
              rw [e5, e4]
              exact G_stop ⟨_, (if_neg hQ1).symm, by (repeat (first | exact trivial | refine ⟨rfl, ?_⟩)), .rfl⟩
          clear hQ
          rintro E' M' ⟨B3, hB3, hsub, hrk⟩
          refine G_code (W_weak hsub hrk ?_)
          clear hsub hrk E' M'
          rw [← hB3] at h9
          clear hB3
          repeat' (first|(refine isO ?_;first|refine oo (Pc rfl) ?_|refine oo (Pa rfl (by omega) (by omega)) ?_|(refine ob rfl ?_ ?_<;>intro hq<;>try (exfalso;omega))|refine oo (Pi rfl (by first|omega|(simp only [wr_length];omega))) ?_|refine oo (Pz rfl (by omega) (by omega)) ?_|refine oo (Pl rfl) ?_|refine oo (Px rfl rfl) ?_|refine oo (Pj rfl (by omega) (by omega)) ?_|refine oo (Pk rfl (by omega) (by omega)) ?_|refine oo (Pf rfl) ?_|refine oo (Pv rfl (by omega) (by omega)) ?_|refine oo (Pn rfl) ?_|refine oo (Ph rfl) ?_|refine oo (Pg rfl (by omega) (by omega)) ?_|refine oo (Pe rfl (by omega) (by omega)) ?_|refine oo (Po rfl (by omega) (by omega)) ?_|refine oo (Pm rfl) ?_|refine os rfl rfl ?_|refine ot rfl (by first|omega|(simp only [wr_length];omega)) ?_|refine O_nil ?_)|refine wu hstop rfl rfl ?_|refine gu hstop rfl rfl ?_|refine wc rfl ?_|refine wg rfl ?_|refine gc rfl ?_|refine gg rfl ?_)
          refine W_join1 (fun E' M' => Sub E' [(0, .slice (some ⟨bT, oT, none⟩) lT cT), (1, .slice (some ⟨bS, oS, none⟩) lS cS), (2, .slice (some ⟨bC, oC, none⟩) lC cC), (3, .slice (some ⟨bB, oB, none⟩) lB cB), (4, .slice (some ⟨bD, oD, none⟩) lD cD), (5, .int .i64 T.length), (6, .int .i64 k), (14, .int .i64 ((q + 1 : Nat) : Int)), (15, .int .i64 u), (16, .int .i64 ((j : Int) - 1)), (17, .int .i64 (tt (ch T j) κ : Nat)), (18, .int .i64 d'), (20, .int .i64 (ch T j : Nat))] ∧ Rk M' (⟨own, bT, oT, ints .i64 (T.map Nat.cast)⟩ :: ⟨true, bS, oS, ints .i64 SA1⟩ :: ⟨true, bC, oC, ints .i64 C⟩ :: ⟨true, bB, oB, ints .i64 B3⟩ :: ⟨true, bD, oD, ints .i64 D1⟩ :: F)) ?_ ?_
          · clear hstop h9
            have e6 : rd (T.map Nat.cast) ((j : Int) - 1) = (ch T (j - 1) : Nat) := by rw [rd_ch', show ((j : Int) - 1).toNat = j - 1 by omega]
            by_cases hcmp : ch T j < ch T (j - 1)
            · have hk4 : κ = false := by rw [hκ]; simp [hcmp]
              subst hk4
              clear hκ
              repeat' (first|(refine isO ?_;first|refine oo (Pc rfl) ?_|refine oo (Pa rfl (by omega) (by omega)) ?_|(refine ob rfl ?_ ?_<;>intro hq<;>try (exfalso;omega))|refine oo (Pi rfl (by first|omega|(simp only [wr_length];omega))) ?_|refine oo (Pz rfl (by omega) (by omega)) ?_|refine oo (Pl rfl) ?_|refine oo (Px rfl rfl) ?_|refine oo (Pj rfl (by omega) (by omega)) ?_|refine oo (Pk rfl (by omega) (by omega)) ?_|refine oo (Pf rfl) ?_|refine oo (Pv rfl (by omega) (by omega)) ?_|refine oo (Pn rfl) ?_|refine oo (Ph rfl) ?_|refine oo (Pg rfl (by omega) (by omega)) ?_|refine oo (Pe rfl (by omega) (by omega)) ?_|refine oo (Po rfl (by omega) (by omega)) ?_|refine oo (Pm rfl) ?_|refine os rfl rfl ?_|refine ot rfl (by first|omega|(simp only [wr_length];omega)) ?_|refine O_nil ?_)|refine wo rfl ?_|refine wc rfl ?_|refine wg rfl ?_|refine go rfl ?_|refine gc rfl ?_|refine gg rfl ?_)
              rw [htf]
              exact G_stop ⟨by (repeat (first | exact trivial | refine ⟨rfl, ?_⟩)), .rfl⟩
            · have hk4 : κ = true := by rw [hκ]; simp [hcmp]
              subst hk4
              clear hκ
              repeat' (first|(refine isO ?_;first|refine oo (Pc rfl) ?_|refine oo (Pa rfl (by omega) (by omega)) ?_|(refine ob rfl ?_ ?_<;>intro hq<;>try (exfalso;omega))|refine oo (Pi rfl (by first|omega|(simp only [wr_length];omega))) ?_|refine oo (Pz rfl (by omega) (by omega)) ?_|refine oo (Pl rfl) ?_|refine oo (Px rfl rfl) ?_|refine oo (Pj rfl (by omega) (by omega)) ?_|refine oo (Pk rfl (by omega) (by omega)) ?_|refine oo (Pf rfl) ?_|refine oo (Pv rfl (by omega) (by omega)) ?_|refine oo (Pn rfl) ?_|refine oo (Ph rfl) ?_|refine oo (Pg rfl (by omega) (by omega)) ?_|refine oo (Pe rfl (by omega) (by omega)) ?_|refine oo (Po rfl (by omega) (by omega)) ?_|refine oo (Pm rfl) ?_|refine os rfl rfl ?_|refine ot rfl (by first|omega|(simp only [wr_length];omega)) ?_|refine O_nil ?_)|refine wo rfl ?_|refine wc rfl ?_|refine wg rfl ?_|refine go rfl ?_|refine gc rfl ?_|refine gg rfl ?_)
              rw [htt]
              exact G_stop ⟨by (repeat (first | exact trivial | refine ⟨rfl, ?_⟩)), .rfl⟩
          clear hκ
          rintro E' M' ⟨hsub, hrk⟩
          refine G_code (W_weak hsub hrk ?_)
          clear hsub hrk E' M'
          have htk : tt (ch T j) κ < 2 * k := by unfold tt; split <;> omega
          repeat' (first|(refine isO ?_;first|refine oo (Pc rfl) ?_|refine oo (Pa rfl (by omega) (by omega)) ?_|(refine ob rfl ?_ ?_<;>intro hq<;>try (exfalso;omega))|refine oo (Pi rfl (by first|omega|(simp only [wr_length];omega))) ?_|refine oo (Pz rfl (by omega) (by omega)) ?_|refine oo (Pl rfl) ?_|refine oo (Px rfl rfl) ?_|refine oo (Pj rfl (by omega) (by omega)) ?_|refine oo (Pk rfl (by omega) (by omega)) ?_|refine oo (Pf rfl) ?_|refine oo (Pv rfl (by omega) (by omega)) ?_|refine oo (Pn rfl) ?_|refine oo (Ph rfl) ?_|refine oo (Pg rfl (by omega) (by omega)) ?_|refine oo (Pe rfl (by omega) (by omega)) ?_|refine oo (Po rfl (by omega) (by omega)) ?_|refine oo (Pm rfl) ?_|refine os rfl rfl ?_|refine ot rfl (by first|omega|(simp only [wr_length];omega)) ?_|refine O_nil ?_)|refine wu hstop rfl rfl ?_|refine gu hstop rfl rfl ?_|refine wc rfl ?_|refine wg rfl ?_|refine gc rfl ?_|refine gg rfl ?_)
          refine W_join1 (fun E' M' => ∃ D3 : List Int, D3 = (if rd D1 (tt (ch T j) κ : Nat) ≠ (d' : Int) then wr D1 (tt (ch T j) κ : Nat) d' else D1) ∧ Sub E' [(0, .slice (some ⟨bT, oT, none⟩) lT cT), (1, .slice (some ⟨bS, oS, none⟩) lS cS), (2, .slice (some ⟨bC, oC, none⟩) lC cC), (3, .slice (some ⟨bB, oB, none⟩) lB cB), (4, .slice (some ⟨bD, oD, none⟩) lD cD), (5, .int .i64 T.length), (6, .int .i64 k), (14, .int .i64 ((q + 1 : Nat) : Int)), (15, .int .i64 u), (16, .int .i64 ((j : Int) - 1 + mn T.length (decide (rd D1 (tt (ch T j) κ : Nat) ≠ (d' : Int))))), (17, .int .i64 (tt (ch T j) κ : Nat)), (18, .int .i64 d'), (20, .int .i64 (ch T j : Nat))] ∧ Rk M' (⟨own, bT, oT, ints .i64 (T.map Nat.cast)⟩ :: ⟨true, bS, oS, ints .i64 SA1⟩ :: ⟨true, bC, oC, ints .i64 C⟩ :: ⟨true, bB, oB, ints .i64 B3⟩ :: ⟨true, bD, oD, ints .i64 D3⟩ :: F)) ?_ ?_
          · clear hstop h9
            by_cases hdm : rd D1 (tt (ch T j) κ : Nat) = (d' : Int)
            · repeat' (first|(refine isO ?_;first|refine oo (Pc rfl) ?_|refine oo (Pa rfl (by omega) (by omega)) ?_|(refine ob rfl ?_ ?_<;>intro hq<;>try (exfalso;omega))|refine oo (Pi rfl (by first|omega|(simp only [wr_length];omega))) ?_|refine oo (Pz rfl (by omega) (by omega)) ?_|refine oo (Pl rfl) ?_|refine oo (Px rfl rfl) ?_|refine oo (Pj rfl (by omega) (by omega)) ?_|refine oo (Pk rfl (by omega) (by omega)) ?_|refine oo (Pf rfl) ?_|refine oo (Pv rfl (by omega) (by omega)) ?_|refine oo (Pn rfl) ?_|refine oo (Ph rfl) ?_|refine oo (Pg rfl (by omega) (by omega)) ?_|refine oo (Pe rfl (by omega) (by omega)) ?_|refine oo (Po rfl (by omega) (by omega)) ?_|refine oo (Pm rfl) ?_|refine os rfl rfl ?_|refine ot rfl (by first|omega|(simp only [wr_length];omega)) ?_|refine O_nil ?_)|refine wo rfl ?_|refine wc rfl ?_|refine wg rfl ?_|refine go rfl ?_|refine gc rfl ?_|refine gg rfl ?_)
              rw [show decide (rd D1 (tt (ch T j) κ : Nat) ≠ (d' : Int)) = false from decide_eq_false fun h => h hdm, mn_false, Int.add_zero]
              exact G_stop ⟨D1, (if_neg fun h => h hdm).symm, by (repeat (first | exact trivial | refine ⟨rfl, ?_⟩)), .rfl⟩
            · repeat' (first|(refine isO ?_;first|refine oo (Pc rfl) ?_|refine oo (Pa rfl (by omega) (by omega)) ?_|(refine ob rfl ?_ ?_<;>intro hq<;>try (exfalso;omega))|refine oo (Pi rfl (by first|omega|(simp only [wr_length];omega))) ?_|refine oo (Pz rfl (by omega) (by omega)) ?_|refine oo (Pl rfl) ?_|refine oo (Px rfl rfl) ?_|refine oo (Pj rfl (by omega) (by omega)) ?_|refine oo (Pk rfl (by omega) (by omega)) ?_|refine oo (Pf rfl) ?_|refine oo (Pv rfl (by omega) (by omega)) ?_|refine oo (Pn rfl) ?_|refine oo (Ph rfl) ?_|refine oo (Pg rfl (by omega) (by omega)) ?_|refine oo (Pe rfl (by omega) (by omega)) ?_|refine oo (Po rfl (by omega) (by omega)) ?_|refine oo (Pm rfl) ?_|refine os rfl rfl ?_|refine ot rfl (by first|omega|(simp only [wr_length];omega)) ?_|refine O_nil ?_)|refine wo rfl ?_|refine wc rfl ?_|refine wg rfl ?_|refine go rfl ?_|refine gc rfl ?_|refine gg rfl ?_)
              rw [show decide (rd D1 (tt (ch T j) κ : Nat) ≠ (d' : Int)) = true from decide_eq_true hdm, mn_true]
              exact G_stop ⟨_, (if_pos hdm).symm, by (repeat (first | exact trivial | refine ⟨rfl, ?_⟩)), .rfl⟩
          rintro E' M' ⟨D3, hD3, hsub, hrk⟩
          refine G_code (W_weak hsub hrk ?_)
          clear hsub hrk E' M' hstop
          rw [← hD3] at h9
          clear hD3
          have hXb : 0 ≤ mn T.length (decide (rd D1 (tt (ch T j) κ : Nat) ≠ (d' : Int))) ∧ mn T.length (decide (rd D1 (tt (ch T j) κ : Nat) ≠ (d' : Int))) ≤ T.length := by unfold mn; split <;> omega
          generalize mn T.length (decide (rd D1 (tt (ch T j) κ : Nat) ≠ (d' : Int))) = X at *
          cases κ with
          | false =>
            have ht2 : ((tt (ch T j) false : Nat) : Int) % 2 = 1 := by rw [← htf]; omega
            rw [if_neg (by decide)] at h9
            repeat' (first|(refine isO ?_;first|refine oo (Pc rfl) ?_|refine oo (Pa rfl (by omega) (by omega)) ?_|(refine ob rfl ?_ ?_<;>intro hq<;>try (exfalso;omega))|refine oo (Pi rfl (by first|omega|(simp only [wr_length];omega))) ?_|refine oo (Pz rfl (by omega) (by omega)) ?_|refine oo (Pl rfl) ?_|refine oo (Px rfl rfl) ?_|refine oo (Pj rfl (by omega) (by omega)) ?_|refine oo (Pk rfl (by omega) (by omega)) ?_|refine oo (Pf rfl) ?_|refine oo (Pv rfl (by omega) (by omega)) ?_|refine oo (Pn rfl) ?_|refine oo (Ph rfl) ?_|refine oo (Pg rfl (by omega) (by omega)) ?_|refine oo (Pe rfl (by omega) (by omega)) ?_|refine oo (Po rfl (by omega) (by omega)) ?_|refine oo (Pm rfl) ?_|refine os rfl rfl ?_|refine ot rfl (by first|omega|(simp only [wr_length];omega)) ?_|refine O_nil ?_)|refine wo rfl ?_|refine wc rfl ?_|refine wg rfl ?_|refine go rfl ?_|refine gc rfl ?_|refine gg rfl ?_)
            rw [e8];exact G_stop ⟨(u, _, B3, D3, q, ch T j, d'), ⟨by dsimp only; omega, h9⟩, by dsimp only; omega, by (repeat (first | exact trivial | refine ⟨rfl, ?_⟩)), .rfl⟩
          | true =>
            have ht2 : ((tt (ch T j) true : Nat) : Int) % 2 = 0 := by rw [← htt]; omega
            rw [if_pos rfl] at h9
            repeat' (first|(refine isO ?_;first|refine oo (Pc rfl) ?_|refine oo (Pa rfl (by omega) (by omega)) ?_|(refine ob rfl ?_ ?_<;>intro hq<;>try (exfalso;omega))|refine oo (Pi rfl (by first|omega|(simp only [wr_length];omega))) ?_|refine oo (Pz rfl (by omega) (by omega)) ?_|refine oo (Pl rfl) ?_|refine oo (Px rfl rfl) ?_|refine oo (Pj rfl (by omega) (by omega)) ?_|refine oo (Pk rfl (by omega) (by omega)) ?_|refine oo (Pf rfl) ?_|refine oo (Pv rfl (by omega) (by omega)) ?_|refine oo (Pn rfl) ?_|refine oo (Ph rfl) ?_|refine oo (Pg rfl (by omega) (by omega)) ?_|refine oo (Pe rfl (by omega) (by omega)) ?_|refine oo (Po rfl (by omega) (by omega)) ?_|refine oo (Pm rfl) ?_|refine os rfl rfl ?_|refine ot rfl (by first|omega|(simp only [wr_length];omega)) ?_|refine O_nil ?_)|refine wo rfl ?_|refine wc rfl ?_|refine wg rfl ?_|refine go rfl ?_|refine gc rfl ?_|refine gg rfl ?_)
            rw [e8];exact G_stop ⟨(u, _, B3, D3, q, ch T j, d'), ⟨by dsimp only; omega, h9⟩, by dsimp only; omega, by (repeat (first | exact trivial | refine ⟨rfl, ?_⟩)), .rfl⟩
end Go.Proofs.Ytcibehgcibojnaa.Saii
