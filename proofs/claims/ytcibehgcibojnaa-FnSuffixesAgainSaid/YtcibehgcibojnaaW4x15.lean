/- postProcLMS2: the LMS places packed, and named by their marks. Conditions: as sortLMS2 leaves them. -/
import Derived.Test.YtcibehgcibojnaaW4x14
import Derived.Test.YtcibehgcibojnaaW4x10

namespace Go.Proofs.Ytcibehgcibojnaa.Saib
open Go Go.RowKit Go.Proofs.Ytcibehgcibojnaa.Vm Go.Proofs.Ytcibehgcibojnaa.Sais
set_option maxHeartbeats 8000000 in
theorem postProc2_c (T : List Nat) (k : Nat) (hT : Txt T k) (SA : List Int) (h0 : Sorted2 T SA) (m : Nat) (hm : m = (lmsF T 0).length) (hm1 : 1 ≤ m)
    (bS oS lS cS : Nat) (F : Mem) (hlS : T.length ≤ lS) :
    HC Try.prog 16 #[.slice (some ⟨bS, oS, none⟩) lS cS, .int .i64 T.length, .int .i64 m]
      (⟨true, bS, oS, ints .i64 SA⟩ :: F)
      (fun v M' => ∃ SA' name, v = .int .i64 (name : Nat) ∧ Named T m SA' name ∧ M' = ⟨true, bS, oS, ints .i64 SA'⟩ :: F) := by
  have hn0 := hT.n0
  have hn1 := hT.n1
  have hz := h0.nz
  obtain ⟨L, hS, hL, hP⟩ := h0.pack
  have hSl := h0.len
  have hLm : L.length = m := by rw [hS.len, hm]
  subst hLm
  have h2m : 2 * L.length ≤ T.length := by rw [hm]; have := lmsF_le T _ 0 (Nat.le_refl _); omega
  clear hm
  refine HC_of_W (fn := Try.f16) Try.func16 rfl rfl rfl rfl ?_
  repeat' (first|(refine isO ?_;first|refine oo (Pc rfl) ?_|refine oo (Pa rfl (by omega) (by omega)) ?_|(refine ob rfl ?_ ?_<;>intro hq<;>try (exfalso;omega))|refine oo (Pi rfl (by first|omega|(simp only [wr_length];omega))) ?_|refine oo (Pz rfl (by omega) (by omega)) ?_|refine oo (Pl rfl) ?_|refine oo (Px rfl rfl) ?_|refine oo (Pj rfl (by omega) (by omega)) ?_|refine oo (Pk rfl (by omega) (by omega)) ?_|refine oo (Pf rfl) ?_|refine oo (Pv rfl (by omega) (by omega)) ?_|refine oo (Pn rfl) ?_|refine oo (Ph rfl) ?_|refine oo (Pg rfl (by omega) (by omega)) ?_|refine oo (Pe rfl (by omega) (by omega)) ?_|refine oo (Po rfl (by omega) (by omega)) ?_|refine oo (Pm rfl) ?_|refine os rfl rfl ?_|refine ot rfl (by first|omega|(simp only [wr_length];omega)) ?_|refine O_nil ?_)|refine wo rfl ?_|refine wc rfl ?_|refine wg rfl ?_|refine go rfl ?_|refine gc rfl ?_|refine gg rfl ?_)
  refine W_join1 (fun E' M' => ∃ i SA', Packed SA i SA' ∧ (pk SA i).length = i ∧ i < T.length ∧ rd SA' (i : Int) = 0 ∧ Sub E' [(0, .slice (some ⟨bS, oS, none⟩) lS cS), (1, .int .i64 T.length), (2, .int .i64 L.length), (7, .int .i64 i), (10, .int .i64 (mc T L i : Nat))] ∧ Rk M' (⟨true, bS, oS, ints .i64 SA'⟩ :: F)) ?_ ?_
  · refine W_loop (α := Nat × List Int) (fun x => [(0, .slice (some ⟨bS, oS, none⟩) lS cS), (1, .int .i64 T.length), (2, .int .i64 L.length), (7, .int .i64 x.1), (10, .int .i64 (mc T L x.1 : Nat))]) (fun x => ⟨true, bS, oS, ints .i64 x.2⟩ :: F) (fun x => Packed SA x.1 x.2 ∧ (pk SA x.1).length = x.1) (fun x => T.length - x.1) (0, SA) ⟨.zero SA, by simp [pk]⟩ (by dsimp only; rw [mc_zero hm1]; (repeat (first | exact trivial | refine ⟨rfl, ?_⟩))) .rfl ?_
    rintro ⟨i, SA1⟩ ⟨hp, hi⟩
    dsimp only at hp hi ⊢
    have hil := hp.le
    have hll := hp.len
    have hiL : i ≤ L.length := by
      have := pk_mono (SA := SA) hp.le (Nat.le_refl _)
      rw [hSl, hL] at this
      omega
    have hin : i < T.length := by omega
    have hx0 := hp.rst i (Nat.le_refl _) (by omega)
    have hml := mc_le (T := T) hm1 hiL
    by_cases hx : rd SA1 (i : Int) < 0
    · obtain ⟨hp1, hp2⟩ := pk_at hz hin (by rw [← hx0]; exact hx)
      rw [hi] at hp1 hp2
      rw [hP i (by omega), ← hx0] at hp2
      have hLn := lms_lt (hS.lms (show i < L.length by omega))
      have hQ := hp.one (by omega) hi hx
      have hms := mc_succ (T := T) (show i < L.length by omega)
      unfold mkN at hp2
      by_cases hk : LastK T L i
      · rw [if_pos hk] at hp2 hms
        repeat' (first|(refine isO ?_;first|refine oo (Pc rfl) ?_|refine oo (Pa rfl (by omega) (by omega)) ?_|(refine ob rfl ?_ ?_<;>intro hq<;>try (exfalso;omega))|refine oo (Pi rfl (by first|omega|(simp only [wr_length];omega))) ?_|refine oo (Pz rfl (by omega) (by omega)) ?_|refine oo (Pl rfl) ?_|refine oo (Px rfl rfl) ?_|refine oo (Pj rfl (by omega) (by omega)) ?_|refine oo (Pk rfl (by omega) (by omega)) ?_|refine oo (Pf rfl) ?_|refine oo (Pv rfl (by omega) (by omega)) ?_|refine oo (Pn rfl) ?_|refine oo (Ph rfl) ?_|refine oo (Pg rfl (by omega) (by omega)) ?_|refine oo (Pe rfl (by omega) (by omega)) ?_|refine oo (Po rfl (by omega) (by omega)) ?_|refine oo (Pm rfl) ?_|refine os rfl rfl ?_|refine ot rfl (by first|omega|(simp only [wr_length];omega)) ?_|refine O_nil ?_)|refine wo rfl ?_|refine wc rfl ?_|refine wg rfl ?_|refine go rfl ?_|refine gc rfl ?_|refine gg rfl ?_)
        exact G_stop ⟨(i + 1, _), hQ, by dsimp only; omega, by dsimp only; rw [hms]; (repeat (first | exact trivial | refine ⟨rfl, ?_⟩)), .rfl⟩
      · rw [if_neg hk] at hp2 hms
        repeat' (first|(refine isO ?_;first|refine oo (Pc rfl) ?_|refine oo (Pa rfl (by omega) (by omega)) ?_|(refine ob rfl ?_ ?_<;>intro hq<;>try (exfalso;omega))|refine oo (Pi rfl (by first|omega|(simp only [wr_length];omega))) ?_|refine oo (Pz rfl (by omega) (by omega)) ?_|refine oo (Pl rfl) ?_|refine oo (Px rfl rfl) ?_|refine oo (Pj rfl (by omega) (by omega)) ?_|refine oo (Pk rfl (by omega) (by omega)) ?_|refine oo (Pf rfl) ?_|refine oo (Pv rfl (by omega) (by omega)) ?_|refine oo (Pn rfl) ?_|refine oo (Ph rfl) ?_|refine oo (Pg rfl (by omega) (by omega)) ?_|refine oo (Pe rfl (by omega) (by omega)) ?_|refine oo (Po rfl (by omega) (by omega)) ?_|refine oo (Pm rfl) ?_|refine os rfl rfl ?_|refine ot rfl (by first|omega|(simp only [wr_length];omega)) ?_|refine O_nil ?_)|refine wo rfl ?_|refine wc rfl ?_|refine wg rfl ?_|refine go rfl ?_|refine gc rfl ?_|refine gg rfl ?_)
        exact G_stop ⟨(i + 1, _), hQ, by dsimp only; omega, by dsimp only; rw [hms]; (repeat (first | exact trivial | refine ⟨rfl, ?_⟩)), .rfl⟩
    · have hx2 : rd SA1 (i : Int) = 0 := by
        rcases hz.2 i hin with h1 | ⟨h1, h2⟩ <;> omega
      repeat' (first|(refine isO ?_;first|refine oo (Pc rfl) ?_|refine oo (Pa rfl (by omega) (by omega)) ?_|(refine ob rfl ?_ ?_<;>intro hq<;>try (exfalso;omega))|refine oo (Pi rfl (by first|omega|(simp only [wr_length];omega))) ?_|refine oo (Pz rfl (by omega) (by omega)) ?_|refine oo (Pl rfl) ?_|refine oo (Px rfl rfl) ?_|refine oo (Pj rfl (by omega) (by omega)) ?_|refine oo (Pk rfl (by omega) (by omega)) ?_|refine oo (Pf rfl) ?_|refine oo (Pv rfl (by omega) (by omega)) ?_|refine oo (Pn rfl) ?_|refine oo (Ph rfl) ?_|refine oo (Pg rfl (by omega) (by omega)) ?_|refine oo (Pe rfl (by omega) (by omega)) ?_|refine oo (Po rfl (by omega) (by omega)) ?_|refine oo (Pm rfl) ?_|refine os rfl rfl ?_|refine ot rfl (by first|omega|(simp only [wr_length];omega)) ?_|refine O_nil ?_)|refine wo rfl ?_|refine wc rfl ?_|refine wg rfl ?_|refine go rfl ?_|refine gc rfl ?_|refine gg rfl ?_)
      exact G_stop ⟨i, SA1, hp, hi, hin, hx2, by (repeat (first | exact trivial | refine ⟨rfl, ?_⟩)), .rfl⟩
  rintro E' M' ⟨i, SA1, hp, hi, hin, hx, hsub, hrk⟩
  refine G_code (W_weak hsub hrk ?_)
  have hstop : Stop [10] := ⟨⟩
  repeat' (first|(refine isO ?_;first|refine oo (Pc rfl) ?_|refine oo (Pa rfl (by omega) (by omega)) ?_|(refine ob rfl ?_ ?_<;>intro hq<;>try (exfalso;omega))|refine oo (Pi rfl (by first|omega|(simp only [wr_length];omega))) ?_|refine oo (Pz rfl (by omega) (by omega)) ?_|refine oo (Pl rfl) ?_|refine oo (Px rfl rfl) ?_|refine oo (Pj rfl (by omega) (by omega)) ?_|refine oo (Pk rfl (by omega) (by omega)) ?_|refine oo (Pf rfl) ?_|refine oo (Pv rfl (by omega) (by omega)) ?_|refine oo (Pn rfl) ?_|refine oo (Ph rfl) ?_|refine oo (Pg rfl (by omega) (by omega)) ?_|refine oo (Pe rfl (by omega) (by omega)) ?_|refine oo (Po rfl (by omega) (by omega)) ?_|refine oo (Pm rfl) ?_|refine os rfl rfl ?_|refine ot rfl (by first|omega|(simp only [wr_length];omega)) ?_|refine O_nil ?_)|refine wu hstop rfl rfl ?_|refine gu hstop rfl rfl ?_|refine wc rfl ?_|refine wg rfl ?_|refine gc rfl ?_|refine gg rfl ?_)
  clear hstop
  refine W_join1 (fun E' M' => ∃ SA', Pkd T L SA' ∧ Sub E' [(0, .slice (some ⟨bS, oS, none⟩) lS cS), (1, .int .i64 T.length), (2, .int .i64 L.length), (10, .int .i64 (nmAt T L (L.length - 1) : Nat))] ∧ Rk M' (⟨true, bS, oS, ints .i64 SA'⟩ :: F)) ?_ ?_
  · have hpm := pk_mono (SA := SA) hp.le (Nat.le_refl _)
    rw [hSl, hL] at hpm
    have hll := hp.len
    by_cases him : i < L.length
    · have hQ := hp.pass (by omega) hx
      have hQ2 : (pk SA (i + 1)).length = i := by rw [hQ.2]; exact hi
      repeat' (first|(refine isO ?_;first|refine oo (Pc rfl) ?_|refine oo (Pa rfl (by omega) (by omega)) ?_|(refine ob rfl ?_ ?_<;>intro hq<;>try (exfalso;omega))|refine oo (Pi rfl (by first|omega|(simp only [wr_length];omega))) ?_|refine oo (Pz rfl (by omega) (by omega)) ?_|refine oo (Pl rfl) ?_|refine oo (Px rfl rfl) ?_|refine oo (Pj rfl (by omega) (by omega)) ?_|refine oo (Pk rfl (by omega) (by omega)) ?_|refine oo (Pf rfl) ?_|refine oo (Pv rfl (by omega) (by omega)) ?_|refine oo (Pn rfl) ?_|refine oo (Ph rfl) ?_|refine oo (Pg rfl (by omega) (by omega)) ?_|refine oo (Pe rfl (by omega) (by omega)) ?_|refine oo (Po rfl (by omega) (by omega)) ?_|refine oo (Pm rfl) ?_|refine os rfl rfl ?_|refine ot rfl (by first|omega|(simp only [wr_length];omega)) ?_|refine O_nil ?_)|refine wo rfl ?_|refine wc rfl ?_|refine wg rfl ?_|refine go rfl ?_|refine gc rfl ?_|refine gg rfl ?_)
      refine W_loop (α := Nat × Nat × List Int) (fun x => [(0, .slice (some ⟨bS, oS, none⟩) lS cS), (1, .int .i64 T.length), (2, .int .i64 L.length), (7, .int .i64 x.1), (9, .int .i64 x.2.1), (10, .int .i64 (mc T L x.2.1 : Nat))]) (fun x => ⟨true, bS, oS, ints .i64 x.2.2⟩ :: F) (fun x => Packed SA x.1 x.2.2 ∧ (pk SA x.1).length = x.2.1 ∧ x.2.1 < x.1 ∧ x.2.1 < L.length) (fun x => T.length - x.1)
        (i + 1, i, SA1) ⟨hQ.1, hQ2, by dsimp only; omega, him⟩ (by (repeat (first | exact trivial | refine ⟨rfl, ?_⟩))) .rfl ?_
      clear hQ hQ2 hp hi hin hx hsub hrk hpm hll him
      rintro ⟨i, j, SA1⟩ ⟨hp, hi, hji, hjm⟩
      dsimp only at hp hi hji hjm ⊢
      have hil := hp.le
      have hll := hp.len
      have hin : i < T.length := by
        refine Nat.lt_of_not_le fun h => ?_
        rw [show i = T.length by omega, hL] at hi
        omega
      have hx0 := hp.rst i (Nat.le_refl _) (by omega)
      have hml := mc_le (T := T) hm1 (Nat.le_of_lt hjm)
      by_cases hx : rd SA1 (i : Int) < 0
      · obtain ⟨hp1, hp2⟩ := pk_at hz hin (by rw [← hx0]; exact hx)
        rw [hi] at hp1 hp2
        rw [hP j hjm, ← hx0] at hp2
        have hLn := lms_lt (hS.lms hjm)
        have hQ := hp.two (by omega) hi hji hx
        have hms := mc_succ (T := T) hjm
        unfold mkN at hp2
        by_cases hk : LastK T L j
        · rw [if_pos hk] at hp2 hms
          by_cases hjm2 : j + 1 = L.length
          · have hall := mc_all (T := T) (L := L)
            rw [← hjm2] at hall
            repeat' (first|(refine isO ?_;first|refine oo (Pc rfl) ?_|refine oo (Pa rfl (by omega) (by omega)) ?_|(refine ob rfl ?_ ?_<;>intro hq<;>try (exfalso;omega))|refine oo (Pi rfl (by first|omega|(simp only [wr_length];omega))) ?_|refine oo (Pz rfl (by omega) (by omega)) ?_|refine oo (Pl rfl) ?_|refine oo (Px rfl rfl) ?_|refine oo (Pj rfl (by omega) (by omega)) ?_|refine oo (Pk rfl (by omega) (by omega)) ?_|refine oo (Pf rfl) ?_|refine oo (Pv rfl (by omega) (by omega)) ?_|refine oo (Pn rfl) ?_|refine oo (Ph rfl) ?_|refine oo (Pg rfl (by omega) (by omega)) ?_|refine oo (Pe rfl (by omega) (by omega)) ?_|refine oo (Po rfl (by omega) (by omega)) ?_|refine oo (Pm rfl) ?_|refine os rfl rfl ?_|refine ot rfl (by first|omega|(simp only [wr_length];omega)) ?_|refine O_nil ?_)|refine wo rfl ?_|refine wc rfl ?_|refine wg rfl ?_|refine go rfl ?_|refine gc rfl ?_|refine gg rfl ?_)
            exact G_stop ⟨_, hQ.1.pkd hz hL hP (by rw [hQ.2]; exact hjm2), by rw [← hjm2, ← hall, hms]; (repeat (first | exact trivial | refine ⟨rfl, ?_⟩)), .rfl⟩
          · repeat' (first|(refine isO ?_;first|refine oo (Pc rfl) ?_|refine oo (Pa rfl (by omega) (by omega)) ?_|(refine ob rfl ?_ ?_<;>intro hq<;>try (exfalso;omega))|refine oo (Pi rfl (by first|omega|(simp only [wr_length];omega))) ?_|refine oo (Pz rfl (by omega) (by omega)) ?_|refine oo (Pl rfl) ?_|refine oo (Px rfl rfl) ?_|refine oo (Pj rfl (by omega) (by omega)) ?_|refine oo (Pk rfl (by omega) (by omega)) ?_|refine oo (Pf rfl) ?_|refine oo (Pv rfl (by omega) (by omega)) ?_|refine oo (Pn rfl) ?_|refine oo (Ph rfl) ?_|refine oo (Pg rfl (by omega) (by omega)) ?_|refine oo (Pe rfl (by omega) (by omega)) ?_|refine oo (Po rfl (by omega) (by omega)) ?_|refine oo (Pm rfl) ?_|refine os rfl rfl ?_|refine ot rfl (by first|omega|(simp only [wr_length];omega)) ?_|refine O_nil ?_)|refine wo rfl ?_|refine wc rfl ?_|refine wg rfl ?_|refine go rfl ?_|refine gc rfl ?_|refine gg rfl ?_)
            exact G_stop ⟨(i + 1, j + 1, _), ⟨hQ.1, hQ.2, by dsimp only; omega, by dsimp only; omega⟩, by dsimp only; omega, by dsimp only; rw [hms]; (repeat (first | exact trivial | refine ⟨rfl, ?_⟩)), .rfl⟩
        · rw [if_neg hk] at hp2 hms
          have hjm2 : j + 1 ≠ L.length := fun e => hk fun h => by omega
          repeat' (first|(refine isO ?_;first|refine oo (Pc rfl) ?_|refine oo (Pa rfl (by omega) (by omega)) ?_|(refine ob rfl ?_ ?_<;>intro hq<;>try (exfalso;omega))|refine oo (Pi rfl (by first|omega|(simp only [wr_length];omega))) ?_|refine oo (Pz rfl (by omega) (by omega)) ?_|refine oo (Pl rfl) ?_|refine oo (Px rfl rfl) ?_|refine oo (Pj rfl (by omega) (by omega)) ?_|refine oo (Pk rfl (by omega) (by omega)) ?_|refine oo (Pf rfl) ?_|refine oo (Pv rfl (by omega) (by omega)) ?_|refine oo (Pn rfl) ?_|refine oo (Ph rfl) ?_|refine oo (Pg rfl (by omega) (by omega)) ?_|refine oo (Pe rfl (by omega) (by omega)) ?_|refine oo (Po rfl (by omega) (by omega)) ?_|refine oo (Pm rfl) ?_|refine os rfl rfl ?_|refine ot rfl (by first|omega|(simp only [wr_length];omega)) ?_|refine O_nil ?_)|refine wo rfl ?_|refine wc rfl ?_|refine wg rfl ?_|refine go rfl ?_|refine gc rfl ?_|refine gg rfl ?_)
          exact G_stop ⟨(i + 1, j + 1, _), ⟨hQ.1, hQ.2, by dsimp only; omega, by dsimp only; omega⟩, by dsimp only; omega, by dsimp only; rw [hms]; (repeat (first | exact trivial | refine ⟨rfl, ?_⟩)), .rfl⟩
      · have hx2 : rd SA1 (i : Int) = 0 := by
          rcases hz.2 i hin with h1 | ⟨h1, h2⟩ <;> omega
        have hQ := hp.pass (by omega) hx2
        repeat' (first|(refine isO ?_;first|refine oo (Pc rfl) ?_|refine oo (Pa rfl (by omega) (by omega)) ?_|(refine ob rfl ?_ ?_<;>intro hq<;>try (exfalso;omega))|refine oo (Pi rfl (by first|omega|(simp only [wr_length];omega))) ?_|refine oo (Pz rfl (by omega) (by omega)) ?_|refine oo (Pl rfl) ?_|refine oo (Px rfl rfl) ?_|refine oo (Pj rfl (by omega) (by omega)) ?_|refine oo (Pk rfl (by omega) (by omega)) ?_|refine oo (Pf rfl) ?_|refine oo (Pv rfl (by omega) (by omega)) ?_|refine oo (Pn rfl) ?_|refine oo (Ph rfl) ?_|refine oo (Pg rfl (by omega) (by omega)) ?_|refine oo (Pe rfl (by omega) (by omega)) ?_|refine oo (Po rfl (by omega) (by omega)) ?_|refine oo (Pm rfl) ?_|refine os rfl rfl ?_|refine ot rfl (by first|omega|(simp only [wr_length];omega)) ?_|refine O_nil ?_)|refine wo rfl ?_|refine wc rfl ?_|refine wg rfl ?_|refine go rfl ?_|refine gc rfl ?_|refine gg rfl ?_)
        exact G_stop ⟨(i + 1, j, SA1), ⟨hQ.1, by dsimp only; rw [hQ.2]; exact hi, by dsimp only; omega, hjm⟩, by dsimp only; omega, by (repeat (first | exact trivial | refine ⟨rfl, ?_⟩)), .rfl⟩
    · have him : i = L.length := by omega
      subst him
      have hall := mc_all (T := T) (L := L)
      repeat' (first|(refine isO ?_;first|refine oo (Pc rfl) ?_|refine oo (Pa rfl (by omega) (by omega)) ?_|(refine ob rfl ?_ ?_<;>intro hq<;>try (exfalso;omega))|refine oo (Pi rfl (by first|omega|(simp only [wr_length];omega))) ?_|refine oo (Pz rfl (by omega) (by omega)) ?_|refine oo (Pl rfl) ?_|refine oo (Px rfl rfl) ?_|refine oo (Pj rfl (by omega) (by omega)) ?_|refine oo (Pk rfl (by omega) (by omega)) ?_|refine oo (Pf rfl) ?_|refine oo (Pv rfl (by omega) (by omega)) ?_|refine oo (Pn rfl) ?_|refine oo (Ph rfl) ?_|refine oo (Pg rfl (by omega) (by omega)) ?_|refine oo (Pe rfl (by omega) (by omega)) ?_|refine oo (Po rfl (by omega) (by omega)) ?_|refine oo (Pm rfl) ?_|refine os rfl rfl ?_|refine ot rfl (by first|omega|(simp only [wr_length];omega)) ?_|refine O_nil ?_)|refine wo rfl ?_|refine wc rfl ?_|refine wg rfl ?_|refine go rfl ?_|refine gc rfl ?_|refine gg rfl ?_)
      exact G_stop ⟨_, hp.pkd hz hL hP hi, by rw [← hall]; (repeat (first | exact trivial | refine ⟨rfl, ?_⟩)), .rfl⟩
  clear hp hi hin hx hsub hrk SA1 hL hP hz h0
  rintro E' M' ⟨SA1, hp, hsub, hrk⟩
  refine G_code (W_weak hsub hrk ?_)
  clear hsub hrk E' M'
  have hnl := nmAt_le T L (L.length - 1)
  have hnm := hp.len
  by_cases hnn : nmAt T L (L.length - 1) < L.length
  · repeat' (first|(refine isO ?_;first|refine oo (Pc rfl) ?_|refine oo (Pa rfl (by omega) (by omega)) ?_|(refine ob rfl ?_ ?_<;>intro hq<;>try (exfalso;omega))|refine oo (Pi rfl (by first|omega|(simp only [wr_length];omega))) ?_|refine oo (Pz rfl (by omega) (by omega)) ?_|refine oo (Pl rfl) ?_|refine oo (Px rfl rfl) ?_|refine oo (Pj rfl (by omega) (by omega)) ?_|refine oo (Pk rfl (by omega) (by omega)) ?_|refine oo (Pf rfl) ?_|refine oo (Pv rfl (by omega) (by omega)) ?_|refine oo (Pn rfl) ?_|refine oo (Ph rfl) ?_|refine oo (Pg rfl (by omega) (by omega)) ?_|refine oo (Pe rfl (by omega) (by omega)) ?_|refine oo (Po rfl (by omega) (by omega)) ?_|refine oo (Pm rfl) ?_|refine os rfl rfl ?_|refine ot rfl (by first|omega|(simp only [wr_length];omega)) ?_|refine O_nil ?_)|refine wo rfl ?_|refine wc rfl ?_|refine wg rfl ?_|refine go rfl ?_|refine gc rfl ?_|refine gg rfl ?_)
    refine W_loop (α := Nat × List Int) (fun x => [(0, .slice (some ⟨bS, oS, none⟩) lS cS), (1, .int .i64 T.length), (2, .int .i64 L.length), (7, .int .i64 ((x.1 : Int) - 1)), (9, .int .i64 (dN T L x.1 : Nat)), (10, .int .i64 (nmAt T L (L.length - 1) : Nat))]) (fun x => ⟨true, bS, oS, ints .i64 x.2⟩ :: F) (fun x => x.1 ≤ L.length ∧ Nm2 T L x.1 x.2) (fun x => x.1)
      (L.length, SA1) ⟨Nat.le_refl _, hp.nm⟩ (by dsimp only; rw [show dN T L L.length = nmAt T L (L.length - 1) + 1 from if_neg (Nat.lt_irrefl _)]; (repeat (first | exact trivial | refine ⟨rfl, ?_⟩))) .rfl ?_
    clear hp hnm
    rintro ⟨r, SA1⟩ ⟨hr, hN⟩
    dsimp only at hr hN ⊢
    have hNl := hN.len
    cases r with
    | zero =>
      repeat' (first|(refine isO ?_;first|refine oo (Pc rfl) ?_|refine oo (Pa rfl (by omega) (by omega)) ?_|(refine ob rfl ?_ ?_<;>intro hq<;>try (exfalso;omega))|refine oo (Pi rfl (by first|omega|(simp only [wr_length];omega))) ?_|refine oo (Pz rfl (by omega) (by omega)) ?_|refine oo (Pl rfl) ?_|refine oo (Px rfl rfl) ?_|refine oo (Pj rfl (by omega) (by omega)) ?_|refine oo (Pk rfl (by omega) (by omega)) ?_|refine oo (Pf rfl) ?_|refine oo (Pv rfl (by omega) (by omega)) ?_|refine oo (Pn rfl) ?_|refine oo (Ph rfl) ?_|refine oo (Pg rfl (by omega) (by omega)) ?_|refine oo (Pe rfl (by omega) (by omega)) ?_|refine oo (Po rfl (by omega) (by omega)) ?_|refine oo (Pm rfl) ?_|refine os rfl rfl ?_|refine ot rfl (by first|omega|(simp only [wr_length];omega)) ?_|refine O_nil ?_)|refine wo rfl ?_|refine wc rfl ?_|refine wg rfl ?_|refine go rfl ?_|refine gc rfl ?_|refine gg rfl ?_)
      exact G_fin ⟨_, rfl, SA1, nmAt T L (L.length - 1), rfl, ⟨L, hS, rfl, hNl, fun h => by omega, rfl, fun _ => ⟨fun a ha => hN.new a (Nat.zero_le _) ha, fun u h1 h2 h3 => hN.rst u h1 h2 fun a _ ha => h3 a ha⟩⟩, rfl⟩
    | succ u =>
      rw [show (((u + 1 : Nat) : Int) - 1) = (u : Int) by omega]
      have hf := hN.fst u (by omega)
      have hLn := lms_lt (hS.lms (show u < L.length by omega))
      have hd := dN_step (T := T) (show u < L.length by omega)
      have hd2 := dN_at (T := T) (show u < L.length by omega)
      have hw := hN.step hS h2m (show u < L.length by omega) rfl
      have hnu := nmAt_le T L u
      have hnp := nmAt_pos T L u
      unfold mkN at hf
      generalize ch L u = p at *
      by_cases hk : LastK T L u
      · rw [if_pos hk] at hf hd
        have e3 : (L.length : Int) + (rd SA1 u - (T.length : Int)) / 2 = ((L.length + p / 2 : Nat) : Int) := by rw [hf]; omega
        have e5 : ((dN T L (u + 1) : Nat) : Int) - 1 = (nmAt T L u : Nat) := by rw [hd]; omega
        have hmp : L.length + p / 2 < T.length := by omega
        repeat' (first|(refine isO ?_;first|refine oo (Pc rfl) ?_|refine oo (Pa rfl (by omega) (by omega)) ?_|(refine ob rfl ?_ ?_<;>intro hq<;>try (exfalso;omega))|refine oo (Pi rfl (by first|omega|(simp only [wr_length];omega))) ?_|refine oo (Pz rfl (by omega) (by omega)) ?_|refine oo (Pl rfl) ?_|refine oo (Px rfl rfl) ?_|refine oo (Pj rfl (by omega) (by omega)) ?_|refine oo (Pk rfl (by omega) (by omega)) ?_|refine oo (Pf rfl) ?_|refine oo (Pv rfl (by omega) (by omega)) ?_|refine oo (Pn rfl) ?_|refine oo (Ph rfl) ?_|refine oo (Pg rfl (by omega) (by omega)) ?_|refine oo (Pe rfl (by omega) (by omega)) ?_|refine oo (Po rfl (by omega) (by omega)) ?_|refine oo (Pm rfl) ?_|refine os rfl rfl ?_|refine ot rfl (by first|omega|(simp only [wr_length];omega)) ?_|refine O_nil ?_)|refine wo rfl ?_|refine wc rfl ?_|refine wg rfl ?_|refine go rfl ?_|refine gc rfl ?_|refine gg rfl ?_)
        rw [e3, e5]
        exact G_stop ⟨(u, _), ⟨by dsimp only; omega, hw.2⟩, by dsimp only; omega, by dsimp only; rw [hd2]; (repeat (first | exact trivial | refine ⟨rfl, ?_⟩)), .rfl⟩
      · rw [if_neg hk] at hf hd
        have e3 : (L.length : Int) + rd SA1 u / 2 = ((L.length + p / 2 : Nat) : Int) := by rw [hf]; omega
        have e5 : dN T L (u + 1) = nmAt T L u := by rw [hd]; rfl
        have hmp : L.length + p / 2 < T.length := by omega
        repeat' (first|(refine isO ?_;first|refine oo (Pc rfl) ?_|refine oo (Pa rfl (by omega) (by omega)) ?_|(refine ob rfl ?_ ?_<;>intro hq<;>try (exfalso;omega))|refine oo (Pi rfl (by first|omega|(simp only [wr_length];omega))) ?_|refine oo (Pz rfl (by omega) (by omega)) ?_|refine oo (Pl rfl) ?_|refine oo (Px rfl rfl) ?_|refine oo (Pj rfl (by omega) (by omega)) ?_|refine oo (Pk rfl (by omega) (by omega)) ?_|refine oo (Pf rfl) ?_|refine oo (Pv rfl (by omega) (by omega)) ?_|refine oo (Pn rfl) ?_|refine oo (Ph rfl) ?_|refine oo (Pg rfl (by omega) (by omega)) ?_|refine oo (Pe rfl (by omega) (by omega)) ?_|refine oo (Po rfl (by omega) (by omega)) ?_|refine oo (Pm rfl) ?_|refine os rfl rfl ?_|refine ot rfl (by first|omega|(simp only [wr_length];omega)) ?_|refine O_nil ?_)|refine wo rfl ?_|refine wc rfl ?_|refine wg rfl ?_|refine go rfl ?_|refine gc rfl ?_|refine gg rfl ?_)
        rw [e3, e5]
        exact G_stop ⟨(u, _), ⟨by dsimp only; omega, hw.2⟩, by dsimp only; omega, by dsimp only; rw [hd2]; (repeat (first | exact trivial | refine ⟨rfl, ?_⟩)), .rfl⟩
  · repeat' (first|(refine isO ?_;first|refine oo (Pc rfl) ?_|refine oo (Pa rfl (by omega) (by omega)) ?_|(refine ob rfl ?_ ?_<;>intro hq<;>try (exfalso;omega))|refine oo (Pi rfl (by first|omega|(simp only [wr_length];omega))) ?_|refine oo (Pz rfl (by omega) (by omega)) ?_|refine oo (Pl rfl) ?_|refine oo (Px rfl rfl) ?_|refine oo (Pj rfl (by omega) (by omega)) ?_|refine oo (Pk rfl (by omega) (by omega)) ?_|refine oo (Pf rfl) ?_|refine oo (Pv rfl (by omega) (by omega)) ?_|refine oo (Pn rfl) ?_|refine oo (Ph rfl) ?_|refine oo (Pg rfl (by omega) (by omega)) ?_|refine oo (Pe rfl (by omega) (by omega)) ?_|refine oo (Po rfl (by omega) (by omega)) ?_|refine oo (Pm rfl) ?_|refine os rfl rfl ?_|refine ot rfl (by first|omega|(simp only [wr_length];omega)) ?_|refine O_nil ?_)|refine wo rfl ?_|refine wc rfl ?_|refine wg rfl ?_|refine go rfl ?_|refine gc rfl ?_|refine gg rfl ?_)
    refine W_loop (α := Nat × List Int) (fun x => [(0, .slice (some ⟨bS, oS, none⟩) lS cS), (1, .int .i64 T.length), (2, .int .i64 L.length), (7, .int .i64 x.1), (10, .int .i64 (nmAt T L (L.length - 1) : Nat))]) (fun x => ⟨true, bS, oS, ints .i64 x.2⟩ :: F) (fun x => x.1 ≤ L.length ∧ x.2.length = T.length ∧ (∀ a, a < x.1 → rd x.2 (a : Int) = (ch L a : Nat)) ∧ ∀ a, x.1 ≤ a → a < L.length → rd x.2 (a : Int) = (ch L a + mkN T L T.length a : Nat)) (fun x => L.length - x.1)
      (0, SA1) ⟨Nat.zero_le _, hnm, fun a ha => by omega, fun a _ ha => hp.fst a ha⟩ (by (repeat (first | exact trivial | refine ⟨rfl, ?_⟩))) .rfl ?_
    clear hp hnm
    rintro ⟨i, SA1⟩ ⟨hi, hNl, ha, hb⟩
    dsimp only at hi hNl ha hb ⊢
    by_cases him : i < L.length
    · have hf := hb i (Nat.le_refl _) him
      have hLn := lms_lt (hS.lms him)
      unfold mkN at hf
      by_cases hk : LastK T L i
      · rw [if_pos hk] at hf
        repeat' (first|(refine isO ?_;first|refine oo (Pc rfl) ?_|refine oo (Pa rfl (by omega) (by omega)) ?_|(refine ob rfl ?_ ?_<;>intro hq<;>try (exfalso;omega))|refine oo (Pi rfl (by first|omega|(simp only [wr_length];omega))) ?_|refine oo (Pz rfl (by omega) (by omega)) ?_|refine oo (Pl rfl) ?_|refine oo (Px rfl rfl) ?_|refine oo (Pj rfl (by omega) (by omega)) ?_|refine oo (Pk rfl (by omega) (by omega)) ?_|refine oo (Pf rfl) ?_|refine oo (Pv rfl (by omega) (by omega)) ?_|refine oo (Pn rfl) ?_|refine oo (Ph rfl) ?_|refine oo (Pg rfl (by omega) (by omega)) ?_|refine oo (Pe rfl (by omega) (by omega)) ?_|refine oo (Po rfl (by omega) (by omega)) ?_|refine oo (Pm rfl) ?_|refine os rfl rfl ?_|refine ot rfl (by first|omega|(simp only [wr_length];omega)) ?_|refine O_nil ?_)|refine wo rfl ?_|refine wc rfl ?_|refine wg rfl ?_|refine go rfl ?_|refine gc rfl ?_|refine gg rfl ?_)
        refine G_stop ⟨(i + 1, wr SA1 i (rd SA1 i - (T.length : Int))), ⟨by dsimp only; omega, by dsimp only; rw [wr_length]; exact hNl, fun a h1 => ?_, fun a h1 h2 => ?_⟩, by dsimp only; omega, by (repeat (first | exact trivial | refine ⟨rfl, ?_⟩)), .rfl⟩
        · dsimp only at h1 ⊢
          rw [Sais.rd_wr (by omega)]
          by_cases e : a = i
          · rw [e, if_pos rfl, hf]; omega
          · rw [if_neg e]; exact ha a (by omega)
        · dsimp only at h1 ⊢
          rw [Sais.rd_wr (by omega), if_neg (by omega)]; exact hb a (by omega) h2
      · rw [if_neg hk] at hf
        repeat' (first|(refine isO ?_;first|refine oo (Pc rfl) ?_|refine oo (Pa rfl (by omega) (by omega)) ?_|(refine ob rfl ?_ ?_<;>intro hq<;>try (exfalso;omega))|refine oo (Pi rfl (by first|omega|(simp only [wr_length];omega))) ?_|refine oo (Pz rfl (by omega) (by omega)) ?_|refine oo (Pl rfl) ?_|refine oo (Px rfl rfl) ?_|refine oo (Pj rfl (by omega) (by omega)) ?_|refine oo (Pk rfl (by omega) (by omega)) ?_|refine oo (Pf rfl) ?_|refine oo (Pv rfl (by omega) (by omega)) ?_|refine oo (Pn rfl) ?_|refine oo (Ph rfl) ?_|refine oo (Pg rfl (by omega) (by omega)) ?_|refine oo (Pe rfl (by omega) (by omega)) ?_|refine oo (Po rfl (by omega) (by omega)) ?_|refine oo (Pm rfl) ?_|refine os rfl rfl ?_|refine ot rfl (by first|omega|(simp only [wr_length];omega)) ?_|refine O_nil ?_)|refine wo rfl ?_|refine wc rfl ?_|refine wg rfl ?_|refine go rfl ?_|refine gc rfl ?_|refine gg rfl ?_)
        refine G_stop ⟨(i + 1, SA1), ⟨by dsimp only; omega, hNl, fun a h1 => ?_, fun a h1 h2 => hb a (by dsimp only at h1; omega) h2⟩, by dsimp only; omega, by (repeat (first | exact trivial | refine ⟨rfl, ?_⟩)), .rfl⟩
        dsimp only at h1 ⊢
        by_cases e : a = i
        · rw [e, hf]; rfl
        · exact ha a (by omega)
    · have him : i = L.length := by omega
      subst him
      repeat' (first|(refine isO ?_;first|refine oo (Pc rfl) ?_|refine oo (Pa rfl (by omega) (by omega)) ?_|(refine ob rfl ?_ ?_<;>intro hq<;>try (exfalso;omega))|refine oo (Pi rfl (by first|omega|(simp only [wr_length];omega))) ?_|refine oo (Pz rfl (by omega) (by omega)) ?_|refine oo (Pl rfl) ?_|refine oo (Px rfl rfl) ?_|refine oo (Pj rfl (by omega) (by omega)) ?_|refine oo (Pk rfl (by omega) (by omega)) ?_|refine oo (Pf rfl) ?_|refine oo (Pv rfl (by omega) (by omega)) ?_|refine oo (Pn rfl) ?_|refine oo (Ph rfl) ?_|refine oo (Pg rfl (by omega) (by omega)) ?_|refine oo (Pe rfl (by omega) (by omega)) ?_|refine oo (Po rfl (by omega) (by omega)) ?_|refine oo (Pm rfl) ?_|refine os rfl rfl ?_|refine ot rfl (by first|omega|(simp only [wr_length];omega)) ?_|refine O_nil ?_)|refine wo rfl ?_|refine wc rfl ?_|refine wg rfl ?_|refine go rfl ?_|refine gc rfl ?_|refine gg rfl ?_)
      exact G_fin ⟨_, rfl, SA1, nmAt T L (L.length - 1), rfl, ⟨L, hS, rfl, hNl, fun _ => ha, rfl, fun h => absurd h hnn⟩, rfl⟩
end Go.Proofs.Ytcibehgcibojnaa.Saib
