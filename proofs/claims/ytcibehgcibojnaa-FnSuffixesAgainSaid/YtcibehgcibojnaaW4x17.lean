/- postProcLMS1: the LMS places packed, and named. Conditions: as sortLMS1 leaves them. -/
import Derived.Test.YtcibehgcibojnaaW4x16
import Derived.Test.YtcibehgcibojnaaW4x08
import Derived.Test.YtcibehgcibojnaaW4x11

namespace Go.Proofs.Ytcibehgcibojnaa.Saib
open Go Go.RowKit Go.Proofs.Ytcibehgcibojnaa.Vm Go.Proofs.Ytcibehgcibojnaa.Sais
set_option maxHeartbeats 8000000 in
theorem postProc1_c (T : List Nat) (k : Nat) (hT : Txt T k) (SA : List Int) (h0 : Sorted1 T SA) (m : Nat) (hm : m = (lmsF T 0).length) (hm1 : 1 ≤ m)
    (own : Bool) (bT oT lT cT bS oS lS cS : Nat) (F : Mem) (hlT : T.length ≤ lT) (hlS : T.length ≤ lS) :
    HC Try.prog 18 #[.slice (some ⟨bT, oT, none⟩) lT cT, .slice (some ⟨bS, oS, none⟩) lS cS, .int .i64 T.length, .int .i64 m]
      (⟨own, bT, oT, ints .u8 (T.map Nat.cast)⟩ :: ⟨true, bS, oS, ints .i64 SA⟩ :: F)
      (fun v M' => ∃ SA' name, v = .int .i64 (name : Nat) ∧ Named T m SA' name ∧ M' = ⟨own, bT, oT, ints .u8 (T.map Nat.cast)⟩ :: ⟨true, bS, oS, ints .i64 SA'⟩ :: F) := by
  have hn0 := hT.n0
  have hn1 := hT.n1
  have hk1 := hT.k1
  have hlt := hT.lt
  have hlen : (T.map (Nat.cast : Nat → Int)).length = T.length := List.length_map _
  have hS := h0.srt
  have hSl := h0.len
  obtain ⟨L, hL⟩ : ∃ L, pk SA T.length = L := ⟨_, rfl⟩
  rw [hL] at hS
  have hLm : L.length = m := by rw [hS.len, hm]
  have h2m : 2 * m ≤ T.length := by have := lmsF_le T _ 0 (Nat.le_refl _); omega
  have hpn : (pk SA T.length).length = m := by rw [hL]; exact hLm
  refine HC_of_W (fn := Try.f18) Try.func18 rfl rfl rfl rfl ?_
  repeat' (first|(refine isO ?_;first|refine oo (Pc rfl) ?_|refine oo (Pa rfl (by omega) (by omega)) ?_|(refine ob rfl ?_ ?_<;>intro hq<;>try (exfalso;omega))|refine oo (Pi rfl (by first|omega|(simp only [wr_length];omega))) ?_|refine oo (Pz rfl (by omega) (by omega)) ?_|refine oo (Pl rfl) ?_|refine oo (Px rfl rfl) ?_|refine oo (Pj rfl (by omega) (by omega)) ?_|refine oo (Pk rfl (by omega) (by omega)) ?_|refine oo (Pf rfl) ?_|refine oo (Pv rfl (by omega) (by omega)) ?_|refine oo (Pn rfl) ?_|refine oo (Ph rfl) ?_|refine oo (Pg rfl (by omega) (by omega)) ?_|refine oo (Pe rfl (by omega) (by omega)) ?_|refine oo (Po rfl (by omega) (by omega)) ?_|refine oo (Pm rfl) ?_|refine os rfl rfl ?_|refine ot rfl (by first|omega|(simp only [wr_length];omega)) ?_|refine O_nil ?_)|refine wo rfl ?_|refine wc rfl ?_|refine wg rfl ?_|refine go rfl ?_|refine gc rfl ?_|refine gg rfl ?_)
  refine W_join1 (fun E' M' => ∃ i SA', Packed SA i SA' ∧ (pk SA i).length = i ∧ i < T.length ∧ rd SA' (i : Int) = 0 ∧ Sub E' [(0, .slice (some ⟨bT, oT, none⟩) lT cT), (1, .slice (some ⟨bS, oS, none⟩) lS cS), (2, .int .i64 T.length), (3, .int .i64 m), (9, .int .i64 i)] ∧ Rk M' (⟨own, bT, oT, ints .u8 (T.map Nat.cast)⟩ :: ⟨true, bS, oS, ints .i64 SA'⟩ :: F)) ?_ ?_
  · refine W_loop (α := Nat × List Int) (fun x => [(0, .slice (some ⟨bT, oT, none⟩) lT cT), (1, .slice (some ⟨bS, oS, none⟩) lS cS), (2, .int .i64 T.length), (3, .int .i64 m), (9, .int .i64 x.1)]) (fun x => ⟨own, bT, oT, ints .u8 (T.map Nat.cast)⟩ :: ⟨true, bS, oS, ints .i64 x.2⟩ :: F) (fun x => Packed SA x.1 x.2 ∧ (pk SA x.1).length = x.1) (fun x => T.length - x.1) (0, SA) ⟨.zero SA, by simp [pk]⟩ (by (repeat (first | exact trivial | refine ⟨rfl, ?_⟩))) .rfl ?_
    rintro ⟨i, SA1⟩ ⟨hp, hi⟩
    dsimp only at hp hi ⊢
    have hil := hp.le
    have hll := hp.len
    have hin : i < T.length := by
      have := pk_mono (SA := SA) hp.le (Nat.le_refl _)
      rw [hSl, hpn] at this
      omega
    have hx0 := hp.rst i (Nat.le_refl _) (by omega)
    by_cases hx : rd SA1 (i : Int) < 0
    · have hb : -(T.length : Int) - 1 ≤ rd SA1 (i : Int) := by
        rcases h0.cell i hin with h1 | ⟨x, h1, h2⟩
        · omega
        · have := lms_lt h1; omega
      repeat' (first|(refine isO ?_;first|refine oo (Pc rfl) ?_|refine oo (Pa rfl (by omega) (by omega)) ?_|(refine ob rfl ?_ ?_<;>intro hq<;>try (exfalso;omega))|refine oo (Pi rfl (by first|omega|(simp only [wr_length];omega))) ?_|refine oo (Pz rfl (by omega) (by omega)) ?_|refine oo (Pl rfl) ?_|refine oo (Px rfl rfl) ?_|refine oo (Pj rfl (by omega) (by omega)) ?_|refine oo (Pk rfl (by omega) (by omega)) ?_|refine oo (Pf rfl) ?_|refine oo (Pv rfl (by omega) (by omega)) ?_|refine oo (Pn rfl) ?_|refine oo (Ph rfl) ?_|refine oo (Pg rfl (by omega) (by omega)) ?_|refine oo (Pe rfl (by omega) (by omega)) ?_|refine oo (Po rfl (by omega) (by omega)) ?_|refine oo (Pm rfl) ?_|refine os rfl rfl ?_|refine ot rfl (by first|omega|(simp only [wr_length];omega)) ?_|refine O_nil ?_)|refine wo rfl ?_|refine wc rfl ?_|refine wg rfl ?_|refine go rfl ?_|refine gc rfl ?_|refine gg rfl ?_)
      have := hp.one (by omega) hi hx
      exact G_stop ⟨(i + 1, _), ⟨this.1, this.2⟩, by dsimp only; omega, by (repeat (first | exact trivial | refine ⟨rfl, ?_⟩)), .rfl⟩
    · have hx2 : rd SA1 (i : Int) = 0 := by
        rcases h0.cell i hin with h1 | ⟨x, h1, h2⟩ <;> omega
      repeat' (first|(refine isO ?_;first|refine oo (Pc rfl) ?_|refine oo (Pa rfl (by omega) (by omega)) ?_|(refine ob rfl ?_ ?_<;>intro hq<;>try (exfalso;omega))|refine oo (Pi rfl (by first|omega|(simp only [wr_length];omega))) ?_|refine oo (Pz rfl (by omega) (by omega)) ?_|refine oo (Pl rfl) ?_|refine oo (Px rfl rfl) ?_|refine oo (Pj rfl (by omega) (by omega)) ?_|refine oo (Pk rfl (by omega) (by omega)) ?_|refine oo (Pf rfl) ?_|refine oo (Pv rfl (by omega) (by omega)) ?_|refine oo (Pn rfl) ?_|refine oo (Ph rfl) ?_|refine oo (Pg rfl (by omega) (by omega)) ?_|refine oo (Pe rfl (by omega) (by omega)) ?_|refine oo (Po rfl (by omega) (by omega)) ?_|refine oo (Pm rfl) ?_|refine os rfl rfl ?_|refine ot rfl (by first|omega|(simp only [wr_length];omega)) ?_|refine O_nil ?_)|refine wo rfl ?_|refine wc rfl ?_|refine wg rfl ?_|refine go rfl ?_|refine gc rfl ?_|refine gg rfl ?_)
      exact G_stop ⟨i, SA1, hp, hi, hin, hx2, by (repeat (first | exact trivial | refine ⟨rfl, ?_⟩)), .rfl⟩
  rintro E' M' ⟨i, SA1, hp, hi, hin, hx, hsub, hrk⟩
  refine G_code (W_weak hsub hrk ?_)
  have hstop : Stop [8] := ⟨⟩
  repeat' (first|(refine isO ?_;first|refine oo (Pc rfl) ?_|refine oo (Pa rfl (by omega) (by omega)) ?_|(refine ob rfl ?_ ?_<;>intro hq<;>try (exfalso;omega))|refine oo (Pi rfl (by first|omega|(simp only [wr_length];omega))) ?_|refine oo (Pz rfl (by omega) (by omega)) ?_|refine oo (Pl rfl) ?_|refine oo (Px rfl rfl) ?_|refine oo (Pj rfl (by omega) (by omega)) ?_|refine oo (Pk rfl (by omega) (by omega)) ?_|refine oo (Pf rfl) ?_|refine oo (Pv rfl (by omega) (by omega)) ?_|refine oo (Pn rfl) ?_|refine oo (Ph rfl) ?_|refine oo (Pg rfl (by omega) (by omega)) ?_|refine oo (Pe rfl (by omega) (by omega)) ?_|refine oo (Po rfl (by omega) (by omega)) ?_|refine oo (Pm rfl) ?_|refine os rfl rfl ?_|refine ot rfl (by first|omega|(simp only [wr_length];omega)) ?_|refine O_nil ?_)|refine wu hstop rfl rfl ?_|refine gu hstop rfl rfl ?_|refine wc rfl ?_|refine wg rfl ?_|refine gc rfl ?_|refine gg rfl ?_)
  clear hstop
  refine W_join1 (fun E' M' => ∃ SA', Lens T m (T.length - 1) L SA' ∧ Sub E' [(0, .slice (some ⟨bT, oT, none⟩) lT cT), (1, .slice (some ⟨bS, oS, none⟩) lS cS), (2, .int .i64 T.length), (3, .int .i64 m)] ∧ Rk M' (⟨own, bT, oT, ints .u8 (T.map Nat.cast)⟩ :: ⟨true, bS, oS, ints .i64 SA'⟩ :: F)) ?_ ?_
  · have hpm := pk_mono (SA := SA) hp.le (Nat.le_refl _)
    rw [hSl, hpn] at hpm
    have hll := hp.len
    by_cases him : i < m
    · have hQ := hp.pass (by omega) hx
      have hQ2 : (pk SA (i + 1)).length = i := by rw [hQ.2]; exact hi
      repeat' (first|(refine isO ?_;first|refine oo (Pc rfl) ?_|refine oo (Pa rfl (by omega) (by omega)) ?_|(refine ob rfl ?_ ?_<;>intro hq<;>try (exfalso;omega))|refine oo (Pi rfl (by first|omega|(simp only [wr_length];omega))) ?_|refine oo (Pz rfl (by omega) (by omega)) ?_|refine oo (Pl rfl) ?_|refine oo (Px rfl rfl) ?_|refine oo (Pj rfl (by omega) (by omega)) ?_|refine oo (Pk rfl (by omega) (by omega)) ?_|refine oo (Pf rfl) ?_|refine oo (Pv rfl (by omega) (by omega)) ?_|refine oo (Pn rfl) ?_|refine oo (Ph rfl) ?_|refine oo (Pg rfl (by omega) (by omega)) ?_|refine oo (Pe rfl (by omega) (by omega)) ?_|refine oo (Po rfl (by omega) (by omega)) ?_|refine oo (Pm rfl) ?_|refine os rfl rfl ?_|refine ot rfl (by first|omega|(simp only [wr_length];omega)) ?_|refine O_nil ?_)|refine wo rfl ?_|refine wc rfl ?_|refine wg rfl ?_|refine go rfl ?_|refine gc rfl ?_|refine gg rfl ?_)
      refine W_loop (α := Nat × Nat × List Int) (fun x => [(0, .slice (some ⟨bT, oT, none⟩) lT cT), (1, .slice (some ⟨bS, oS, none⟩) lS cS), (2, .int .i64 T.length), (3, .int .i64 m), (9, .int .i64 x.1), (10, .int .i64 x.2.1)]) (fun x => ⟨own, bT, oT, ints .u8 (T.map Nat.cast)⟩ :: ⟨true, bS, oS, ints .i64 x.2.2⟩ :: F) (fun x => Packed SA x.1 x.2.2 ∧ (pk SA x.1).length = x.2.1 ∧ x.2.1 < x.1 ∧ x.2.1 < m) (fun x => T.length - x.1)
        (i + 1, i, SA1) ⟨hQ.1, hQ2, by dsimp only; omega, him⟩ (by (repeat (first | exact trivial | refine ⟨rfl, ?_⟩))) .rfl ?_
      clear hQ hQ2 hp hi hin hx hsub hrk hpm hll him
      rintro ⟨i, j, SA1⟩ ⟨hp, hi, hji, hjm⟩
      dsimp only at hp hi hji hjm ⊢
      have hil := hp.le
      have hll := hp.len
      have hin : i < T.length := by
        refine Nat.lt_of_not_le fun h => ?_
        rw [show i = T.length by omega, hpn] at hi
        omega
      have hx0 := hp.rst i (Nat.le_refl _) (by omega)
      by_cases hx : rd SA1 (i : Int) < 0
      · have hb : -(T.length : Int) - 1 ≤ rd SA1 (i : Int) := by
          rcases h0.cell i hin with h1 | ⟨x, h1, h2⟩
          · omega
          · have := lms_lt h1; omega
        have hQ := hp.two (by omega) hi hji hx
        by_cases hjm2 : j + 1 = m
        · repeat' (first|(refine isO ?_;first|refine oo (Pc rfl) ?_|refine oo (Pa rfl (by omega) (by omega)) ?_|(refine ob rfl ?_ ?_<;>intro hq<;>try (exfalso;omega))|refine oo (Pi rfl (by first|omega|(simp only [wr_length];omega))) ?_|refine oo (Pz rfl (by omega) (by omega)) ?_|refine oo (Pl rfl) ?_|refine oo (Px rfl rfl) ?_|refine oo (Pj rfl (by omega) (by omega)) ?_|refine oo (Pk rfl (by omega) (by omega)) ?_|refine oo (Pf rfl) ?_|refine oo (Pv rfl (by omega) (by omega)) ?_|refine oo (Pn rfl) ?_|refine oo (Ph rfl) ?_|refine oo (Pg rfl (by omega) (by omega)) ?_|refine oo (Pe rfl (by omega) (by omega)) ?_|refine oo (Po rfl (by omega) (by omega)) ?_|refine oo (Pm rfl) ?_|refine os rfl rfl ?_|refine ot rfl (by first|omega|(simp only [wr_length];omega)) ?_|refine O_nil ?_)|refine wo rfl ?_|refine wc rfl ?_|refine wg rfl ?_|refine go rfl ?_|refine gc rfl ?_|refine gg rfl ?_)
          exact G_stop ⟨_, hQ.1.lens h0 hL hLm (by rw [hQ.2]; exact hjm2), by (repeat (first | exact trivial | refine ⟨rfl, ?_⟩)), .rfl⟩
        · repeat' (first|(refine isO ?_;first|refine oo (Pc rfl) ?_|refine oo (Pa rfl (by omega) (by omega)) ?_|(refine ob rfl ?_ ?_<;>intro hq<;>try (exfalso;omega))|refine oo (Pi rfl (by first|omega|(simp only [wr_length];omega))) ?_|refine oo (Pz rfl (by omega) (by omega)) ?_|refine oo (Pl rfl) ?_|refine oo (Px rfl rfl) ?_|refine oo (Pj rfl (by omega) (by omega)) ?_|refine oo (Pk rfl (by omega) (by omega)) ?_|refine oo (Pf rfl) ?_|refine oo (Pv rfl (by omega) (by omega)) ?_|refine oo (Pn rfl) ?_|refine oo (Ph rfl) ?_|refine oo (Pg rfl (by omega) (by omega)) ?_|refine oo (Pe rfl (by omega) (by omega)) ?_|refine oo (Po rfl (by omega) (by omega)) ?_|refine oo (Pm rfl) ?_|refine os rfl rfl ?_|refine ot rfl (by first|omega|(simp only [wr_length];omega)) ?_|refine O_nil ?_)|refine wo rfl ?_|refine wc rfl ?_|refine wg rfl ?_|refine go rfl ?_|refine gc rfl ?_|refine gg rfl ?_)
          exact G_stop ⟨(i + 1, j + 1, _), ⟨hQ.1, hQ.2, by dsimp only; omega, by dsimp only; omega⟩, by dsimp only; omega, by (repeat (first | exact trivial | refine ⟨rfl, ?_⟩)), .rfl⟩
      · have hx2 : rd SA1 (i : Int) = 0 := by
          rcases h0.cell i hin with h1 | ⟨x, h1, h2⟩ <;> omega
        have hQ := hp.pass (by omega) hx2
        repeat' (first|(refine isO ?_;first|refine oo (Pc rfl) ?_|refine oo (Pa rfl (by omega) (by omega)) ?_|(refine ob rfl ?_ ?_<;>intro hq<;>try (exfalso;omega))|refine oo (Pi rfl (by first|omega|(simp only [wr_length];omega))) ?_|refine oo (Pz rfl (by omega) (by omega)) ?_|refine oo (Pl rfl) ?_|refine oo (Px rfl rfl) ?_|refine oo (Pj rfl (by omega) (by omega)) ?_|refine oo (Pk rfl (by omega) (by omega)) ?_|refine oo (Pf rfl) ?_|refine oo (Pv rfl (by omega) (by omega)) ?_|refine oo (Pn rfl) ?_|refine oo (Ph rfl) ?_|refine oo (Pg rfl (by omega) (by omega)) ?_|refine oo (Pe rfl (by omega) (by omega)) ?_|refine oo (Po rfl (by omega) (by omega)) ?_|refine oo (Pm rfl) ?_|refine os rfl rfl ?_|refine ot rfl (by first|omega|(simp only [wr_length];omega)) ?_|refine O_nil ?_)|refine wo rfl ?_|refine wc rfl ?_|refine wg rfl ?_|refine go rfl ?_|refine gc rfl ?_|refine gg rfl ?_)
        exact G_stop ⟨(i + 1, j, SA1), ⟨hQ.1, by dsimp only; rw [hQ.2]; exact hi, by dsimp only; omega, hjm⟩, by dsimp only; omega, by (repeat (first | exact trivial | refine ⟨rfl, ?_⟩)), .rfl⟩
    · have him : i = m := by omega
      repeat' (first|(refine isO ?_;first|refine oo (Pc rfl) ?_|refine oo (Pa rfl (by omega) (by omega)) ?_|(refine ob rfl ?_ ?_<;>intro hq<;>try (exfalso;omega))|refine oo (Pi rfl (by first|omega|(simp only [wr_length];omega))) ?_|refine oo (Pz rfl (by omega) (by omega)) ?_|refine oo (Pl rfl) ?_|refine oo (Px rfl rfl) ?_|refine oo (Pj rfl (by omega) (by omega)) ?_|refine oo (Pk rfl (by omega) (by omega)) ?_|refine oo (Pf rfl) ?_|refine oo (Pv rfl (by omega) (by omega)) ?_|refine oo (Pn rfl) ?_|refine oo (Ph rfl) ?_|refine oo (Pg rfl (by omega) (by omega)) ?_|refine oo (Pe rfl (by omega) (by omega)) ?_|refine oo (Po rfl (by omega) (by omega)) ?_|refine oo (Pm rfl) ?_|refine os rfl rfl ?_|refine ot rfl (by first|omega|(simp only [wr_length];omega)) ?_|refine O_nil ?_)|refine wo rfl ?_|refine wc rfl ?_|refine wg rfl ?_|refine go rfl ?_|refine gc rfl ?_|refine gg rfl ?_)
      exact G_stop ⟨_, hp.lens h0 hL hLm (by omega), by (repeat (first | exact trivial | refine ⟨rfl, ?_⟩)), .rfl⟩
  clear hp hi hin hx hsub hrk SA1 hpn
  rintro E' M' ⟨SA1, hp, hsub, hrk⟩
  refine G_code (W_weak hsub hrk ?_)
  clear hsub hrk E' M'
  have e1 : rd (T.map Nat.cast) ((T.length : Int) - 1) = (ch T (T.length - 1) : Nat) := by rw [rd_ch', show ((T.length : Int) - 1).toNat = T.length - 1 by omega]
  have e0 : ((T.length : Int) - 1) = ((T.length - 1 : Nat) : Int) := by omega
  have c1 := hlt (T.length - 1)
  repeat' (first|(refine isO ?_;first|refine oo (Pc rfl) ?_|refine oo (Pa rfl (by omega) (by omega)) ?_|(refine ob rfl ?_ ?_<;>intro hq<;>try (exfalso;omega))|refine oo (Pi rfl (by first|omega|(simp only [wr_length];omega))) ?_|refine oo (Pz rfl (by omega) (by omega)) ?_|refine oo (Pl rfl) ?_|refine oo (Px rfl rfl) ?_|refine oo (Pj rfl (by omega) (by omega)) ?_|refine oo (Pk rfl (by omega) (by omega)) ?_|refine oo (Pf rfl) ?_|refine oo (Pv rfl (by omega) (by omega)) ?_|refine oo (Pn rfl) ?_|refine oo (Ph rfl) ?_|refine oo (Pg rfl (by omega) (by omega)) ?_|refine oo (Pe rfl (by omega) (by omega)) ?_|refine oo (Po rfl (by omega) (by omega)) ?_|refine oo (Pm rfl) ?_|refine os rfl rfl ?_|refine ot rfl (by first|omega|(simp only [wr_length];omega)) ?_|refine O_nil ?_)|refine wo rfl ?_|refine wc rfl ?_|refine wg rfl ?_|refine go rfl ?_|refine gc rfl ?_|refine gg rfl ?_)
  rw [e1, e0]
  clear e1 e0 c1
  refine W_join1 (fun E' M' => ∃ (e : Nat) (z : Int), LSc T (T.length - 1) e ∧ (0 < e → z = (ch T (e - 1) : Nat)) ∧ Sub E' [(0, .slice (some ⟨bT, oT, none⟩) lT cT), (1, .slice (some ⟨bS, oS, none⟩) lS cS), (2, .int .i64 T.length), (3, .int .i64 m), (10, .int .i64 (T.length - 1 : Nat)), (9, .int .i64 ((e : Int) - 1)), (16, .int .i64 z), (17, .int .i64 (ch T e : Nat))] ∧ Rk M' (⟨own, bT, oT, ints .u8 (T.map Nat.cast)⟩ :: ⟨true, bS, oS, ints .i64 SA1⟩ :: F)) ?_ ?_
  · refine W_loop (α := Nat) (fun r => [(0, .slice (some ⟨bT, oT, none⟩) lT cT), (1, .slice (some ⟨bS, oS, none⟩) lS cS), (2, .int .i64 T.length), (3, .int .i64 m), (10, .int .i64 (T.length - 1 : Nat)), (9, .int .i64 r), (16, .int .i64 (ch T r : Nat))]) (fun _ => ⟨own, bT, oT, ints .u8 (T.map Nat.cast)⟩ :: ⟨true, bS, oS, ints .i64 SA1⟩ :: F) (fun r => LIn T (T.length - 1) r) (fun r => r) (T.length - 1) (.start (not_st_end hn0)) (by (repeat (first | exact trivial | refine ⟨rfl, ?_⟩))) .rfl ?_
    rintro r hr
    (try dsimp only at hr ⊢)
    have hr1 := hr.1
    have hr2 := hlt r
    cases r with
    | zero =>
      repeat' (first|(refine isO ?_;first|refine oo (Pc rfl) ?_|refine oo (Pa rfl (by omega) (by omega)) ?_|(refine ob rfl ?_ ?_<;>intro hq<;>try (exfalso;omega))|refine oo (Pi rfl (by first|omega|(simp only [wr_length];omega))) ?_|refine oo (Pz rfl (by omega) (by omega)) ?_|refine oo (Pl rfl) ?_|refine oo (Px rfl rfl) ?_|refine oo (Pj rfl (by omega) (by omega)) ?_|refine oo (Pk rfl (by omega) (by omega)) ?_|refine oo (Pf rfl) ?_|refine oo (Pv rfl (by omega) (by omega)) ?_|refine oo (Pn rfl) ?_|refine oo (Ph rfl) ?_|refine oo (Pg rfl (by omega) (by omega)) ?_|refine oo (Pe rfl (by omega) (by omega)) ?_|refine oo (Po rfl (by omega) (by omega)) ?_|refine oo (Pm rfl) ?_|refine os rfl rfl ?_|refine ot rfl (by first|omega|(simp only [wr_length];omega)) ?_|refine O_nil ?_)|refine wo rfl ?_|refine wc rfl ?_|refine wg rfl ?_|refine go rfl ?_|refine gc rfl ?_|refine gg rfl ?_)
      exact G_stop ⟨0, (ch T 0 : Nat), ⟨hr, fun h => absurd h (by decide)⟩, fun h => absurd h (by decide), by (repeat (first | exact trivial | refine ⟨rfl, ?_⟩)), .rfl⟩
    | succ u =>
      have e0 : (((u + 1 : Nat) : Int) - 1) = (u : Int) := by omega
      have e1 : rd (T.map Nat.cast) (((u + 1 : Nat) : Int) - 1) = (ch T u : Nat) := by rw [e0]; exact rd_ch T u
      have hr3 := hlt u
      by_cases hc : ch T u < ch T (u + 1)
      · repeat' (first|(refine isO ?_;first|refine oo (Pc rfl) ?_|refine oo (Pa rfl (by omega) (by omega)) ?_|(refine ob rfl ?_ ?_<;>intro hq<;>try (exfalso;omega))|refine oo (Pi rfl (by first|omega|(simp only [wr_length];omega))) ?_|refine oo (Pz rfl (by omega) (by omega)) ?_|refine oo (Pl rfl) ?_|refine oo (Px rfl rfl) ?_|refine oo (Pj rfl (by omega) (by omega)) ?_|refine oo (Pk rfl (by omega) (by omega)) ?_|refine oo (Pf rfl) ?_|refine oo (Pv rfl (by omega) (by omega)) ?_|refine oo (Pn rfl) ?_|refine oo (Ph rfl) ?_|refine oo (Pg rfl (by omega) (by omega)) ?_|refine oo (Pe rfl (by omega) (by omega)) ?_|refine oo (Po rfl (by omega) (by omega)) ?_|refine oo (Pm rfl) ?_|refine os rfl rfl ?_|refine ot rfl (by first|omega|(simp only [wr_length];omega)) ?_|refine O_nil ?_)|refine wo rfl ?_|refine wc rfl ?_|refine wg rfl ?_|refine go rfl ?_|refine gc rfl ?_|refine gg rfl ?_)
        exact G_stop ⟨u + 1, _, hr.stop (by omega) hc, fun _ => e1, by (repeat (first | exact trivial | refine ⟨rfl, ?_⟩)), .rfl⟩
      · repeat' (first|(refine isO ?_;first|refine oo (Pc rfl) ?_|refine oo (Pa rfl (by omega) (by omega)) ?_|(refine ob rfl ?_ ?_<;>intro hq<;>try (exfalso;omega))|refine oo (Pi rfl (by first|omega|(simp only [wr_length];omega))) ?_|refine oo (Pz rfl (by omega) (by omega)) ?_|refine oo (Pl rfl) ?_|refine oo (Px rfl rfl) ?_|refine oo (Pj rfl (by omega) (by omega)) ?_|refine oo (Pk rfl (by omega) (by omega)) ?_|refine oo (Pf rfl) ?_|refine oo (Pv rfl (by omega) (by omega)) ?_|refine oo (Pn rfl) ?_|refine oo (Ph rfl) ?_|refine oo (Pg rfl (by omega) (by omega)) ?_|refine oo (Pe rfl (by omega) (by omega)) ?_|refine oo (Po rfl (by omega) (by omega)) ?_|refine oo (Pm rfl) ?_|refine os rfl rfl ?_|refine ot rfl (by first|omega|(simp only [wr_length];omega)) ?_|refine O_nil ?_)|refine wo rfl ?_|refine wc rfl ?_|refine wg rfl ?_|refine go rfl ?_|refine gc rfl ?_|refine gg rfl ?_)
        rw [e1, e0]
        exact G_stop ⟨u, hr.on (by omega) hc, by (try dsimp only); omega, by (repeat (first | exact trivial | refine ⟨rfl, ?_⟩)), .rfl⟩
  rintro E' M' ⟨e, z, he, hz, hsub, hrk⟩
  refine G_code (W_weak hsub hrk ?_)
  clear hsub hrk E' M'
  repeat' (first|(refine isO ?_;first|refine oo (Pc rfl) ?_|refine oo (Pa rfl (by omega) (by omega)) ?_|(refine ob rfl ?_ ?_<;>intro hq<;>try (exfalso;omega))|refine oo (Pi rfl (by first|omega|(simp only [wr_length];omega))) ?_|refine oo (Pz rfl (by omega) (by omega)) ?_|refine oo (Pl rfl) ?_|refine oo (Px rfl rfl) ?_|refine oo (Pj rfl (by omega) (by omega)) ?_|refine oo (Pk rfl (by omega) (by omega)) ?_|refine oo (Pf rfl) ?_|refine oo (Pv rfl (by omega) (by omega)) ?_|refine oo (Pn rfl) ?_|refine oo (Ph rfl) ?_|refine oo (Pg rfl (by omega) (by omega)) ?_|refine oo (Pe rfl (by omega) (by omega)) ?_|refine oo (Po rfl (by omega) (by omega)) ?_|refine oo (Pm rfl) ?_|refine os rfl rfl ?_|refine ot rfl (by first|omega|(simp only [wr_length];omega)) ?_|refine O_nil ?_)|refine wo rfl ?_|refine wc rfl ?_|refine wg rfl ?_|refine go rfl ?_|refine gc rfl ?_|refine gg rfl ?_)
  have hz1 : lmsF T e = lmsF T (T.length - 1) := (LSc.lms he.1).trans (LSc.lms (LIn.start (not_st_end hn0))).symm
  have hz2 : nxt T e = T.length - 1 := (nxt_congr hz1).trans (nxt_end T)
  refine W_loop (α := Nat × Int × List Int) (fun x => [(0, .slice (some ⟨bT, oT, none⟩) lT cT), (1, .slice (some ⟨bS, oS, none⟩) lS cS), (2, .int .i64 T.length), (3, .int .i64 m), (10, .int .i64 (nxt T x.1 : Nat)), (9, .int .i64 ((x.1 : Int) - 1)), (16, .int .i64 x.2.1)]) (fun x => ⟨own, bT, oT, ints .u8 (T.map Nat.cast)⟩ :: ⟨true, bS, oS, ints .i64 x.2.2⟩ :: F)
    (fun x => x.1 < T.length ∧ (0 < x.1 → x.2.1 = (ch T (x.1 - 1) : Nat) ∧ Sais.St T (x.1 - 1)) ∧ Lens T m x.1 L x.2.2) (fun x => x.1) (e, z, SA1) ⟨by have := he.1.1; dsimp only; omega, fun h => ⟨hz h, he.2 h⟩, hp.same hz1⟩ (by dsimp only; rw [hz2]; (repeat (first | exact trivial | refine ⟨rfl, ?_⟩))) .rfl ?_
  clear hz2 hz1 hz he hp e z SA1
  rintro ⟨f, z, SA1⟩ ⟨hf, hz, hp⟩
  dsimp only at hf hz hp ⊢
  have hpl := hp.len
  cases f with
  | succ g =>
    obtain ⟨hz1, hs⟩ := hz (by omega)
    rw [Nat.add_sub_cancel] at hz1 hs
    subst hz1
    rw [show (((g + 1 : Nat) : Int) - 1) = (g : Int) by omega]
    have c1 := hlt g
    repeat' (first|(refine isO ?_;first|refine oo (Pc rfl) ?_|refine oo (Pa rfl (by omega) (by omega)) ?_|(refine ob rfl ?_ ?_<;>intro hq<;>try (exfalso;omega))|refine oo (Pi rfl (by first|omega|(simp only [wr_length];omega))) ?_|refine oo (Pz rfl (by omega) (by omega)) ?_|refine oo (Pl rfl) ?_|refine oo (Px rfl rfl) ?_|refine oo (Pj rfl (by omega) (by omega)) ?_|refine oo (Pk rfl (by omega) (by omega)) ?_|refine oo (Pf rfl) ?_|refine oo (Pv rfl (by omega) (by omega)) ?_|refine oo (Pn rfl) ?_|refine oo (Ph rfl) ?_|refine oo (Pg rfl (by omega) (by omega)) ?_|refine oo (Pe rfl (by omega) (by omega)) ?_|refine oo (Po rfl (by omega) (by omega)) ?_|refine oo (Pm rfl) ?_|refine os rfl rfl ?_|refine ot rfl (by first|omega|(simp only [wr_length];omega)) ?_|refine O_nil ?_)|refine wo rfl ?_|refine wc rfl ?_|refine wg rfl ?_|refine go rfl ?_|refine gc rfl ?_|refine gg rfl ?_)
    refine W_join1 (fun E' M' => ∃ (e : Nat) (z : Int), SSc T (g) e ∧ (0 < e → z = (ch T (e - 1) : Nat)) ∧ Sub E' [(0, .slice (some ⟨bT, oT, none⟩) lT cT), (1, .slice (some ⟨bS, oS, none⟩) lS cS), (2, .int .i64 T.length), (3, .int .i64 m), (10, .int .i64 (nxt T (g + 1) : Nat)), (9, .int .i64 ((e : Int) - 1)), (16, .int .i64 z), (17, .int .i64 (ch T e : Nat))] ∧ Rk M' (⟨own, bT, oT, ints .u8 (T.map Nat.cast)⟩ :: ⟨true, bS, oS, ints .i64 SA1⟩ :: F)) ?_ ?_
    · refine W_loop (α := Nat) (fun r => [(0, .slice (some ⟨bT, oT, none⟩) lT cT), (1, .slice (some ⟨bS, oS, none⟩) lS cS), (2, .int .i64 T.length), (3, .int .i64 m), (10, .int .i64 (nxt T (g + 1) : Nat)), (9, .int .i64 r), (16, .int .i64 (ch T r : Nat))]) (fun _ => ⟨own, bT, oT, ints .u8 (T.map Nat.cast)⟩ :: ⟨true, bS, oS, ints .i64 SA1⟩ :: F) (fun r => SIn T (g) r) (fun r => r) (g) (.start hs) (by (repeat (first | exact trivial | refine ⟨rfl, ?_⟩))) .rfl ?_
      rintro r hr
      (try dsimp only at hr ⊢)
      have hr1 := hr.1
      have hr2 := hlt r
      cases r with
      | zero =>
        repeat' (first|(refine isO ?_;first|refine oo (Pc rfl) ?_|refine oo (Pa rfl (by omega) (by omega)) ?_|(refine ob rfl ?_ ?_<;>intro hq<;>try (exfalso;omega))|refine oo (Pi rfl (by first|omega|(simp only [wr_length];omega))) ?_|refine oo (Pz rfl (by omega) (by omega)) ?_|refine oo (Pl rfl) ?_|refine oo (Px rfl rfl) ?_|refine oo (Pj rfl (by omega) (by omega)) ?_|refine oo (Pk rfl (by omega) (by omega)) ?_|refine oo (Pf rfl) ?_|refine oo (Pv rfl (by omega) (by omega)) ?_|refine oo (Pn rfl) ?_|refine oo (Ph rfl) ?_|refine oo (Pg rfl (by omega) (by omega)) ?_|refine oo (Pe rfl (by omega) (by omega)) ?_|refine oo (Po rfl (by omega) (by omega)) ?_|refine oo (Pm rfl) ?_|refine os rfl rfl ?_|refine ot rfl (by first|omega|(simp only [wr_length];omega)) ?_|refine O_nil ?_)|refine wo rfl ?_|refine wc rfl ?_|refine wg rfl ?_|refine go rfl ?_|refine gc rfl ?_|refine gg rfl ?_)
        exact G_stop ⟨0, (ch T 0 : Nat), ⟨hr, fun h => absurd h (by decide)⟩, fun h => absurd h (by decide), by (repeat (first | exact trivial | refine ⟨rfl, ?_⟩)), .rfl⟩
      | succ u =>
        have e0 : (((u + 1 : Nat) : Int) - 1) = (u : Int) := by omega
        have e1 : rd (T.map Nat.cast) (((u + 1 : Nat) : Int) - 1) = (ch T u : Nat) := by rw [e0]; exact rd_ch T u
        have hr3 := hlt u
        by_cases hc : ch T (u + 1) < ch T u
        · repeat' (first|(refine isO ?_;first|refine oo (Pc rfl) ?_|refine oo (Pa rfl (by omega) (by omega)) ?_|(refine ob rfl ?_ ?_<;>intro hq<;>try (exfalso;omega))|refine oo (Pi rfl (by first|omega|(simp only [wr_length];omega))) ?_|refine oo (Pz rfl (by omega) (by omega)) ?_|refine oo (Pl rfl) ?_|refine oo (Px rfl rfl) ?_|refine oo (Pj rfl (by omega) (by omega)) ?_|refine oo (Pk rfl (by omega) (by omega)) ?_|refine oo (Pf rfl) ?_|refine oo (Pv rfl (by omega) (by omega)) ?_|refine oo (Pn rfl) ?_|refine oo (Ph rfl) ?_|refine oo (Pg rfl (by omega) (by omega)) ?_|refine oo (Pe rfl (by omega) (by omega)) ?_|refine oo (Po rfl (by omega) (by omega)) ?_|refine oo (Pm rfl) ?_|refine os rfl rfl ?_|refine ot rfl (by first|omega|(simp only [wr_length];omega)) ?_|refine O_nil ?_)|refine wo rfl ?_|refine wc rfl ?_|refine wg rfl ?_|refine go rfl ?_|refine gc rfl ?_|refine gg rfl ?_)
          exact G_stop ⟨u + 1, _, hr.stop (by omega) hc, fun _ => e1, by (repeat (first | exact trivial | refine ⟨rfl, ?_⟩)), .rfl⟩
        · repeat' (first|(refine isO ?_;first|refine oo (Pc rfl) ?_|refine oo (Pa rfl (by omega) (by omega)) ?_|(refine ob rfl ?_ ?_<;>intro hq<;>try (exfalso;omega))|refine oo (Pi rfl (by first|omega|(simp only [wr_length];omega))) ?_|refine oo (Pz rfl (by omega) (by omega)) ?_|refine oo (Pl rfl) ?_|refine oo (Px rfl rfl) ?_|refine oo (Pj rfl (by omega) (by omega)) ?_|refine oo (Pk rfl (by omega) (by omega)) ?_|refine oo (Pf rfl) ?_|refine oo (Pv rfl (by omega) (by omega)) ?_|refine oo (Pn rfl) ?_|refine oo (Ph rfl) ?_|refine oo (Pg rfl (by omega) (by omega)) ?_|refine oo (Pe rfl (by omega) (by omega)) ?_|refine oo (Po rfl (by omega) (by omega)) ?_|refine oo (Pm rfl) ?_|refine os rfl rfl ?_|refine ot rfl (by first|omega|(simp only [wr_length];omega)) ?_|refine O_nil ?_)|refine wo rfl ?_|refine wc rfl ?_|refine wg rfl ?_|refine go rfl ?_|refine gc rfl ?_|refine gg rfl ?_)
          rw [e1, e0]
          exact G_stop ⟨u, hr.on (by omega) hc, by (try dsimp only); omega, by (repeat (first | exact trivial | refine ⟨rfl, ?_⟩)), .rfl⟩
    rintro E' M' ⟨e, z, he, hz, hsub, hrk⟩
    refine G_code (W_weak hsub hrk ?_)
    clear hsub hrk E' M'
    have he1 := he.1.1
    cases e with
    | zero =>
      repeat' (first|(refine isO ?_;first|refine oo (Pc rfl) ?_|refine oo (Pa rfl (by omega) (by omega)) ?_|(refine ob rfl ?_ ?_<;>intro hq<;>try (exfalso;omega))|refine oo (Pi rfl (by first|omega|(simp only [wr_length];omega))) ?_|refine oo (Pz rfl (by omega) (by omega)) ?_|refine oo (Pl rfl) ?_|refine oo (Px rfl rfl) ?_|refine oo (Pj rfl (by omega) (by omega)) ?_|refine oo (Pk rfl (by omega) (by omega)) ?_|refine oo (Pf rfl) ?_|refine oo (Pv rfl (by omega) (by omega)) ?_|refine oo (Pn rfl) ?_|refine oo (Ph rfl) ?_|refine oo (Pg rfl (by omega) (by omega)) ?_|refine oo (Pe rfl (by omega) (by omega)) ?_|refine oo (Po rfl (by omega) (by omega)) ?_|refine oo (Pm rfl) ?_|refine os rfl rfl ?_|refine ot rfl (by first|omega|(simp only [wr_length];omega)) ?_|refine O_nil ?_)|refine wo rfl ?_|refine wc rfl ?_|refine wg rfl ?_|refine go rfl ?_|refine gc rfl ?_|refine gg rfl ?_)
      exact G_stop ⟨(0, z, SA1), ⟨by dsimp only; omega, fun h => by dsimp only at h; omega, hp.same he.none⟩, by dsimp only; omega, by dsimp only; rw [nxt_congr he.none]; (repeat (first | exact trivial | refine ⟨rfl, ?_⟩)), .rfl⟩
    | succ h =>
      obtain ⟨hl1, hl2⟩ := he.lms (by omega)
      have hz := hz (by omega)
      have hnl := he.2 (by omega)
      rw [Nat.add_sub_cancel] at hz hnl
      subst hz
      rw [show (((h + 1 : Nat) : Int) - 1) = (h : Int) by omega]
      have hl3 := lms_lt hl2
      have hl4 := plen_nxt (show h + 1 < T.length by omega) (lmsF_tail hl2 hl1)
      have hl5 := hp.step (x := (nxt T (g + 1) : Nat) - (h : Int)) h2m hl2 hl1 (by omega)
      have hl6 := nxt_le T (g + 1) hn0
      have e2 : (m : Int) + ((h : Int) + 1) / 2 = ((m + (h + 1) / 2 : Nat) : Int) := by omega
      have e3 : (h : Int) + 1 = ((h + 1 : Nat) : Int) := rfl
      have hl7 := hl5.1
      have c2 := hlt h
      repeat' (first|(refine isO ?_;first|refine oo (Pc rfl) ?_|refine oo (Pa rfl (by omega) (by omega)) ?_|(refine ob rfl ?_ ?_<;>intro hq<;>try (exfalso;omega))|refine oo (Pi rfl (by first|omega|(simp only [wr_length];omega))) ?_|refine oo (Pz rfl (by omega) (by omega)) ?_|refine oo (Pl rfl) ?_|refine oo (Px rfl rfl) ?_|refine oo (Pj rfl (by omega) (by omega)) ?_|refine oo (Pk rfl (by omega) (by omega)) ?_|refine oo (Pf rfl) ?_|refine oo (Pv rfl (by omega) (by omega)) ?_|refine oo (Pn rfl) ?_|refine oo (Ph rfl) ?_|refine oo (Pg rfl (by omega) (by omega)) ?_|refine oo (Pe rfl (by omega) (by omega)) ?_|refine oo (Po rfl (by omega) (by omega)) ?_|refine oo (Pm rfl) ?_|refine os rfl rfl ?_|refine ot rfl (by first|omega|(simp only [wr_length];omega)) ?_|refine O_nil ?_)|refine wo rfl ?_|refine wc rfl ?_|refine wg rfl ?_|refine go rfl ?_|refine gc rfl ?_|refine gg rfl ?_)
      rw [e2]
      refine W_join1 (fun E' M' => ∃ (e : Nat) (z : Int), LSc T (h) e ∧ (0 < e → z = (ch T (e - 1) : Nat)) ∧ Sub E' [(0, .slice (some ⟨bT, oT, none⟩) lT cT), (1, .slice (some ⟨bS, oS, none⟩) lS cS), (2, .int .i64 T.length), (3, .int .i64 m), (10, .int .i64 ((h : Int) + 1)), (9, .int .i64 ((e : Int) - 1)), (16, .int .i64 z), (17, .int .i64 (ch T e : Nat))] ∧ Rk M' (⟨own, bT, oT, ints .u8 (T.map Nat.cast)⟩ :: ⟨true, bS, oS, ints .i64 (wr SA1 ((m + (h + 1) / 2 : Nat) : Int) ((nxt T (g + 1) : Nat) - (h : Int)))⟩ :: F)) ?_ ?_
      · refine W_loop (α := Nat) (fun r => [(0, .slice (some ⟨bT, oT, none⟩) lT cT), (1, .slice (some ⟨bS, oS, none⟩) lS cS), (2, .int .i64 T.length), (3, .int .i64 m), (10, .int .i64 ((h : Int) + 1)), (9, .int .i64 r), (16, .int .i64 (ch T r : Nat))]) (fun _ => ⟨own, bT, oT, ints .u8 (T.map Nat.cast)⟩ :: ⟨true, bS, oS, ints .i64 (wr SA1 ((m + (h + 1) / 2 : Nat) : Int) ((nxt T (g + 1) : Nat) - (h : Int)))⟩ :: F) (fun r => LIn T (h) r) (fun r => r) (h) (.start hnl) (by (repeat (first | exact trivial | refine ⟨rfl, ?_⟩))) .rfl ?_
        rintro r hr
        (try dsimp only at hr ⊢)
        have hr1 := hr.1
        have hr2 := hlt r
        cases r with
        | zero =>
          repeat' (first|(refine isO ?_;first|refine oo (Pc rfl) ?_|refine oo (Pa rfl (by omega) (by omega)) ?_|(refine ob rfl ?_ ?_<;>intro hq<;>try (exfalso;omega))|refine oo (Pi rfl (by first|omega|(simp only [wr_length];omega))) ?_|refine oo (Pz rfl (by omega) (by omega)) ?_|refine oo (Pl rfl) ?_|refine oo (Px rfl rfl) ?_|refine oo (Pj rfl (by omega) (by omega)) ?_|refine oo (Pk rfl (by omega) (by omega)) ?_|refine oo (Pf rfl) ?_|refine oo (Pv rfl (by omega) (by omega)) ?_|refine oo (Pn rfl) ?_|refine oo (Ph rfl) ?_|refine oo (Pg rfl (by omega) (by omega)) ?_|refine oo (Pe rfl (by omega) (by omega)) ?_|refine oo (Po rfl (by omega) (by omega)) ?_|refine oo (Pm rfl) ?_|refine os rfl rfl ?_|refine ot rfl (by first|omega|(simp only [wr_length];omega)) ?_|refine O_nil ?_)|refine wo rfl ?_|refine wc rfl ?_|refine wg rfl ?_|refine go rfl ?_|refine gc rfl ?_|refine gg rfl ?_)
          exact G_stop ⟨0, (ch T 0 : Nat), ⟨hr, fun h => absurd h (by decide)⟩, fun h => absurd h (by decide), by (repeat (first | exact trivial | refine ⟨rfl, ?_⟩)), .rfl⟩
        | succ u =>
          have e0 : (((u + 1 : Nat) : Int) - 1) = (u : Int) := by omega
          have e1 : rd (T.map Nat.cast) (((u + 1 : Nat) : Int) - 1) = (ch T u : Nat) := by rw [e0]; exact rd_ch T u
          have hr3 := hlt u
          by_cases hc : ch T u < ch T (u + 1)
          · repeat' (first|(refine isO ?_;first|refine oo (Pc rfl) ?_|refine oo (Pa rfl (by omega) (by omega)) ?_|(refine ob rfl ?_ ?_<;>intro hq<;>try (exfalso;omega))|refine oo (Pi rfl (by first|omega|(simp only [wr_length];omega))) ?_|refine oo (Pz rfl (by omega) (by omega)) ?_|refine oo (Pl rfl) ?_|refine oo (Px rfl rfl) ?_|refine oo (Pj rfl (by omega) (by omega)) ?_|refine oo (Pk rfl (by omega) (by omega)) ?_|refine oo (Pf rfl) ?_|refine oo (Pv rfl (by omega) (by omega)) ?_|refine oo (Pn rfl) ?_|refine oo (Ph rfl) ?_|refine oo (Pg rfl (by omega) (by omega)) ?_|refine oo (Pe rfl (by omega) (by omega)) ?_|refine oo (Po rfl (by omega) (by omega)) ?_|refine oo (Pm rfl) ?_|refine os rfl rfl ?_|refine ot rfl (by first|omega|(simp only [wr_length];omega)) ?_|refine O_nil ?_)|refine wo rfl ?_|refine wc rfl ?_|refine wg rfl ?_|refine go rfl ?_|refine gc rfl ?_|refine gg rfl ?_)
            exact G_stop ⟨u + 1, _, hr.stop (by omega) hc, fun _ => e1, by (repeat (first | exact trivial | refine ⟨rfl, ?_⟩)), .rfl⟩
          · repeat' (first|(refine isO ?_;first|refine oo (Pc rfl) ?_|refine oo (Pa rfl (by omega) (by omega)) ?_|(refine ob rfl ?_ ?_<;>intro hq<;>try (exfalso;omega))|refine oo (Pi rfl (by first|omega|(simp only [wr_length];omega))) ?_|refine oo (Pz rfl (by omega) (by omega)) ?_|refine oo (Pl rfl) ?_|refine oo (Px rfl rfl) ?_|refine oo (Pj rfl (by omega) (by omega)) ?_|refine oo (Pk rfl (by omega) (by omega)) ?_|refine oo (Pf rfl) ?_|refine oo (Pv rfl (by omega) (by omega)) ?_|refine oo (Pn rfl) ?_|refine oo (Ph rfl) ?_|refine oo (Pg rfl (by omega) (by omega)) ?_|refine oo (Pe rfl (by omega) (by omega)) ?_|refine oo (Po rfl (by omega) (by omega)) ?_|refine oo (Pm rfl) ?_|refine os rfl rfl ?_|refine ot rfl (by first|omega|(simp only [wr_length];omega)) ?_|refine O_nil ?_)|refine wo rfl ?_|refine wc rfl ?_|refine wg rfl ?_|refine go rfl ?_|refine gc rfl ?_|refine gg rfl ?_)
            rw [e1, e0]
            exact G_stop ⟨u, hr.on (by omega) hc, by (try dsimp only); omega, by (repeat (first | exact trivial | refine ⟨rfl, ?_⟩)), .rfl⟩
      rintro E' M' ⟨e, z, he', hz, hsub, hrk⟩
      have he2 := he'.1.1
      have hz1 : lmsF T e = lmsF T (h + 1) := LSc.lms he'.1
      have hz2 : nxt T e = h + 1 := (nxt_congr hz1).trans (nxt_head hl1)
      exact G_blk (G_stop ⟨(e, z, _), ⟨by dsimp only; omega, fun h => ⟨hz h, he'.2 h⟩, hl5.2.same hz1⟩, by dsimp only; omega, hsub.trans (by dsimp only; rw [hz2]; (repeat (first | exact trivial | refine ⟨rfl, ?_⟩))), hrk⟩)
  | zero =>
    have hN : Nms T L.length 0 L SA1 := by
      refine Lens.nms hS ?_
      rw [hLm]
      exact hp
    clear hp hpl hz
    rw [hLm] at hN
    repeat' (first|(refine isO ?_;first|refine oo (Pc rfl) ?_|refine oo (Pa rfl (by omega) (by omega)) ?_|(refine ob rfl ?_ ?_<;>intro hq<;>try (exfalso;omega))|refine oo (Pi rfl (by first|omega|(simp only [wr_length];omega))) ?_|refine oo (Pz rfl (by omega) (by omega)) ?_|refine oo (Pl rfl) ?_|refine oo (Px rfl rfl) ?_|refine oo (Pj rfl (by omega) (by omega)) ?_|refine oo (Pk rfl (by omega) (by omega)) ?_|refine oo (Pf rfl) ?_|refine oo (Pv rfl (by omega) (by omega)) ?_|refine oo (Pn rfl) ?_|refine oo (Ph rfl) ?_|refine oo (Pg rfl (by omega) (by omega)) ?_|refine oo (Pe rfl (by omega) (by omega)) ?_|refine oo (Po rfl (by omega) (by omega)) ?_|refine oo (Pm rfl) ?_|refine os rfl rfl ?_|refine ot rfl (by first|omega|(simp only [wr_length];omega)) ?_|refine O_nil ?_)|refine wo rfl ?_|refine wc rfl ?_|refine wg rfl ?_|refine go rfl ?_|refine gc rfl ?_|refine gg rfl ?_)
    refine W_loop (α := Nat × Nat × Nat × Nat × List Int) (fun x => [(0, .slice (some ⟨bT, oT, none⟩) lT cT), (1, .slice (some ⟨bS, oS, none⟩) lS cS), (2, .int .i64 T.length), (3, .int .i64 m), (9, .int .i64 x.1), (12, .int .i64 x.2.1), (14, .int .i64 x.2.2.1), (15, .int .i64 x.2.2.2.1)]) (fun x => ⟨own, bT, oT, ints .u8 (T.map Nat.cast)⟩ :: ⟨true, bS, oS, ints .i64 x.2.2.2.2⟩ :: F)
      (fun x => x.1 ≤ m ∧ Nms T m x.1 L x.2.2.2.2 ∧ Lead T L x.1 x.2.1 x.2.2.1 x.2.2.2.1) (fun x => m - x.1) (0, T.length, 0, 0, SA1) ⟨by dsimp only; omega, hN, .inl ⟨rfl, rfl, rfl, rfl⟩⟩ (by (repeat (first | exact trivial | refine ⟨rfl, ?_⟩))) .rfl ?_
    clear hN SA1
    rintro ⟨i, q, ql, name, SA1⟩ ⟨hi, hN, hd⟩
    dsimp only at hi hN hd ⊢
    have hNl := hN.len
    obtain ⟨hd1, hd2, hd3⟩ := hd.le hS (by omega)
    by_cases him : i < m
    · have hp1 := hN.fst i (by omega)
      have hst := hd.step hS (by omega)
      have hN' : Nms T L.length i L SA1 := by rw [hLm]; exact hN
      have hw := fun x => hN'.step hS (by omega) (x := x) (show i < L.length by omega)
      have hpl := plen_le (hS.lms (show i < L.length by omega))
      have ho := hN.old i (Nat.le_refl _) (by omega)
      rw [hLm] at hw
      generalize ch L i = p at *
      have e3 : (m : Int) + rd SA1 i / 2 = ((m + p / 2 : Nat) : Int) := by rw [hp1]; omega
      have e4 : (m : Int) + (p : Int) / 2 = ((m + p / 2 : Nat) : Int) := by omega
      have e2 : rd SA1 ((m : Int) + rd SA1 i / 2) = (plen T p : Nat) := by rw [e3]; exact ho
      have hmp : m + p / 2 < T.length := by omega
      have hle : nmAt T L i ≤ i + 1 := nmAt_le T L i
      by_cases hcond : plen T p = ql ∧ q + plen T p < T.length
      · obtain ⟨hc1, hc2⟩ := hcond
        repeat' (first|(refine isO ?_;first|refine oo (Pc rfl) ?_|refine oo (Pa rfl (by omega) (by omega)) ?_|(refine ob rfl ?_ ?_<;>intro hq<;>try (exfalso;omega))|refine oo (Pi rfl (by first|omega|(simp only [wr_length];omega))) ?_|refine oo (Pz rfl (by omega) (by omega)) ?_|refine oo (Pl rfl) ?_|refine oo (Px rfl rfl) ?_|refine oo (Pj rfl (by omega) (by omega)) ?_|refine oo (Pk rfl (by omega) (by omega)) ?_|refine oo (Pf rfl) ?_|refine oo (Pv rfl (by omega) (by omega)) ?_|refine oo (Pn rfl) ?_|refine oo (Ph rfl) ?_|refine oo (Pg rfl (by omega) (by omega)) ?_|refine oo (Pe rfl (by omega) (by omega)) ?_|refine oo (Po rfl (by omega) (by omega)) ?_|refine oo (Pm rfl) ?_|refine os rfl rfl ?_|refine ot rfl (by first|omega|(simp only [wr_length];omega)) ?_|refine O_nil ?_)|refine wo rfl ?_|refine wc rfl ?_|refine wg rfl ?_|refine go rfl ?_|refine gc rfl ?_|refine gg rfl ?_)
        rw [e2, hp1]
        refine W_loop (α := Nat) (fun j => [(0, .slice (some ⟨bT, oT, none⟩) lT cT), (1, .slice (some ⟨bS, oS, none⟩) lS cS), (2, .int .i64 T.length), (3, .int .i64 m), (9, .int .i64 i), (10, .int .i64 j), (11, .int .i64 p), (12, .int .i64 q), (13, .int .i64 (plen T p : Nat)), (14, .int .i64 ql), (15, .int .i64 name), (18, .bool true)]) (fun _ => ⟨own, bT, oT, ints .u8 (T.map Nat.cast)⟩ :: ⟨true, bS, oS, ints .i64 SA1⟩ :: F)
          (fun j => j ≤ plen T p ∧ ∀ a, a < j → ch T (p + a) = ch T (q + a)) (fun j => plen T p - j) 0 ⟨by omega, fun a ha => by omega⟩ (by (repeat (first | exact trivial | refine ⟨rfl, ?_⟩))) .rfl ?_
        rintro j ⟨hj, hja⟩
        have hp2 := rd_ch T (p + j)
        have hq2 := rd_ch T (q + j)
        have c1 := hlt (p + j)
        have c2 := hlt (q + j)
        have e5 : (p : Int) + (j : Int) = ((p + j : Nat) : Int) := rfl
        have e6 : (q : Int) + (j : Int) = ((q + j : Nat) : Int) := rfl
        rw [← e5] at hp2
        rw [← e6] at hq2
        by_cases hjl : j < plen T p
        · by_cases hjc : ch T (p + j) = ch T (q + j)
          · repeat' (first|(refine isO ?_;first|refine oo (Pc rfl) ?_|refine oo (Pa rfl (by omega) (by omega)) ?_|(refine ob rfl ?_ ?_<;>intro hq<;>try (exfalso;omega))|refine oo (Pi rfl (by first|omega|(simp only [wr_length];omega))) ?_|refine oo (Pz rfl (by omega) (by omega)) ?_|refine oo (Pl rfl) ?_|refine oo (Px rfl rfl) ?_|refine oo (Pj rfl (by omega) (by omega)) ?_|refine oo (Pk rfl (by omega) (by omega)) ?_|refine oo (Pf rfl) ?_|refine oo (Pv rfl (by omega) (by omega)) ?_|refine oo (Pn rfl) ?_|refine oo (Ph rfl) ?_|refine oo (Pg rfl (by omega) (by omega)) ?_|refine oo (Pe rfl (by omega) (by omega)) ?_|refine oo (Po rfl (by omega) (by omega)) ?_|refine oo (Pm rfl) ?_|refine os rfl rfl ?_|refine ot rfl (by first|omega|(simp only [wr_length];omega)) ?_|refine O_nil ?_)|refine wo rfl ?_|refine wc rfl ?_|refine wg rfl ?_|refine go rfl ?_|refine gc rfl ?_|refine gg rfl ?_)
            refine W_region_still Tb.mixed (by kernel_rfl) ?_
            repeat' (first | (refine isS ?_; first | refine ss (Pc rfl) ?_ | refine ss (Pa rfl (by omega) (by omega)) ?_ | (refine sb rfl ?_ ?_ <;> intro hq <;> try (exfalso; omega)) | refine ss (Pi rfl (by first | omega | (simp only [wr_length]; omega))) ?_ | refine ss (Pz rfl (by omega) (by omega)) ?_ | refine ss (Pl rfl) ?_ | refine ss (Px rfl rfl) ?_ | refine ss (Pj rfl (by omega) (by omega)) ?_ | refine ss (Pk rfl (by omega) (by omega)) ?_ | refine ss (Pf rfl) ?_ | refine ss (Pv rfl (by omega) (by omega)) ?_ | refine ss (Pn rfl) ?_ | refine ss (Ph rfl) ?_ | refine ss (Pg rfl (by omega) (by omega)) ?_ | refine ss (Pe rfl (by omega) (by omega)) ?_ | refine ss (Po rfl (by omega) (by omega)) ?_ | refine ss (Pm rfl) ?_ | refine OS_nil ?_))
            repeat' (first|(refine isO ?_;first|refine oo (Pc rfl) ?_|refine oo (Pa rfl (by omega) (by omega)) ?_|(refine ob rfl ?_ ?_<;>intro hq<;>try (exfalso;omega))|refine oo (Pi rfl (by first|omega|(simp only [wr_length];omega))) ?_|refine oo (Pz rfl (by omega) (by omega)) ?_|refine oo (Pl rfl) ?_|refine oo (Px rfl rfl) ?_|refine oo (Pj rfl (by omega) (by omega)) ?_|refine oo (Pk rfl (by omega) (by omega)) ?_|refine oo (Pf rfl) ?_|refine oo (Pv rfl (by omega) (by omega)) ?_|refine oo (Pn rfl) ?_|refine oo (Ph rfl) ?_|refine oo (Pg rfl (by omega) (by omega)) ?_|refine oo (Pe rfl (by omega) (by omega)) ?_|refine oo (Po rfl (by omega) (by omega)) ?_|refine oo (Pm rfl) ?_|refine os rfl rfl ?_|refine ot rfl (by first|omega|(simp only [wr_length];omega)) ?_|refine O_nil ?_)|refine wo rfl ?_|refine wc rfl ?_|refine wg rfl ?_|refine go rfl ?_|refine gc rfl ?_|refine gg rfl ?_)
            exact G_stop ⟨j + 1, ⟨by omega, fun a ha => by
              by_cases e : a = j
              · rw [e]; exact hjc
              · exact hja a (by omega)⟩, by omega, by (repeat (first | exact trivial | refine ⟨rfl, ?_⟩)), .rfl⟩
          · have hst2 := hst.2 fun h => hjc (h.2.2 j hjl)
            repeat' (first|(refine isO ?_;first|refine oo (Pc rfl) ?_|refine oo (Pa rfl (by omega) (by omega)) ?_|(refine ob rfl ?_ ?_<;>intro hq<;>try (exfalso;omega))|refine oo (Pi rfl (by first|omega|(simp only [wr_length];omega))) ?_|refine oo (Pz rfl (by omega) (by omega)) ?_|refine oo (Pl rfl) ?_|refine oo (Px rfl rfl) ?_|refine oo (Pj rfl (by omega) (by omega)) ?_|refine oo (Pk rfl (by omega) (by omega)) ?_|refine oo (Pf rfl) ?_|refine oo (Pv rfl (by omega) (by omega)) ?_|refine oo (Pn rfl) ?_|refine oo (Ph rfl) ?_|refine oo (Pg rfl (by omega) (by omega)) ?_|refine oo (Pe rfl (by omega) (by omega)) ?_|refine oo (Po rfl (by omega) (by omega)) ?_|refine oo (Pm rfl) ?_|refine os rfl rfl ?_|refine ot rfl (by first|omega|(simp only [wr_length];omega)) ?_|refine O_nil ?_)|refine wo rfl ?_|refine wc rfl ?_|refine wg rfl ?_|refine go rfl ?_|refine gc rfl ?_|refine gg rfl ?_)
            refine W_region_still Tb.mixed (by kernel_rfl) ?_
            repeat' (first | (refine isS ?_; first | refine ss (Pc rfl) ?_ | refine ss (Pa rfl (by omega) (by omega)) ?_ | (refine sb rfl ?_ ?_ <;> intro hq <;> try (exfalso; omega)) | refine ss (Pi rfl (by first | omega | (simp only [wr_length]; omega))) ?_ | refine ss (Pz rfl (by omega) (by omega)) ?_ | refine ss (Pl rfl) ?_ | refine ss (Px rfl rfl) ?_ | refine ss (Pj rfl (by omega) (by omega)) ?_ | refine ss (Pk rfl (by omega) (by omega)) ?_ | refine ss (Pf rfl) ?_ | refine ss (Pv rfl (by omega) (by omega)) ?_ | refine ss (Pn rfl) ?_ | refine ss (Ph rfl) ?_ | refine ss (Pg rfl (by omega) (by omega)) ?_ | refine ss (Pe rfl (by omega) (by omega)) ?_ | refine ss (Po rfl (by omega) (by omega)) ?_ | refine ss (Pm rfl) ?_ | refine OS_nil ?_))
            repeat' (first|(refine isO ?_;first|refine oo (Pc rfl) ?_|refine oo (Pa rfl (by omega) (by omega)) ?_|(refine ob rfl ?_ ?_<;>intro hq<;>try (exfalso;omega))|refine oo (Pi rfl (by first|omega|(simp only [wr_length];omega))) ?_|refine oo (Pz rfl (by omega) (by omega)) ?_|refine oo (Pl rfl) ?_|refine oo (Px rfl rfl) ?_|refine oo (Pj rfl (by omega) (by omega)) ?_|refine oo (Pk rfl (by omega) (by omega)) ?_|refine oo (Pf rfl) ?_|refine oo (Pv rfl (by omega) (by omega)) ?_|refine oo (Pn rfl) ?_|refine oo (Ph rfl) ?_|refine oo (Pg rfl (by omega) (by omega)) ?_|refine oo (Pe rfl (by omega) (by omega)) ?_|refine oo (Po rfl (by omega) (by omega)) ?_|refine oo (Pm rfl) ?_|refine os rfl rfl ?_|refine ot rfl (by first|omega|(simp only [wr_length];omega)) ?_|refine O_nil ?_)|refine wo rfl ?_|refine wc rfl ?_|refine wg rfl ?_|refine go rfl ?_|refine gc rfl ?_|refine gg rfl ?_)
            rw [e4]
            exact G_stop ⟨(i + 1, p, plen T p, name + 1, _), ⟨by dsimp only; omega, (hw ((name : Int) + 1) (by omega)).2, hst2.2⟩, by dsimp only; omega, by (repeat (first | exact trivial | refine ⟨rfl, ?_⟩)), .rfl⟩
        · obtain rfl : j = plen T p := by omega
          have hst1 := hst.1 ⟨hc1, hc2, hja⟩
          repeat' (first|(refine isO ?_;first|refine oo (Pc rfl) ?_|refine oo (Pa rfl (by omega) (by omega)) ?_|(refine ob rfl ?_ ?_<;>intro hq<;>try (exfalso;omega))|refine oo (Pi rfl (by first|omega|(simp only [wr_length];omega))) ?_|refine oo (Pz rfl (by omega) (by omega)) ?_|refine oo (Pl rfl) ?_|refine oo (Px rfl rfl) ?_|refine oo (Pj rfl (by omega) (by omega)) ?_|refine oo (Pk rfl (by omega) (by omega)) ?_|refine oo (Pf rfl) ?_|refine oo (Pv rfl (by omega) (by omega)) ?_|refine oo (Pn rfl) ?_|refine oo (Ph rfl) ?_|refine oo (Pg rfl (by omega) (by omega)) ?_|refine oo (Pe rfl (by omega) (by omega)) ?_|refine oo (Po rfl (by omega) (by omega)) ?_|refine oo (Pm rfl) ?_|refine os rfl rfl ?_|refine ot rfl (by first|omega|(simp only [wr_length];omega)) ?_|refine O_nil ?_)|refine wo rfl ?_|refine wc rfl ?_|refine wg rfl ?_|refine go rfl ?_|refine gc rfl ?_|refine gg rfl ?_)
          refine W_region_still Tb.mixed (by kernel_rfl) ?_
          repeat' (first | (refine isS ?_; first | refine ss (Pc rfl) ?_ | refine ss (Pa rfl (by omega) (by omega)) ?_ | (refine sb rfl ?_ ?_ <;> intro hq <;> try (exfalso; omega)) | refine ss (Pi rfl (by first | omega | (simp only [wr_length]; omega))) ?_ | refine ss (Pz rfl (by omega) (by omega)) ?_ | refine ss (Pl rfl) ?_ | refine ss (Px rfl rfl) ?_ | refine ss (Pj rfl (by omega) (by omega)) ?_ | refine ss (Pk rfl (by omega) (by omega)) ?_ | refine ss (Pf rfl) ?_ | refine ss (Pv rfl (by omega) (by omega)) ?_ | refine ss (Pn rfl) ?_ | refine ss (Ph rfl) ?_ | refine ss (Pg rfl (by omega) (by omega)) ?_ | refine ss (Pe rfl (by omega) (by omega)) ?_ | refine ss (Po rfl (by omega) (by omega)) ?_ | refine ss (Pm rfl) ?_ | refine OS_nil ?_))
          repeat' (first|(refine isO ?_;first|refine oo (Pc rfl) ?_|refine oo (Pa rfl (by omega) (by omega)) ?_|(refine ob rfl ?_ ?_<;>intro hq<;>try (exfalso;omega))|refine oo (Pi rfl (by first|omega|(simp only [wr_length];omega))) ?_|refine oo (Pz rfl (by omega) (by omega)) ?_|refine oo (Pl rfl) ?_|refine oo (Px rfl rfl) ?_|refine oo (Pj rfl (by omega) (by omega)) ?_|refine oo (Pk rfl (by omega) (by omega)) ?_|refine oo (Pf rfl) ?_|refine oo (Pv rfl (by omega) (by omega)) ?_|refine oo (Pn rfl) ?_|refine oo (Ph rfl) ?_|refine oo (Pg rfl (by omega) (by omega)) ?_|refine oo (Pe rfl (by omega) (by omega)) ?_|refine oo (Po rfl (by omega) (by omega)) ?_|refine oo (Pm rfl) ?_|refine os rfl rfl ?_|refine ot rfl (by first|omega|(simp only [wr_length];omega)) ?_|refine O_nil ?_)|refine wo rfl ?_|refine wc rfl ?_|refine wg rfl ?_|refine go rfl ?_|refine gc rfl ?_|refine gg rfl ?_)
          rw [e4]
          exact G_stop ⟨(i + 1, q, ql, name, _), ⟨by dsimp only; omega, (hw (name : Int) (by omega)).2, hst1.2⟩, by dsimp only; omega, by (repeat (first | exact trivial | refine ⟨rfl, ?_⟩)), .rfl⟩
      · have hst2 := hst.2 fun h => hcond ⟨h.1, h.2.1⟩
        have hcond2 : plen T p ≠ ql ∨ T.length ≤ q + plen T p := by omega
        repeat' (first|(refine isO ?_;first|refine oo (Pc rfl) ?_|refine oo (Pa rfl (by omega) (by omega)) ?_|(refine ob rfl ?_ ?_<;>intro hq<;>try (exfalso;omega))|refine oo (Pi rfl (by first|omega|(simp only [wr_length];omega))) ?_|refine oo (Pz rfl (by omega) (by omega)) ?_|refine oo (Pl rfl) ?_|refine oo (Px rfl rfl) ?_|refine oo (Pj rfl (by omega) (by omega)) ?_|refine oo (Pk rfl (by omega) (by omega)) ?_|refine oo (Pf rfl) ?_|refine oo (Pv rfl (by omega) (by omega)) ?_|refine oo (Pn rfl) ?_|refine oo (Ph rfl) ?_|refine oo (Pg rfl (by omega) (by omega)) ?_|refine oo (Pe rfl (by omega) (by omega)) ?_|refine oo (Po rfl (by omega) (by omega)) ?_|refine oo (Pm rfl) ?_|refine os rfl rfl ?_|refine ot rfl (by first|omega|(simp only [wr_length];omega)) ?_|refine O_nil ?_)|refine wo rfl ?_|refine wc rfl ?_|refine wg rfl ?_|refine go rfl ?_|refine gc rfl ?_|refine gg rfl ?_)
        all_goals
          rw [e2, e3, hp1]
          exact G_stop ⟨(i + 1, p, plen T p, name + 1, _), ⟨by dsimp only; omega, (hw ((name : Int) + 1) (by omega)).2, hst2.2⟩, by dsimp only; omega, by (repeat (first | exact trivial | refine ⟨rfl, ?_⟩)), .rfl⟩
    · have him : i = m := by omega
      repeat' (first|(refine isO ?_;first|refine oo (Pc rfl) ?_|refine oo (Pa rfl (by omega) (by omega)) ?_|(refine ob rfl ?_ ?_<;>intro hq<;>try (exfalso;omega))|refine oo (Pi rfl (by first|omega|(simp only [wr_length];omega))) ?_|refine oo (Pz rfl (by omega) (by omega)) ?_|refine oo (Pl rfl) ?_|refine oo (Px rfl rfl) ?_|refine oo (Pj rfl (by omega) (by omega)) ?_|refine oo (Pk rfl (by omega) (by omega)) ?_|refine oo (Pf rfl) ?_|refine oo (Pv rfl (by omega) (by omega)) ?_|refine oo (Pn rfl) ?_|refine oo (Ph rfl) ?_|refine oo (Pg rfl (by omega) (by omega)) ?_|refine oo (Pe rfl (by omega) (by omega)) ?_|refine oo (Po rfl (by omega) (by omega)) ?_|refine oo (Pm rfl) ?_|refine os rfl rfl ?_|refine ot rfl (by first|omega|(simp only [wr_length];omega)) ?_|refine O_nil ?_)|refine wo rfl ?_|refine wc rfl ?_|refine wg rfl ?_|refine go rfl ?_|refine gc rfl ?_|refine gg rfl ?_)
      subst him
      rcases hd with ⟨h1, _⟩ | ⟨r, _, _, _, _, hnm⟩
      · omega
      · exact G_fin ⟨_, rfl, SA1, name, rfl, ⟨L, hS, hLm, hNl, fun _ => hN.fst, hnm, fun _ => ⟨fun a ha => hN.new a ha ha, hN.rst⟩⟩, rfl⟩
end Go.Proofs.Ytcibehgcibojnaa.Saib
