/- computeSA, its last part: the sorted LMS places are put, and all is induced from them. Conditions: as the parts ahead of it leave them. -/
import Derived.Test.YtcibehgcibojnaaW4x22
import Derived.Test.YtcibehgcibojnaaW4x10
import Derived.Test.YtcibehgcibojnaaW4x11

namespace Go.Proofs.Ytcibehgcibojnaa.Saii
open Go Go.RowKit Go.Proofs.Ytcibehgcibojnaa.Vm Go.Proofs.Ytcibehgcibojnaa.Sais
set_option maxHeartbeats 8000000 in
theorem partE (T : List Nat) (k : Nat) (hT : Txt T k) (fs : Nat) (fl : Int) (hfl8 : bitop .and .u64 fl 8 = some 0) (SA C B : List Int) (m : Nat)
    (hmN : m ≤ T.length) (hcase : (2 ≤ m ∧ ∃ L, SrtS T L ∧ L.length = m ∧ SA.length = T.length ∧ ∀ a, a < m → rd SA (a : Int) = (ch L a : Nat)) ∨ (m ≤ 1 ∧ ∃ G, Seeds T G ∧ Cel0 T E3L G SA)) (hC : Cnt T T.length k C) (hB : B.length = k)
    (own : Bool) (bT oT lT cT bS oS lS cS bB oB lB cB bC : Nat) (F : Mem) (hlT : T.length ≤ lT) (hlS : T.length ≤ lS) (hlB : k ≤ lB) (hne : bC ≠ bB) (R : Value → Mem → Prop)
    (hR : ∀ SA' B' : List Int, SufA T SA' → SA'.length = T.length → B'.length = k → ∃ Mf, Rs (⟨own, bT, oT, ints .i64 (T.map Nat.cast)⟩ :: ⟨true, bS, oS, ints .i64 SA'⟩ :: ⟨true, bC, 0, ints .i64 C⟩ :: ⟨true, bB, oB, ints .i64 B'⟩ :: F) Mf ∧ R (.tuple #[]) Mf) :
    W false Try.prog ⟨Try.f19.ntmps, []⟩ (Vm.Ends Try.f19.results.toList R) (tl 19 (bodyOf Try.f19)) [] [(0, .slice (some ⟨bT, oT, none⟩) lT cT), (1, .slice (some ⟨bS, oS, none⟩) lS cS), (2, .int .i64 (fs : Nat)), (3, .int .i64 T.length), (4, .int .i64 k), (10, .slice (some ⟨bC, 0, none⟩) k k), (11, .slice (some ⟨bB, oB, none⟩) lB cB), (18, .int .i64 m), (25, .int .u64 fl)] (⟨own, bT, oT, ints .i64 (T.map Nat.cast)⟩ :: ⟨true, bS, oS, ints .i64 SA⟩ :: ⟨true, bC, 0, ints .i64 C⟩ :: ⟨true, bB, oB, ints .i64 B⟩ :: F) := by
  have hn0 := hT.n0
  have hn1 := hT.n1
  have hk1 := hT.k1
  have hlt := hT.lt
  have hk0 := hT.k0
  have hlen : (T.map (Nat.cast : Nat → Int)).length = T.length := List.length_map _
  have hSl : SA.length = T.length := by
    rcases hcase with ⟨_, _, _, _, h, _⟩ | ⟨_, _, _, h⟩
    · exact h
    · exact h.1
  have hstop : Stop [137] := ⟨⟩
  repeat' (first|(refine isO ?_;first|refine oo (Pc rfl) ?_|refine oo (Pa rfl (by omega) (by omega)) ?_|(refine ob rfl ?_ ?_<;>intro hq<;>try (exfalso;omega))|refine oo (Pi rfl (by first|omega|(simp only [wr_length];omega))) ?_|refine oo (Pz rfl (by omega) (by omega)) ?_|refine oo (Pl rfl) ?_|refine oo (Px rfl rfl) ?_|refine oo (Pj rfl (by omega) (by omega)) ?_|refine oo (Pk rfl (by omega) (by omega)) ?_|refine oo (Pf rfl) ?_|refine oo (Pv rfl (by omega) (by omega)) ?_|refine oo (Pn rfl) ?_|refine oo (Ph rfl) ?_|refine oo (Pg rfl (by omega) (by omega)) ?_|refine oo (Pe rfl (by omega) (by omega)) ?_|refine oo (Po rfl (by omega) (by omega)) ?_|refine oo (Pm rfl) ?_|refine os rfl rfl ?_|refine ot rfl (by first|omega|(simp only [wr_length];omega)) ?_|refine O_nil ?_)|refine wu hstop rfl rfl ?_|refine gu hstop rfl rfl ?_|refine wc rfl ?_|refine wg rfl ?_|refine gc rfl ?_|refine gg rfl ?_)
  refine oo (Pfl rfl hfl8) ?_
  repeat' (first|(refine isO ?_;first|refine oo (Pc rfl) ?_|refine oo (Pa rfl (by omega) (by omega)) ?_|(refine ob rfl ?_ ?_<;>intro hq<;>try (exfalso;omega))|refine oo (Pi rfl (by first|omega|(simp only [wr_length];omega))) ?_|refine oo (Pz rfl (by omega) (by omega)) ?_|refine oo (Pl rfl) ?_|refine oo (Px rfl rfl) ?_|refine oo (Pj rfl (by omega) (by omega)) ?_|refine oo (Pk rfl (by omega) (by omega)) ?_|refine oo (Pf rfl) ?_|refine oo (Pv rfl (by omega) (by omega)) ?_|refine oo (Pn rfl) ?_|refine oo (Ph rfl) ?_|refine oo (Pg rfl (by omega) (by omega)) ?_|refine oo (Pe rfl (by omega) (by omega)) ?_|refine oo (Po rfl (by omega) (by omega)) ?_|refine oo (Pm rfl) ?_|refine os rfl rfl ?_|refine ot rfl (by first|omega|(simp only [wr_length];omega)) ?_|refine O_nil ?_)|refine wu hstop rfl rfl ?_|refine gu hstop rfl rfl ?_|refine wc rfl ?_|refine wg rfl ?_|refine gc rfl ?_|refine gg rfl ?_)
  clear hstop
  refine W_join1 (fun E' M' => ∃ SA B, (∃ G, Seeds T G ∧ Cel0 T E3L G SA) ∧ B.length = k ∧ Sub E' [(0, .slice (some ⟨bT, oT, none⟩) lT cT), (1, .slice (some ⟨bS, oS, none⟩) lS cS), (2, .int .i64 (fs : Nat)), (3, .int .i64 T.length), (4, .int .i64 k), (10, .slice (some ⟨bC, 0, none⟩) k k), (11, .slice (some ⟨bB, oB, none⟩) lB cB)] ∧ Rk M' (⟨own, bT, oT, ints .i64 (T.map Nat.cast)⟩ :: ⟨true, bS, oS, ints .i64 SA⟩ :: ⟨true, bC, 0, ints .i64 C⟩ :: ⟨true, bB, oB, ints .i64 B⟩ :: F)) ?_ ?_
  · by_cases hm2 : 1 < m
    · have hcase := hcase.resolve_right fun h => by omega
      obtain ⟨_, L, hS, hLm, hl, hL⟩ := hcase
      subst hLm
      have hP := Pls.start hS hl hL
      have hmn : L.length ≤ T.length := by rw [hS.len]; have := lmsF_le T _ 0 (Nat.le_refl _); omega
      have h1 := hL (L.length - 1) (by omega)
      have e0 : (L.length : Int) - 1 = ((L.length - 1 : Nat) : Int) := by omega
      have h2 := lms_lt (hS.lms (show L.length - 1 < L.length by omega))
      have e1 : rd SA ((L.length : Int) - 1) = (ch L (L.length - 1) : Nat) := by rw [e0]; exact h1
      have e2 : rd (T.map Nat.cast) (rd SA ((L.length : Int) - 1)) = (ch T (ch L (L.length - 1)) : Nat) := by rw [e1]; exact rd_ch _ _
      have c1 := hlt (ch L (L.length - 1))
      repeat' (first|(refine isO ?_;first|refine oo (Pc rfl) ?_|refine oo (Pa rfl (by omega) (by omega)) ?_|(refine ob rfl ?_ ?_<;>intro hq<;>try (exfalso;omega))|refine oo (Pi rfl (by first|omega|(simp only [wr_length];omega))) ?_|refine oo (Pz rfl (by omega) (by omega)) ?_|refine oo (Pl rfl) ?_|refine oo (Px rfl rfl) ?_|refine oo (Pj rfl (by omega) (by omega)) ?_|refine oo (Pk rfl (by omega) (by omega)) ?_|refine oo (Pf rfl) ?_|refine oo (Pv rfl (by omega) (by omega)) ?_|refine oo (Pn rfl) ?_|refine oo (Ph rfl) ?_|refine oo (Pg rfl (by omega) (by omega)) ?_|refine oo (Pe rfl (by omega) (by omega)) ?_|refine oo (Po rfl (by omega) (by omega)) ?_|refine oo (Pm rfl) ?_|refine os rfl rfl ?_|refine ot rfl (by first|omega|(simp only [wr_length];omega)) ?_|refine O_nil ?_)|refine wo rfl ?_|refine wc rfl ?_|refine wg rfl ?_|refine go rfl ?_|refine gc rfl ?_|refine gg rfl ?_)
      refine O_weak (M' := ⟨true, bC, 0, ints .i64 C⟩ :: ⟨true, bB, oB, ints .i64 B⟩ :: ⟨own, bT, oT, ints .i64 (T.map Nat.cast)⟩ :: ⟨true, bS, oS, ints .i64 SA⟩ :: F) (by repeat (first | exact .rfl | exact .nil | (apply Rk.cons; (· exact TakeI.out)) | refine .drop ?_)) ?_
      refine O_call rfl rfl Tb.k22 trivial rfl (ends_c T k hT C B bB oB lB cB bC 0 k k _ hlB (Nat.le_refl _) hC hB) ?_
      rintro _ _ ⟨rfl, B1, hB1, rfl⟩
      have hB1l := hB1.1
      repeat' (first|(refine isO ?_;first|refine oo (Pc rfl) ?_|refine oo (Pa rfl (by omega) (by omega)) ?_|(refine ob rfl ?_ ?_<;>intro hq<;>try (exfalso;omega))|refine oo (Pi rfl (by first|omega|(simp only [wr_length];omega))) ?_|refine oo (Pz rfl (by omega) (by omega)) ?_|refine oo (Pl rfl) ?_|refine oo (Px rfl rfl) ?_|refine oo (Pj rfl (by omega) (by omega)) ?_|refine oo (Pk rfl (by omega) (by omega)) ?_|refine oo (Pf rfl) ?_|refine oo (Pv rfl (by omega) (by omega)) ?_|refine oo (Pn rfl) ?_|refine oo (Ph rfl) ?_|refine oo (Pg rfl (by omega) (by omega)) ?_|refine oo (Pe rfl (by omega) (by omega)) ?_|refine oo (Po rfl (by omega) (by omega)) ?_|refine oo (Pm rfl) ?_|refine os rfl rfl ?_|refine ot rfl (by first|omega|(simp only [wr_length];omega)) ?_|refine O_nil ?_)|refine wo rfl ?_|refine wc rfl ?_|refine wg rfl ?_|refine go rfl ?_|refine gc rfl ?_|refine gg rfl ?_)
      rw [e2, e1, e0]
      clear hL h1 e1 e2 e0 c1 h2 hB hcase
      refine W_loop (α := Nat × Nat × List Int) (fun x => [(0, .slice (some ⟨bT, oT, none⟩) lT cT), (1, .slice (some ⟨bS, oS, none⟩) lS cS), (2, .int .i64 (fs : Nat)), (3, .int .i64 T.length), (4, .int .i64 k), (10, .slice (some ⟨bC, 0, none⟩) k k), (11, .slice (some ⟨bB, oB, none⟩) lB cB), (16, .int .i64 x.1), (17, .int .i64 x.2.1), (19, .int .i64 (ch L x.1 : Nat)), (24, .int .i64 (ch T (ch L x.1) : Nat))])
        (fun x => ⟨own, bT, oT, ints .i64 (T.map Nat.cast)⟩ :: ⟨true, bS, oS, ints .i64 x.2.2⟩ :: ⟨true, bC, 0, ints .i64 C⟩ :: ⟨true, bB, oB, ints .i64 B1⟩ :: F) (fun x => x.1 < L.length ∧ Pls T L (x.1 + 1) x.2.1 x.2.2 ∧ (x.1 + 1 < L.length → ch T (ch L x.1) ≠ ch T (ch L (x.1 + 1))) ∧ bst T (ch T (ch L x.1) + 1) ≤ x.2.1) (fun x => x.1)
        (L.length - 1, T.length, SA) ⟨by dsimp only; omega, by dsimp only; rw [show L.length - 1 + 1 = L.length by omega]; exact hP, fun h => by dsimp only at h; omega, bst_le T _⟩ (by (repeat (first | exact trivial | refine ⟨rfl, ?_⟩))) (by repeat (first | exact .rfl | exact .nil | (apply Rk.cons; (· exact TakeI.out)) | refine .drop ?_)) ?_
      clear hP hl hSl SA
      rintro ⟨a, j, SA⟩ ⟨ha, hP, htop, hbj⟩
      dsimp only at ha hP htop hbj ⊢
      have c1 := hlt (ch L a)
      have e3 : rd B1 (ch T (ch L a) : Nat) = (bst T (ch T (ch L a) + 1) : Nat) := hB1.2 _ c1
      have hbn := bst_le T (ch T (ch L a) + 1)
      repeat' (first|(refine isO ?_;first|refine oo (Pc rfl) ?_|refine oo (Pa rfl (by omega) (by omega)) ?_|(refine ob rfl ?_ ?_<;>intro hq<;>try (exfalso;omega))|refine oo (Pi rfl (by first|omega|(simp only [wr_length];omega))) ?_|refine oo (Pz rfl (by omega) (by omega)) ?_|refine oo (Pl rfl) ?_|refine oo (Px rfl rfl) ?_|refine oo (Pj rfl (by omega) (by omega)) ?_|refine oo (Pk rfl (by omega) (by omega)) ?_|refine oo (Pf rfl) ?_|refine oo (Pv rfl (by omega) (by omega)) ?_|refine oo (Pn rfl) ?_|refine oo (Ph rfl) ?_|refine oo (Pg rfl (by omega) (by omega)) ?_|refine oo (Pe rfl (by omega) (by omega)) ?_|refine oo (Po rfl (by omega) (by omega)) ?_|refine oo (Pm rfl) ?_|refine os rfl rfl ?_|refine ot rfl (by first|omega|(simp only [wr_length];omega)) ?_|refine O_nil ?_)|refine wo rfl ?_|refine wc rfl ?_|refine wg rfl ?_|refine go rfl ?_|refine gc rfl ?_|refine gg rfl ?_)
      rw [e3]
      refine W_loop (α := Nat × List Int) (fun x => [(0, .slice (some ⟨bT, oT, none⟩) lT cT), (1, .slice (some ⟨bS, oS, none⟩) lS cS), (2, .int .i64 (fs : Nat)), (3, .int .i64 T.length), (4, .int .i64 k), (10, .slice (some ⟨bC, 0, none⟩) k k), (11, .slice (some ⟨bB, oB, none⟩) lB cB), (16, .int .i64 a), (17, .int .i64 x.1), (19, .int .i64 (ch L a : Nat)), (20, .int .i64 (bst T (ch T (ch L a) + 1) : Nat)), (23, .int .i64 (ch T (ch L a) : Nat)), (24, .int .i64 (ch T (ch L a) : Nat))])
        (fun x => ⟨own, bT, oT, ints .i64 (T.map Nat.cast)⟩ :: ⟨true, bS, oS, ints .i64 x.2⟩ :: ⟨true, bC, 0, ints .i64 C⟩ :: ⟨true, bB, oB, ints .i64 B1⟩ :: F) (fun x => Pls T L (a + 1) x.1 x.2 ∧ bst T (ch T (ch L a) + 1) ≤ x.1) (fun x => x.1) (j, SA) ⟨hP, hbj⟩ (by (repeat (first | exact trivial | refine ⟨rfl, ?_⟩))) (by repeat (first | exact .rfl | exact .nil | (apply Rk.cons; (· exact TakeI.out)) | refine .drop ?_)) ?_
      clear hP hbj j SA
      rintro ⟨j, SA⟩ ⟨hP, hbj⟩
      dsimp only at hP hbj ⊢
      have hPl := hP.len
      have hPn := hP.jn
      by_cases hj : bst T (ch T (ch L a) + 1) < j
      · obtain ⟨jj, rfl⟩ : ∃ jj, j = jj + 1 := ⟨j - 1, by omega⟩
        have e0 : (((jj + 1 : Nat) : Int) - 1) = (jj : Int) := by omega
        have hz := hP.zero hS fun b hb => by
          have h1 := (hS.plc_in ha).2
          by_cases e : b = a
          · subst e; omega
          · have := hS.plc_mono' (show b < a by omega) ha
            omega
        repeat' (first|(refine isO ?_;first|refine oo (Pc rfl) ?_|refine oo (Pa rfl (by omega) (by omega)) ?_|(refine ob rfl ?_ ?_<;>intro hq<;>try (exfalso;omega))|refine oo (Pi rfl (by first|omega|(simp only [wr_length];omega))) ?_|refine oo (Pz rfl (by omega) (by omega)) ?_|refine oo (Pl rfl) ?_|refine oo (Px rfl rfl) ?_|refine oo (Pj rfl (by omega) (by omega)) ?_|refine oo (Pk rfl (by omega) (by omega)) ?_|refine oo (Pf rfl) ?_|refine oo (Pv rfl (by omega) (by omega)) ?_|refine oo (Pn rfl) ?_|refine oo (Ph rfl) ?_|refine oo (Pg rfl (by omega) (by omega)) ?_|refine oo (Pe rfl (by omega) (by omega)) ?_|refine oo (Po rfl (by omega) (by omega)) ?_|refine oo (Pm rfl) ?_|refine os rfl rfl ?_|refine ot rfl (by first|omega|(simp only [wr_length];omega)) ?_|refine O_nil ?_)|refine wo rfl ?_|refine wc rfl ?_|refine wg rfl ?_|refine go rfl ?_|refine gc rfl ?_|refine gg rfl ?_)
        rw [e0]
        exact G_stop ⟨(jj, _), ⟨hz, by dsimp only; omega⟩, by dsimp only; omega, by (repeat (first | exact trivial | refine ⟨rfl, ?_⟩)), .rfl⟩
      · have hjj : j = bst T (ch T (ch L a) + 1) := by omega
        have hpt := hS.plc_top ha htop
        repeat' (first|(refine isO ?_;first|refine oo (Pc rfl) ?_|refine oo (Pa rfl (by omega) (by omega)) ?_|(refine ob rfl ?_ ?_<;>intro hq<;>try (exfalso;omega))|refine oo (Pi rfl (by first|omega|(simp only [wr_length];omega))) ?_|refine oo (Pz rfl (by omega) (by omega)) ?_|refine oo (Pl rfl) ?_|refine oo (Px rfl rfl) ?_|refine oo (Pj rfl (by omega) (by omega)) ?_|refine oo (Pk rfl (by omega) (by omega)) ?_|refine oo (Pf rfl) ?_|refine oo (Pv rfl (by omega) (by omega)) ?_|refine oo (Pn rfl) ?_|refine oo (Ph rfl) ?_|refine oo (Pg rfl (by omega) (by omega)) ?_|refine oo (Pe rfl (by omega) (by omega)) ?_|refine oo (Po rfl (by omega) (by omega)) ?_|refine oo (Pm rfl) ?_|refine os rfl rfl ?_|refine ot rfl (by first|omega|(simp only [wr_length];omega)) ?_|refine O_nil ?_)|refine wo rfl ?_|refine wc rfl ?_|refine wg rfl ?_|refine go rfl ?_|refine gc rfl ?_|refine gg rfl ?_)
        refine W_join1 (fun E' M' => ∃ (a' j : Nat) (SA : List Int) (pz cz : Int), a' ≤ a ∧ Pls T L a' j SA ∧ (0 < a' → pz = (ch L (a' - 1) : Nat) ∧ cz = (ch T (ch L (a' - 1)) : Nat) ∧ ch T (ch L (a' - 1)) ≠ ch T (ch L a') ∧ bst T (ch T (ch L (a' - 1)) + 1) ≤ j) ∧ Sub E' [(0, .slice (some ⟨bT, oT, none⟩) lT cT), (1, .slice (some ⟨bS, oS, none⟩) lS cS), (2, .int .i64 (fs : Nat)), (3, .int .i64 T.length), (4, .int .i64 k), (10, .slice (some ⟨bC, 0, none⟩) k k), (11, .slice (some ⟨bB, oB, none⟩) lB cB), (16, .int .i64 ((a' : Int) - 1)), (17, .int .i64 j), (19, .int .i64 pz), (24, .int .i64 cz)] ∧ Rk M' (⟨own, bT, oT, ints .i64 (T.map Nat.cast)⟩ :: ⟨true, bS, oS, ints .i64 SA⟩ :: ⟨true, bC, 0, ints .i64 C⟩ :: ⟨true, bB, oB, ints .i64 B1⟩ :: F)) ?_ ?_
        · refine W_loop (α := Nat × Nat × List Int) (fun x => [(0, .slice (some ⟨bT, oT, none⟩) lT cT), (1, .slice (some ⟨bS, oS, none⟩) lS cS), (2, .int .i64 (fs : Nat)), (3, .int .i64 T.length), (4, .int .i64 k), (10, .slice (some ⟨bC, 0, none⟩) k k), (11, .slice (some ⟨bB, oB, none⟩) lB cB), (16, .int .i64 x.1), (17, .int .i64 x.2.1), (19, .int .i64 (ch L x.1 : Nat)), (23, .int .i64 (ch T (ch L a) : Nat)), (24, .int .i64 (ch T (ch L x.1) : Nat))])
            (fun x => ⟨own, bT, oT, ints .i64 (T.map Nat.cast)⟩ :: ⟨true, bS, oS, ints .i64 x.2.2⟩ :: ⟨true, bC, 0, ints .i64 C⟩ :: ⟨true, bB, oB, ints .i64 B1⟩ :: F) (fun x => x.1 ≤ a ∧ Pls T L (x.1 + 1) x.2.1 x.2.2 ∧ ch T (ch L x.1) = ch T (ch L a) ∧ plc T L x.1 + 1 = x.2.1) (fun x => x.1) (a, j, SA) ⟨Nat.le_refl _, hP, rfl, by dsimp only; omega⟩ (by (repeat (first | exact trivial | refine ⟨rfl, ?_⟩))) (by repeat (first | exact .rfl | exact .nil | (apply Rk.cons; (· exact TakeI.out)) | refine .drop ?_)) ?_
          clear hP hPl hPn hjj hpt hj hbj
          rintro ⟨x, j, SA⟩ ⟨hx, hP, hxc, hxj⟩
          dsimp only at hx hP hxc hxj ⊢
          have hPl := hP.len
          have hPn := hP.jn
          obtain ⟨jj, rfl⟩ : ∃ jj, j = jj + 1 := ⟨j - 1, by omega⟩
          have ej : (((jj + 1 : Nat) : Int) - 1) = (jj : Int) := by omega
          have hp := hP.put hS (show plc T L x = jj by omega)
          cases x with
          | zero =>
            repeat' (first|(refine isO ?_;first|refine oo (Pc rfl) ?_|refine oo (Pa rfl (by omega) (by omega)) ?_|(refine ob rfl ?_ ?_<;>intro hq<;>try (exfalso;omega))|refine oo (Pi rfl (by first|omega|(simp only [wr_length];omega))) ?_|refine oo (Pz rfl (by omega) (by omega)) ?_|refine oo (Pl rfl) ?_|refine oo (Px rfl rfl) ?_|refine oo (Pj rfl (by omega) (by omega)) ?_|refine oo (Pk rfl (by omega) (by omega)) ?_|refine oo (Pf rfl) ?_|refine oo (Pv rfl (by omega) (by omega)) ?_|refine oo (Pn rfl) ?_|refine oo (Ph rfl) ?_|refine oo (Pg rfl (by omega) (by omega)) ?_|refine oo (Pe rfl (by omega) (by omega)) ?_|refine oo (Po rfl (by omega) (by omega)) ?_|refine oo (Pm rfl) ?_|refine os rfl rfl ?_|refine ot rfl (by first|omega|(simp only [wr_length];omega)) ?_|refine O_nil ?_)|refine wo rfl ?_|refine wc rfl ?_|refine wg rfl ?_|refine go rfl ?_|refine gc rfl ?_|refine gg rfl ?_)
            rw [ej]
            exact G_stop ⟨0, jj, _, _, _, Nat.zero_le _, hp, fun h => absurd h (Nat.lt_irrefl 0), by (repeat (first | exact trivial | refine ⟨rfl, ?_⟩)), .rfl⟩
          | succ u =>
            have eu : (((u + 1 : Nat) : Int) - 1) = (u : Int) := by omega
            have e5 : rd (wr SA (((jj + 1 : Nat) : Int) - 1) (ch L (u + 1) : Nat)) (((u + 1 : Nat) : Int) - 1) = (ch L u : Nat) := by rw [ej, eu]; exact hp.low u (by omega)
            have e6 : rd (T.map Nat.cast) (rd (wr SA (((jj + 1 : Nat) : Int) - 1) (ch L (u + 1) : Nat)) (((u + 1 : Nat) : Int) - 1)) = (ch T (ch L u) : Nat) := by rw [e5]; exact rd_ch _ _
            have c2 := hlt (ch L u)
            have h2 := lms_lt (hS.lms (show u < L.length by omega))
            by_cases hc : ch T (ch L u) = ch T (ch L a)
            · have hs := hS.plc_same (b := u) (by omega) (by rw [hc, hxc])
              repeat' (first|(refine isO ?_;first|refine oo (Pc rfl) ?_|refine oo (Pa rfl (by omega) (by omega)) ?_|(refine ob rfl ?_ ?_<;>intro hq<;>try (exfalso;omega))|refine oo (Pi rfl (by first|omega|(simp only [wr_length];omega))) ?_|refine oo (Pz rfl (by omega) (by omega)) ?_|refine oo (Pl rfl) ?_|refine oo (Px rfl rfl) ?_|refine oo (Pj rfl (by omega) (by omega)) ?_|refine oo (Pk rfl (by omega) (by omega)) ?_|refine oo (Pf rfl) ?_|refine oo (Pv rfl (by omega) (by omega)) ?_|refine oo (Pn rfl) ?_|refine oo (Ph rfl) ?_|refine oo (Pg rfl (by omega) (by omega)) ?_|refine oo (Pe rfl (by omega) (by omega)) ?_|refine oo (Po rfl (by omega) (by omega)) ?_|refine oo (Pm rfl) ?_|refine os rfl rfl ?_|refine ot rfl (by first|omega|(simp only [wr_length];omega)) ?_|refine O_nil ?_)|refine wo rfl ?_|refine wc rfl ?_|refine wg rfl ?_|refine go rfl ?_|refine gc rfl ?_|refine gg rfl ?_)
              rw [e6, e5, ej, eu]
              exact G_stop ⟨(u, jj, _), ⟨by dsimp only; omega, hp, hc, by dsimp only; omega⟩, by dsimp only; omega, by (repeat (first | exact trivial | refine ⟨rfl, ?_⟩)), .rfl⟩
            · have hb1 : bst T (ch T (ch L u) + 1) ≤ jj := by
                have h3 := (hS.plc_in (show u + 1 < L.length by omega)).1
                have h4 := hS.chle (show u ≤ u + 1 by omega) (show u + 1 < L.length by omega)
                have h5 : bst T (ch T (ch L u) + 1) ≤ bst T (ch T (ch L (u + 1))) := bst_mono T (by omega)
                omega
              repeat' (first|(refine isO ?_;first|refine oo (Pc rfl) ?_|refine oo (Pa rfl (by omega) (by omega)) ?_|(refine ob rfl ?_ ?_<;>intro hq<;>try (exfalso;omega))|refine oo (Pi rfl (by first|omega|(simp only [wr_length];omega))) ?_|refine oo (Pz rfl (by omega) (by omega)) ?_|refine oo (Pl rfl) ?_|refine oo (Px rfl rfl) ?_|refine oo (Pj rfl (by omega) (by omega)) ?_|refine oo (Pk rfl (by omega) (by omega)) ?_|refine oo (Pf rfl) ?_|refine oo (Pv rfl (by omega) (by omega)) ?_|refine oo (Pn rfl) ?_|refine oo (Ph rfl) ?_|refine oo (Pg rfl (by omega) (by omega)) ?_|refine oo (Pe rfl (by omega) (by omega)) ?_|refine oo (Po rfl (by omega) (by omega)) ?_|refine oo (Pm rfl) ?_|refine os rfl rfl ?_|refine ot rfl (by first|omega|(simp only [wr_length];omega)) ?_|refine O_nil ?_)|refine wo rfl ?_|refine wc rfl ?_|refine wg rfl ?_|refine go rfl ?_|refine gc rfl ?_|refine gg rfl ?_)
              rw [e6, e5, ej, eu]
              exact G_stop ⟨u + 1, jj, _, _, _, hx, hp, fun _ => ⟨rfl, rfl, by show ch T (ch L u) ≠ _; rw [hxc]; exact hc, hb1⟩, by rw [eu]; (repeat (first | exact trivial | refine ⟨rfl, ?_⟩)), .rfl⟩
        clear hP hPl hPn hjj hpt hj hbj
        rintro E' M' ⟨a', j, SA, pz, cz, ha', hP, hz, hsub, hrk⟩
        refine G_code (W_weak hsub hrk ?_)
        clear hsub hrk E' M'
        cases a' with
        | succ u =>
          obtain ⟨rfl, rfl, hz1, hz2⟩ := hz (by omega)
          have eu : (((u + 1 : Nat) : Int) - 1) = (u : Int) := by omega
          rw [eu, Nat.add_sub_cancel] at *
          repeat' (first|(refine isO ?_;first|refine oo (Pc rfl) ?_|refine oo (Pa rfl (by omega) (by omega)) ?_|(refine ob rfl ?_ ?_<;>intro hq<;>try (exfalso;omega))|refine oo (Pi rfl (by first|omega|(simp only [wr_length];omega))) ?_|refine oo (Pz rfl (by omega) (by omega)) ?_|refine oo (Pl rfl) ?_|refine oo (Px rfl rfl) ?_|refine oo (Pj rfl (by omega) (by omega)) ?_|refine oo (Pk rfl (by omega) (by omega)) ?_|refine oo (Pf rfl) ?_|refine oo (Pv rfl (by omega) (by omega)) ?_|refine oo (Pn rfl) ?_|refine oo (Ph rfl) ?_|refine oo (Pg rfl (by omega) (by omega)) ?_|refine oo (Pe rfl (by omega) (by omega)) ?_|refine oo (Po rfl (by omega) (by omega)) ?_|refine oo (Pm rfl) ?_|refine os rfl rfl ?_|refine ot rfl (by first|omega|(simp only [wr_length];omega)) ?_|refine O_nil ?_)|refine wo rfl ?_|refine wc rfl ?_|refine wg rfl ?_|refine go rfl ?_|refine gc rfl ?_|refine gg rfl ?_)
          exact G_stop ⟨(u, j, SA), ⟨by dsimp only; omega, hP, fun _ => hz1, hz2⟩, by dsimp only; omega, by (repeat (first | exact trivial | refine ⟨rfl, ?_⟩)), .rfl⟩
        | zero =>
          clear hz
          repeat' (first|(refine isO ?_;first|refine oo (Pc rfl) ?_|refine oo (Pa rfl (by omega) (by omega)) ?_|(refine ob rfl ?_ ?_<;>intro hq<;>try (exfalso;omega))|refine oo (Pi rfl (by first|omega|(simp only [wr_length];omega))) ?_|refine oo (Pz rfl (by omega) (by omega)) ?_|refine oo (Pl rfl) ?_|refine oo (Px rfl rfl) ?_|refine oo (Pj rfl (by omega) (by omega)) ?_|refine oo (Pk rfl (by omega) (by omega)) ?_|refine oo (Pf rfl) ?_|refine oo (Pv rfl (by omega) (by omega)) ?_|refine oo (Pn rfl) ?_|refine oo (Ph rfl) ?_|refine oo (Pg rfl (by omega) (by omega)) ?_|refine oo (Pe rfl (by omega) (by omega)) ?_|refine oo (Po rfl (by omega) (by omega)) ?_|refine oo (Pm rfl) ?_|refine os rfl rfl ?_|refine ot rfl (by first|omega|(simp only [wr_length];omega)) ?_|refine O_nil ?_)|refine wo rfl ?_|refine wc rfl ?_|refine wg rfl ?_|refine go rfl ?_|refine gc rfl ?_|refine gg rfl ?_)
          refine W_loop (α := Nat × List Int) (fun x => [(0, .slice (some ⟨bT, oT, none⟩) lT cT), (1, .slice (some ⟨bS, oS, none⟩) lS cS), (2, .int .i64 (fs : Nat)), (3, .int .i64 T.length), (4, .int .i64 k), (10, .slice (some ⟨bC, 0, none⟩) k k), (11, .slice (some ⟨bB, oB, none⟩) lB cB), (17, .int .i64 x.1)]) (fun x => ⟨own, bT, oT, ints .i64 (T.map Nat.cast)⟩ :: ⟨true, bS, oS, ints .i64 x.2⟩ :: ⟨true, bC, 0, ints .i64 C⟩ :: ⟨true, bB, oB, ints .i64 B1⟩ :: F) (fun x => Pls T L 0 x.1 x.2) (fun x => x.1) (j, SA) hP (by (repeat (first | exact trivial | refine ⟨rfl, ?_⟩))) (by repeat (first | exact .rfl | exact .nil | (apply Rk.cons; (· exact TakeI.out)) | refine .drop ?_)) ?_
          clear hP
          rintro ⟨j, SA⟩ hP
          dsimp only at hP ⊢
          have hPl := hP.len
          have hPn := hP.jn
          cases j with
          | zero =>
            repeat' (first|(refine isO ?_;first|refine oo (Pc rfl) ?_|refine oo (Pa rfl (by omega) (by omega)) ?_|(refine ob rfl ?_ ?_<;>intro hq<;>try (exfalso;omega))|refine oo (Pi rfl (by first|omega|(simp only [wr_length];omega))) ?_|refine oo (Pz rfl (by omega) (by omega)) ?_|refine oo (Pl rfl) ?_|refine oo (Px rfl rfl) ?_|refine oo (Pj rfl (by omega) (by omega)) ?_|refine oo (Pk rfl (by omega) (by omega)) ?_|refine oo (Pf rfl) ?_|refine oo (Pv rfl (by omega) (by omega)) ?_|refine oo (Pn rfl) ?_|refine oo (Ph rfl) ?_|refine oo (Pg rfl (by omega) (by omega)) ?_|refine oo (Pe rfl (by omega) (by omega)) ?_|refine oo (Po rfl (by omega) (by omega)) ?_|refine oo (Pm rfl) ?_|refine os rfl rfl ?_|refine ot rfl (by first|omega|(simp only [wr_length];omega)) ?_|refine O_nil ?_)|refine wo rfl ?_|refine wc rfl ?_|refine wg rfl ?_|refine go rfl ?_|refine gc rfl ?_|refine gg rfl ?_)
            exact G_stop ⟨SA, B1, hP.seeds hS, hB1l, by (repeat (first | exact trivial | refine ⟨rfl, ?_⟩)), .rfl⟩
          | succ jj =>
            have e0 : (((jj + 1 : Nat) : Int) - 1) = (jj : Int) := by omega
            have hz := hP.zero hS fun b hb => by omega
            repeat' (first|(refine isO ?_;first|refine oo (Pc rfl) ?_|refine oo (Pa rfl (by omega) (by omega)) ?_|(refine ob rfl ?_ ?_<;>intro hq<;>try (exfalso;omega))|refine oo (Pi rfl (by first|omega|(simp only [wr_length];omega))) ?_|refine oo (Pz rfl (by omega) (by omega)) ?_|refine oo (Pl rfl) ?_|refine oo (Px rfl rfl) ?_|refine oo (Pj rfl (by omega) (by omega)) ?_|refine oo (Pk rfl (by omega) (by omega)) ?_|refine oo (Pf rfl) ?_|refine oo (Pv rfl (by omega) (by omega)) ?_|refine oo (Pn rfl) ?_|refine oo (Ph rfl) ?_|refine oo (Pg rfl (by omega) (by omega)) ?_|refine oo (Pe rfl (by omega) (by omega)) ?_|refine oo (Po rfl (by omega) (by omega)) ?_|refine oo (Pm rfl) ?_|refine os rfl rfl ?_|refine ot rfl (by first|omega|(simp only [wr_length];omega)) ?_|refine O_nil ?_)|refine wo rfl ?_|refine wc rfl ?_|refine wg rfl ?_|refine go rfl ?_|refine gc rfl ?_|refine gg rfl ?_)
            rw [e0]
            exact G_stop ⟨(jj, _), hz, by dsimp only; omega, by (repeat (first | exact trivial | refine ⟨rfl, ?_⟩)), .rfl⟩
    · have hcase := hcase.resolve_left fun h => by omega
      repeat' (first|(refine isO ?_;first|refine oo (Pc rfl) ?_|refine oo (Pa rfl (by omega) (by omega)) ?_|(refine ob rfl ?_ ?_<;>intro hq<;>try (exfalso;omega))|refine oo (Pi rfl (by first|omega|(simp only [wr_length];omega))) ?_|refine oo (Pz rfl (by omega) (by omega)) ?_|refine oo (Pl rfl) ?_|refine oo (Px rfl rfl) ?_|refine oo (Pj rfl (by omega) (by omega)) ?_|refine oo (Pk rfl (by omega) (by omega)) ?_|refine oo (Pf rfl) ?_|refine oo (Pv rfl (by omega) (by omega)) ?_|refine oo (Pn rfl) ?_|refine oo (Ph rfl) ?_|refine oo (Pg rfl (by omega) (by omega)) ?_|refine oo (Pe rfl (by omega) (by omega)) ?_|refine oo (Po rfl (by omega) (by omega)) ?_|refine oo (Pm rfl) ?_|refine os rfl rfl ?_|refine ot rfl (by first|omega|(simp only [wr_length];omega)) ?_|refine O_nil ?_)|refine wo rfl ?_|refine wc rfl ?_|refine wg rfl ?_|refine go rfl ?_|refine gc rfl ?_|refine gg rfl ?_)
      exact G_stop ⟨SA, B, hcase.2, hB, by (repeat (first | exact trivial | refine ⟨rfl, ?_⟩)), by repeat (first | exact .rfl | exact .nil | (apply Rk.cons; (· exact TakeI.out)) | refine .drop ?_)⟩
  clear hcase hB hSl SA B
  rintro E' M' ⟨SA, B, ⟨G, hG, h0⟩, hB, hsub, hrk⟩
  refine G_code (W_weak hsub hrk ?_)
  clear hsub hrk E' M'
  repeat' (first|(refine isO ?_;first|refine oo (Pc rfl) ?_|refine oo (Pa rfl (by omega) (by omega)) ?_|(refine ob rfl ?_ ?_<;>intro hq<;>try (exfalso;omega))|refine oo (Pi rfl (by first|omega|(simp only [wr_length];omega))) ?_|refine oo (Pz rfl (by omega) (by omega)) ?_|refine oo (Pl rfl) ?_|refine oo (Px rfl rfl) ?_|refine oo (Pj rfl (by omega) (by omega)) ?_|refine oo (Pk rfl (by omega) (by omega)) ?_|refine oo (Pf rfl) ?_|refine oo (Pv rfl (by omega) (by omega)) ?_|refine oo (Pn rfl) ?_|refine oo (Ph rfl) ?_|refine oo (Pg rfl (by omega) (by omega)) ?_|refine oo (Pe rfl (by omega) (by omega)) ?_|refine oo (Po rfl (by omega) (by omega)) ?_|refine oo (Pm rfl) ?_|refine os rfl rfl ?_|refine ot rfl (by first|omega|(simp only [wr_length];omega)) ?_|refine O_nil ?_)|refine wo rfl ?_|refine wc rfl ?_|refine wg rfl ?_|refine go rfl ?_|refine gc rfl ?_|refine gg rfl ?_)
  refine O_call rfl rfl Tb.k27 trivial rfl (induceSA_c T k hT G hG.good hG.lms SA C B h0 hC hB own bT oT lT cT bS oS lS cS bB oB lB cB bC 0 k k F hlT hlS hlB (Nat.le_refl _) hne) ?_
  rintro _ _ ⟨rfl, SA', B', hF3, hl1, hl2, rfl⟩
  obtain ⟨Mf, hMf, hRf⟩ := hR SA' B' (hF3.suf hT hG) hl1 hl2
  refine O_re hMf ?_
  repeat' (first|(refine isO ?_;first|refine oo (Pc rfl) ?_|refine oo (Pa rfl (by omega) (by omega)) ?_|(refine ob rfl ?_ ?_<;>intro hq<;>try (exfalso;omega))|refine oo (Pi rfl (by first|omega|(simp only [wr_length];omega))) ?_|refine oo (Pz rfl (by omega) (by omega)) ?_|refine oo (Pl rfl) ?_|refine oo (Px rfl rfl) ?_|refine oo (Pj rfl (by omega) (by omega)) ?_|refine oo (Pk rfl (by omega) (by omega)) ?_|refine oo (Pf rfl) ?_|refine oo (Pv rfl (by omega) (by omega)) ?_|refine oo (Pn rfl) ?_|refine oo (Ph rfl) ?_|refine oo (Pg rfl (by omega) (by omega)) ?_|refine oo (Pe rfl (by omega) (by omega)) ?_|refine oo (Po rfl (by omega) (by omega)) ?_|refine oo (Pm rfl) ?_|refine os rfl rfl ?_|refine ot rfl (by first|omega|(simp only [wr_length];omega)) ?_|refine O_nil ?_)|refine wo rfl ?_|refine wc rfl ?_|refine wg rfl ?_|refine go rfl ?_|refine gc rfl ?_|refine gg rfl ?_)
  exact G_fin ⟨_, rfl, hRf⟩
end Go.Proofs.Ytcibehgcibojnaa.Saii
