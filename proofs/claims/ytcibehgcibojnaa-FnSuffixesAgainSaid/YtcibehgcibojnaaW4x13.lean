/- computeSA, the reduced problem: solved where names are alike. Conditions: as the parts ahead of it leave them; the same of shorter texts. -/
import Derived.Test.YtcibehgcibojnaaW4x11
import Derived.Test.YtcibehgcibojnaaW4x12

namespace Go.Proofs.Ytcibehgcibojnaa.Saib
open Go Go.RowKit Go.Proofs.Ytcibehgcibojnaa.Vm Go.Proofs.Ytcibehgcibojnaa.Sais Go.Proofs.Ytcibehgcibojnaa.Sai
set_option maxHeartbeats 16000000 in
theorem partD (T : List Nat) (k : Nat) (hT : Txt T k) (hk5 : k ≤ 512) (fs : Nat) (hN : T.length + fs ≤ 1000) (fl : Int) (c2 : Bool) (hfl : Fl fl c2) (SA C B R : List Int) (m : Nat) (hm : m = (lmsF T 0).length) (name : Nat)
    (hst : (2 ≤ m ∧ Named T m SA name) ∨ (m ≤ 1 ∧ name = m ∧ ∃ G, Seeds T G ∧ Cel0 T E3L G SA)) (hC : Cnt T T.length k C) (hB : B.length = k) (g : Nat) (hRr : R.length = g) (hSl : SA.length = T.length)
    (own : Bool) (bT oT lT cT bS oS lS cS bB oB lB cB bC : Nat) (hL : Lay T.length fs k g c2 bS oS bB oB lB) (F : Mem) (hlT : T.length ≤ lT) (hlS : T.length + fs ≤ lS) (hcS : lS ≤ cS) (hne : bC ≠ bB) (hneS : bC ≠ bS) (hF : Ne F) (hrec : Rec T.length) :
    W false Try.prog ⟨Try.f12.ntmps, []⟩ (Vm.Ends Try.f12.results.toList fun v M' => v = .tuple #[] ∧ ∃ X : List Int, X.length = T.length + fs ∧ SufA T X ∧ Rk M' (⟨own, bT, oT, ints .u8 (T.map Nat.cast)⟩ :: ⟨true, bS, oS, ints .i64 X⟩ :: F)) (tl 18 (bodyOf Try.f12)) [] [(0, .slice (some ⟨bT, oT, none⟩) lT cT), (1, .slice (some ⟨bS, oS, none⟩) lS cS), (2, .int .i64 (fs : Nat)), (3, .int .i64 T.length), (4, .int .i64 k), (10, .slice (some ⟨bC, 0, none⟩) k k), (11, .slice (some ⟨bB, oB, none⟩) lB cB), (18, .int .i64 m), (21, .int .i64 name), (25, .int .u64 fl)] (⟨own, bT, oT, ints .u8 (T.map Nat.cast)⟩ :: ⟨true, bS, oS, ints .i64 SA⟩ :: ⟨true, bC, 0, ints .i64 C⟩ :: ⟨true, bB, oB, ints .i64 B⟩ :: ⟨true, bS, oS + T.length, ints .i64 R⟩ :: F) := by
  have hn0 := hT.n0
  have hn1 := hT.n1
  have hk1 := hT.k1
  have hlt := hT.lt
  have hk0 := hT.k0
  have hlen : (T.map (Nat.cast : Nat → Int)).length = T.length := List.length_map _
  have h2m : 2 * m ≤ T.length := by have := lmsF_le T _ 0 (Nat.le_refl _); omega
  have htr : (⟨own, bT, oT, ints .u8 (T.map Nat.cast)⟩ : Sg).l ≠ [] := ints_ne (by rw [hlen]; exact hn0)
  have hcr : (⟨true, bC, 0, ints .i64 C⟩ : Sg).l ≠ [] := ints_ne (by rw [hC.1]; exact hk0)
  have hnm : name ≤ m := by
    rcases hst with ⟨h1, L, _, h2, _, _, h3, _⟩ | ⟨_, h1, _⟩
    · have := nmAt_le T L (m - 1); omega
    · omega
  have hstop : Stop [90] := ⟨⟩
  repeat' (first|(refine isO ?_;first|refine oo (Pc rfl) ?_|refine oo (Pa rfl (by omega) (by omega)) ?_|(refine ob rfl ?_ ?_<;>intro hq<;>try (exfalso;omega))|refine oo (Pi rfl (by first|omega|(simp only [wr_length];omega))) ?_|refine oo (Pz rfl (by omega) (by omega)) ?_|refine oo (Pl rfl) ?_|refine oo (Px rfl rfl) ?_|refine oo (Pj rfl (by omega) (by omega)) ?_|refine oo (Pk rfl (by omega) (by omega)) ?_|refine oo (Pf rfl) ?_|refine oo (Pv rfl (by omega) (by omega)) ?_|refine oo (Pn rfl) ?_|refine oo (Ph rfl) ?_|refine oo (Pg rfl (by omega) (by omega)) ?_|refine oo (Pe rfl (by omega) (by omega)) ?_|refine oo (Po rfl (by omega) (by omega)) ?_|refine oo (Pm rfl) ?_|refine os rfl rfl ?_|refine ot rfl (by first|omega|(simp only [wr_length];omega)) ?_|refine O_nil ?_)|refine wu hstop rfl rfl ?_|refine gu hstop rfl rfl ?_|refine wc rfl ?_|refine wg rfl ?_|refine gc rfl ?_|refine gg rfl ?_)
  clear hstop
  refine W_join1 (fun E' M' => ∃ (SA B R : List Int) (bB oB lB cB : Nat), ((2 ≤ m ∧ ∃ L, SrtS T L ∧ L.length = m ∧ SA.length = T.length ∧ ∀ a, a < m → rd SA (a : Int) = (ch L a : Nat)) ∨ (m ≤ 1 ∧ ∃ G, Seeds T G ∧ Cel0 T E3L G SA)) ∧ B.length = k ∧ R.length = g ∧ Lay T.length fs k g c2 bS oS bB oB lB ∧ bC ≠ bB ∧
    Sub E' [(0, .slice (some ⟨bT, oT, none⟩) lT cT), (1, .slice (some ⟨bS, oS, none⟩) lS cS), (2, .int .i64 (fs : Nat)), (3, .int .i64 T.length), (4, .int .i64 k), (10, .slice (some ⟨bC, 0, none⟩) k k), (11, .slice (some ⟨bB, oB, none⟩) lB cB), (18, .int .i64 m), (25, .int .u64 fl)] ∧ Rk M' (⟨own, bT, oT, ints .u8 (T.map Nat.cast)⟩ :: ⟨true, bS, oS, ints .i64 SA⟩ :: ⟨true, bC, 0, ints .i64 C⟩ :: ⟨true, bB, oB, ints .i64 B⟩ :: ⟨true, bS, oS + T.length, ints .i64 R⟩ :: F)) ?_ ?_
  · by_cases hnn : name < m
    · have hst := hst.resolve_right fun h => by omega
      obtain ⟨hm2, hNd⟩ := hst
      obtain ⟨f, hf⟩ := hNd.nmf hm hnn
      obtain ⟨X, ⟨r, hX⟩, hXl, hRs⟩ := hL.join (tr := ⟨own, bT, oT, ints .u8 (T.map Nat.cast)⟩) (cr := ⟨true, bC, 0, ints .i64 C⟩) (F := F) hSl hRr hB htr hcr hk0 hF
      refine W_re hRs ?_
      have hXr : ∀ u, u < T.length → rd X (u : Int) = rd SA (u : Int) := fun u hu => by rw [hX]; exact rd_left (by omega)
      have hra := hf.ra hm hXl (Nat.le_add_right _ _) hXr h2m
      obtain ⟨oR, hoR⟩ : ∃ oR, oR = oS + (T.length + fs - m) := ⟨_, rfl⟩
      clear hRs hX hXr hNd hB
      repeat' (first|(refine isO ?_;first|refine oo (Pc rfl) ?_|refine oo (Pa rfl (by omega) (by omega)) ?_|(refine ob rfl ?_ ?_<;>intro hq<;>try (exfalso;omega))|refine oo (Pi rfl (by first|omega|(simp only [wr_length];omega))) ?_|refine oo (Pz rfl (by omega) (by omega)) ?_|refine oo (Pl rfl) ?_|refine oo (Px rfl rfl) ?_|refine oo (Pj rfl (by omega) (by omega)) ?_|refine oo (Pk rfl (by omega) (by omega)) ?_|refine oo (Pf rfl) ?_|refine oo (Pv rfl (by omega) (by omega)) ?_|refine oo (Pn rfl) ?_|refine oo (Ph rfl) ?_|refine oo (Pg rfl (by omega) (by omega)) ?_|refine oo (Pe rfl (by omega) (by omega)) ?_|refine oo (Po rfl (by omega) (by omega)) ?_|refine oo (Pm rfl) ?_|refine os rfl rfl ?_|refine ot rfl (by first|omega|(simp only [wr_length];omega)) ?_|refine O_nil ?_)|refine wo rfl ?_|refine wc rfl ?_|refine wg rfl ?_|refine go rfl ?_|refine gc rfl ?_|refine gg rfl ?_)
      refine oo (Pfl rfl hfl.and13) ?_
      repeat' (first|(refine isO ?_;first|refine oo (Pc rfl) ?_|refine oo (Pa rfl (by omega) (by omega)) ?_|(refine ob rfl ?_ ?_<;>intro hq<;>try (exfalso;omega))|refine oo (Pi rfl (by first|omega|(simp only [wr_length];omega))) ?_|refine oo (Pz rfl (by omega) (by omega)) ?_|refine oo (Pl rfl) ?_|refine oo (Px rfl rfl) ?_|refine oo (Pj rfl (by omega) (by omega)) ?_|refine oo (Pk rfl (by omega) (by omega)) ?_|refine oo (Pf rfl) ?_|refine oo (Pv rfl (by omega) (by omega)) ?_|refine oo (Pn rfl) ?_|refine oo (Ph rfl) ?_|refine oo (Pg rfl (by omega) (by omega)) ?_|refine oo (Pe rfl (by omega) (by omega)) ?_|refine oo (Po rfl (by omega) (by omega)) ?_|refine oo (Pm rfl) ?_|refine os rfl rfl ?_|refine ot rfl (by first|omega|(simp only [wr_length];omega)) ?_|refine O_nil ?_)|refine wo rfl ?_|refine wc rfl ?_|refine wg rfl ?_|refine go rfl ?_|refine gc rfl ?_|refine gg rfl ?_)
      refine O_pure (P_slice1E (o' := oR) (len' := lS - (T.length + fs - m)) (cap' := cS - (T.length + fs - m)) Tb.u25 Tb.c3 rfl ⟨_, rfl⟩ rfl (by omega) (by omega) (by omega) (by omega) (by omega) (by omega) (by omega)) trivial rfl ?_
      repeat' (first|(refine isO ?_;first|refine oo (Pc rfl) ?_|refine oo (Pa rfl (by omega) (by omega)) ?_|(refine ob rfl ?_ ?_<;>intro hq<;>try (exfalso;omega))|refine oo (Pi rfl (by first|omega|(simp only [wr_length];omega))) ?_|refine oo (Pz rfl (by omega) (by omega)) ?_|refine oo (Pl rfl) ?_|refine oo (Px rfl rfl) ?_|refine oo (Pj rfl (by omega) (by omega)) ?_|refine oo (Pk rfl (by omega) (by omega)) ?_|refine oo (Pf rfl) ?_|refine oo (Pv rfl (by omega) (by omega)) ?_|refine oo (Pn rfl) ?_|refine oo (Ph rfl) ?_|refine oo (Pg rfl (by omega) (by omega)) ?_|refine oo (Pe rfl (by omega) (by omega)) ?_|refine oo (Po rfl (by omega) (by omega)) ?_|refine oo (Pm rfl) ?_|refine os rfl rfl ?_|refine ot rfl (by first|omega|(simp only [wr_length];omega)) ?_|refine O_nil ?_)|refine wo rfl ?_|refine wc rfl ?_|refine wg rfl ?_|refine go rfl ?_|refine gc rfl ?_|refine gg rfl ?_)
      refine W_loop (α := Nat × Nat × List Int) (fun x => [(0, .slice (some ⟨bT, oT, none⟩) lT cT), (1, .slice (some ⟨bS, oS, none⟩) lS cS), (2, .int .i64 (fs : Nat)), (3, .int .i64 T.length), (4, .int .i64 k), (10, .slice (some ⟨bC, 0, none⟩) k k), (11, .slice (some ⟨bB, oB, none⟩) lB cB), (13, .slice (some ⟨bS, oR, none⟩) (lS - (T.length + fs - m)) (cS - (T.length + fs - m))), (18, .int .i64 m), (25, .int .u64 fl), (16, .int .i64 ((x.1 : Int) - 1)), (17, .int .i64 ((x.2.1 : Int) - 1)), (21, .int .i64 name), (22, .int .i64 ((T.length : Int) + (fs : Int) - 2 * (m : Int)))]) (fun x => ⟨true, bS, oS, ints .i64 x.2.2⟩ :: ⟨own, bT, oT, ints .u8 (T.map Nat.cast)⟩ :: ⟨true, bC, 0, ints .i64 C⟩ :: F)
        (fun x => m ≤ x.1 ∧ x.1 ≤ T.length ∧ RaF T m (T.length + fs) f x.1 x.2.1 x.2.2) (fun x => x.1) (m + T.length / 2, m, X) ⟨by dsimp only; omega, by dsimp only; omega, hra⟩ (by (repeat (first | exact trivial | refine ⟨rfl, ?_⟩))) (by repeat (first | exact .rfl | exact .nil | (apply Rk.cons; (· exact TakeI.out)) | refine .drop ?_)) ?_
      clear hra hXl X
      rintro ⟨i, j, X⟩ ⟨hi, hin, hra⟩
      dsimp only at hi hin hra ⊢
      have hXl := hra.len
      have hjm := hra.jm
      by_cases him : m < i
      · obtain ⟨u, rfl⟩ : ∃ u, i = u + 1 := ⟨i - 1, by omega⟩
        rw [show (((u + 1 : Nat) : Int) - 1) = (u : Int) by omega]
        rcases hra.step hf hm h2m (Nat.le_add_right _ _) (show m ≤ u by omega) with ⟨hx, hra'⟩ | ⟨hx, hx0, hx1, j', rfl, hj', hra'⟩
        · repeat' (first|(refine isO ?_;first|refine oo (Pc rfl) ?_|refine oo (Pa rfl (by omega) (by omega)) ?_|(refine ob rfl ?_ ?_<;>intro hq<;>try (exfalso;omega))|refine oo (Pi rfl (by first|omega|(simp only [wr_length];omega))) ?_|refine oo (Pz rfl (by omega) (by omega)) ?_|refine oo (Pl rfl) ?_|refine oo (Px rfl rfl) ?_|refine oo (Pj rfl (by omega) (by omega)) ?_|refine oo (Pk rfl (by omega) (by omega)) ?_|refine oo (Pf rfl) ?_|refine oo (Pv rfl (by omega) (by omega)) ?_|refine oo (Pn rfl) ?_|refine oo (Ph rfl) ?_|refine oo (Pg rfl (by omega) (by omega)) ?_|refine oo (Pe rfl (by omega) (by omega)) ?_|refine oo (Po rfl (by omega) (by omega)) ?_|refine oo (Pm rfl) ?_|refine os rfl rfl ?_|refine ot rfl (by first|omega|(simp only [wr_length];omega)) ?_|refine O_nil ?_)|refine wo rfl ?_|refine wc rfl ?_|refine wg rfl ?_|refine go rfl ?_|refine gc rfl ?_|refine gg rfl ?_)
          exact G_stop ⟨(u, j, X), ⟨by dsimp only; omega, by dsimp only; omega, hra'⟩, by dsimp only; omega, by (repeat (first | exact trivial | refine ⟨rfl, ?_⟩)), .rfl⟩
        · rw [show (((j' + 1 : Nat) : Int) - 1) = (j' : Int) by omega]
          repeat' (first|(refine isO ?_;first|refine oo (Pc rfl) ?_|refine oo (Pa rfl (by omega) (by omega)) ?_|(refine ob rfl ?_ ?_<;>intro hq<;>try (exfalso;omega))|refine oo (Pi rfl (by first|omega|(simp only [wr_length];omega))) ?_|refine oo (Pz rfl (by omega) (by omega)) ?_|refine oo (Pl rfl) ?_|refine oo (Px rfl rfl) ?_|refine oo (Pj rfl (by omega) (by omega)) ?_|refine oo (Pk rfl (by omega) (by omega)) ?_|refine oo (Pf rfl) ?_|refine oo (Pv rfl (by omega) (by omega)) ?_|refine oo (Pn rfl) ?_|refine oo (Ph rfl) ?_|refine oo (Pg rfl (by omega) (by omega)) ?_|refine oo (Pe rfl (by omega) (by omega)) ?_|refine oo (Po rfl (by omega) (by omega)) ?_|refine oo (Pm rfl) ?_|refine os rfl rfl ?_|refine ot rfl (by first|omega|(simp only [wr_length];omega)) ?_|refine O_nil ?_)|refine wo rfl ?_|refine wc rfl ?_|refine wg rfl ?_|refine go rfl ?_|refine gc rfl ?_|refine gg rfl ?_)
          refine ota oS (T.length + fs - m + j') rfl (by rw [hoR, Int.toNat_natCast]; omega) (by omega) ?_
          repeat' (first|(refine isO ?_;first|refine oo (Pc rfl) ?_|refine oo (Pa rfl (by omega) (by omega)) ?_|(refine ob rfl ?_ ?_<;>intro hq<;>try (exfalso;omega))|refine oo (Pi rfl (by first|omega|(simp only [wr_length];omega))) ?_|refine oo (Pz rfl (by omega) (by omega)) ?_|refine oo (Pl rfl) ?_|refine oo (Px rfl rfl) ?_|refine oo (Pj rfl (by omega) (by omega)) ?_|refine oo (Pk rfl (by omega) (by omega)) ?_|refine oo (Pf rfl) ?_|refine oo (Pv rfl (by omega) (by omega)) ?_|refine oo (Pn rfl) ?_|refine oo (Ph rfl) ?_|refine oo (Pg rfl (by omega) (by omega)) ?_|refine oo (Pe rfl (by omega) (by omega)) ?_|refine oo (Po rfl (by omega) (by omega)) ?_|refine oo (Pm rfl) ?_|refine os rfl rfl ?_|refine ot rfl (by first|omega|(simp only [wr_length];omega)) ?_|refine O_nil ?_)|refine wo rfl ?_|refine wc rfl ?_|refine wg rfl ?_|refine go rfl ?_|refine gc rfl ?_|refine gg rfl ?_)
          exact G_stop ⟨(u, j', _), ⟨by dsimp only; omega, by dsimp only; omega, hra'⟩, by dsimp only; omega, by (repeat (first | exact trivial | refine ⟨rfl, ?_⟩)), .rfl⟩
      · obtain rfl : m = i := by omega
        have hj0 : j = 0 := by
          rcases Nat.eq_zero_or_pos j with h | h
          · exact h
          · have := (hra.cnt 0 (by omega)).1 h; omega
        subst hj0
        have hsp := hra.split hf (show m ≤ T.length + fs by omega)
        obtain ⟨X1, hX1⟩ : ∃ X1, X.take (T.length + fs - m) = X1 := ⟨_, rfl⟩
        have hX1l : X1.length = T.length + fs - m := by rw [← hX1, List.length_take]; omega
        rw [hX1] at hsp
        clear hX1
        have hrl : (redT m f).length = m := redT_len m f
        have hrt := hf.txt (by omega) (by omega) hnn
        clear hra
        repeat' (first|(refine isO ?_;first|refine oo (Pc rfl) ?_|refine oo (Pa rfl (by omega) (by omega)) ?_|(refine ob rfl ?_ ?_<;>intro hq<;>try (exfalso;omega))|refine oo (Pi rfl (by first|omega|(simp only [wr_length];omega))) ?_|refine oo (Pz rfl (by omega) (by omega)) ?_|refine oo (Pl rfl) ?_|refine oo (Px rfl rfl) ?_|refine oo (Pj rfl (by omega) (by omega)) ?_|refine oo (Pk rfl (by omega) (by omega)) ?_|refine oo (Pf rfl) ?_|refine oo (Pv rfl (by omega) (by omega)) ?_|refine oo (Pn rfl) ?_|refine oo (Ph rfl) ?_|refine oo (Pg rfl (by omega) (by omega)) ?_|refine oo (Pe rfl (by omega) (by omega)) ?_|refine oo (Po rfl (by omega) (by omega)) ?_|refine oo (Pm rfl) ?_|refine os rfl rfl ?_|refine ot rfl (by first|omega|(simp only [wr_length];omega)) ?_|refine O_nil ?_)|refine wo rfl ?_|refine wc rfl ?_|refine wg rfl ?_|refine go rfl ?_|refine gc rfl ?_|refine gg rfl ?_)
        refine O_re (Rs.split (o2 := oR) (xs := ints .i64 X1) (ys := ints .i64 ((redT m f).map Nat.cast)) (by rw [hsp, ints_append]) (by rw [ints_length, hX1l]; exact hoR)) ?_
        refine O_weak (M' := ⟨true, bS, oR, ints .i64 ((redT m f).map Nat.cast)⟩ :: ⟨true, bS, oS, ints .i64 X1⟩ :: ⟨own, bT, oT, ints .u8 (T.map Nat.cast)⟩ :: ⟨true, bC, 0, ints .i64 C⟩ :: F) (.cons (.tail .head) .rfl) ?_
        have enf : (T.length : Int) + (fs : Int) - 2 * (m : Int) = ((T.length + fs - 2 * m : Nat) : Int) := by omega
        rw [enf]
        refine O_call rfl rfl Tb.k19 trivial rfl (hrec (redT m f) name (T.length + fs - 2 * m) m X1 true bS oR (lS - (T.length + fs - m)) (cS - (T.length + fs - m)) bS oS lS cS (⟨own, bT, oT, ints .u8 (T.map Nat.cast)⟩ :: ⟨true, bC, 0, ints .i64 C⟩ :: F) hrl (by omega) hrt (by omega) (by omega) (by omega) (by omega) (by omega) hcS (Ne.cons htr (Ne.cons hcr hF))) ?_
        rintro _ M' ⟨rfl, X2, hX2l, hSuf, hrk⟩
        refine O_weak hrk ?_
        clear hrk M' hsp hX1l X1 hXl X hrt
        have hX2l : X2.length = T.length + fs - m := by omega
        have hsrt := hf.sort hm hSuf
        have hRA0 : RaL T m (T.length - 1) ((redT m f).map Nat.cast) := ⟨by rw [List.length_map]; exact hrl, fun t h1 h2 => by rw [lmsF_end] at h1; simp at h1; omega⟩
        generalize (redT m f).map (Nat.cast : Nat → Int) = RA at *
        have e1 : rd (T.map Nat.cast) ((T.length : Int) - 1) = (ch T (T.length - 1) : Nat) := by rw [rd_ch', show ((T.length : Int) - 1).toNat = T.length - 1 by omega]
        have e0 : ((T.length : Int) - 1) = ((T.length - 1 : Nat) : Int) := by omega
        have c1 := hlt (T.length - 1)
        repeat' (first|(refine isO ?_;first|refine oo (Pc rfl) ?_|refine oo (Pa rfl (by omega) (by omega)) ?_|(refine ob rfl ?_ ?_<;>intro hq<;>try (exfalso;omega))|refine oo (Pi rfl (by first|omega|(simp only [wr_length];omega))) ?_|refine oo (Pz rfl (by omega) (by omega)) ?_|refine oo (Pl rfl) ?_|refine oo (Px rfl rfl) ?_|refine oo (Pj rfl (by omega) (by omega)) ?_|refine oo (Pk rfl (by omega) (by omega)) ?_|refine oo (Pf rfl) ?_|refine oo (Pv rfl (by omega) (by omega)) ?_|refine oo (Pn rfl) ?_|refine oo (Ph rfl) ?_|refine oo (Pg rfl (by omega) (by omega)) ?_|refine oo (Pe rfl (by omega) (by omega)) ?_|refine oo (Po rfl (by omega) (by omega)) ?_|refine oo (Pm rfl) ?_|refine os rfl rfl ?_|refine ot rfl (by first|omega|(simp only [wr_length];omega)) ?_|refine O_nil ?_)|refine wo rfl ?_|refine wc rfl ?_|refine wg rfl ?_|refine go rfl ?_|refine gc rfl ?_|refine gg rfl ?_)
        rw [e1, e0]
        clear e1 e0 c1 enf
        refine W_join1 (fun E' M' => ∃ (e : Nat) (z : Int), LSc T (T.length - 1) e ∧ (0 < e → z = (ch T (e - 1) : Nat)) ∧ Sub E' [(0, .slice (some ⟨bT, oT, none⟩) lT cT), (1, .slice (some ⟨bS, oS, none⟩) lS cS), (2, .int .i64 (fs : Nat)), (3, .int .i64 T.length), (4, .int .i64 k), (10, .slice (some ⟨bC, 0, none⟩) k k), (11, .slice (some ⟨bB, oB, none⟩) lB cB), (13, .slice (some ⟨bS, oR, none⟩) (lS - (T.length + fs - m)) (cS - (T.length + fs - m))), (18, .int .i64 m), (25, .int .u64 fl), (17, .int .i64 ((m : Int) - 1)), (16, .int .i64 ((e : Int) - 1)), (23, .int .i64 z), (24, .int .i64 (ch T e : Nat))] ∧ Rk M' (⟨true, bS, oR, ints .i64 RA⟩ :: ⟨true, bS, oS, ints .i64 X2⟩ :: ⟨own, bT, oT, ints .u8 (T.map Nat.cast)⟩ :: ⟨true, bC, 0, ints .i64 C⟩ :: F)) ?_ ?_
        · refine W_loop (α := Nat) (fun r => [(0, .slice (some ⟨bT, oT, none⟩) lT cT), (1, .slice (some ⟨bS, oS, none⟩) lS cS), (2, .int .i64 (fs : Nat)), (3, .int .i64 T.length), (4, .int .i64 k), (10, .slice (some ⟨bC, 0, none⟩) k k), (11, .slice (some ⟨bB, oB, none⟩) lB cB), (13, .slice (some ⟨bS, oR, none⟩) (lS - (T.length + fs - m)) (cS - (T.length + fs - m))), (18, .int .i64 m), (25, .int .u64 fl), (17, .int .i64 ((m : Int) - 1)), (16, .int .i64 r), (23, .int .i64 (ch T r : Nat))]) (fun _ => ⟨true, bS, oR, ints .i64 RA⟩ :: ⟨true, bS, oS, ints .i64 X2⟩ :: ⟨own, bT, oT, ints .u8 (T.map Nat.cast)⟩ :: ⟨true, bC, 0, ints .i64 C⟩ :: F) (fun r => LIn T (T.length - 1) r) (fun r => r) (T.length - 1) (.start (not_st_end hn0)) (by (repeat (first | exact trivial | refine ⟨rfl, ?_⟩))) .rfl ?_
          rintro r hr
          (try dsimp only at hr ⊢)
          have hr1 := hr.1
          have hr2 := hlt r
          cases r with
          | zero =>
            repeat' (first|(refine isO ?_;first|refine oo (Pc rfl) ?_|refine oo (Pa rfl (by omega) (by omega)) ?_|(refine ob rfl ?_ ?_<;>intro hq<;>try (exfalso;omega))|refine oo (Pi rfl (by first|omega|(simp only [wr_length];omega))) ?_|refine oo (Pz rfl (by omega) (by omega)) ?_|refine oo (Pl rfl) ?_|refine oo (Px rfl rfl) ?_|refine oo (Pj rfl (by omega) (by omega)) ?_|refine oo (Pk rfl (by omega) (by omega)) ?_|refine oo (Pf rfl) ?_|refine oo (Pv rfl (by omega) (by omega)) ?_|refine oo (Pn rfl) ?_|refine oo (Ph rfl) ?_|refine oo (Pg rfl (by omega) (by omega)) ?_|refine oo (Pe rfl (by omega) (by omega)) ?_|refine oo (Po rfl (by omega) (by omega)) ?_|refine oo (Pm rfl) ?_|refine os rfl rfl ?_|refine ot rfl (by first|omega|(simp only [wr_length];omega)) ?_|refine O_nil ?_)|refine wo rfl ?_|refine wc rfl ?_|refine wg rfl ?_|refine go rfl ?_|refine gc rfl ?_|refine gg rfl ?_)
            exact G_stop ⟨0, (ch T 0 : Nat), ⟨hr, fun h => absurd h (by decide)⟩, fun h => absurd h (by decide), by (repeat (first | exact trivial | refine ⟨rfl, ?_⟩)), .rfl⟩
          | succ u =>
            have e0 : (((u + 1 : Nat) : Int) - 1) = (u : Int) := by omega
            have e1 : rd (T.map Nat.cast) (((u + 1 : Nat) : Int) - 1) = (ch T u : Nat) := by rw [e0]; exact rd_ch T u
            have hr3 := hlt u
            by_cases hc : ch T u < ch T (u + 1)
            · repeat' (first|(refine isO ?_;first|refine oo (Pc rfl) ?_|refine oo (Pa rfl (by omega) (by omega)) ?_|(refine ob rfl ?_ ?_<;>intro hq<;>try (exfalso;omega))|refine oo (Pi rfl (by first|omega|(simp only [wr_length];omega))) ?_|refine oo (Pz rfl (by omega) (by omega)) ?_|refine oo (Pl rfl) ?_|refine oo (Px rfl rfl) ?_|refine oo (Pj rfl (by omega) (by omega)) ?_|refine oo (Pk rfl (by omega) (by omega)) ?_|refine oo (Pf rfl) ?_|refine oo (Pv rfl (by omega) (by omega)) ?_|refine oo (Pn rfl) ?_|refine oo (Ph rfl) ?_|refine oo (Pg rfl (by omega) (by omega)) ?_|refine oo (Pe rfl (by omega) (by omega)) ?_|refine oo (Po rfl (by omega) (by omega)) ?_|refine oo (Pm rfl) ?_|refine os rfl rfl ?_|refine ot rfl (by first|omega|(simp only [wr_length];omega)) ?_|refine O_nil ?_)|refine wo rfl ?_|refine wc rfl ?_|refine wg rfl ?_|refine go rfl ?_|refine gc rfl ?_|refine gg rfl ?_)
              exact G_stop ⟨u + 1, _, hr.stop (by omega) hc, fun _ => e1, by (repeat (first | exact trivial | refine ⟨rfl, ?_⟩)), .rfl⟩
            · repeat' (first|(refine isO ?_;first|refine oo (Pc rfl) ?_|refine oo (Pa rfl (by omega) (by omega)) ?_|(refine ob rfl ?_ ?_<;>intro hq<;>try (exfalso;omega))|refine oo (Pi rfl (by first|omega|(simp only [wr_length];omega))) ?_|refine oo (Pz rfl (by omega) (by omega)) ?_|refine oo (Pl rfl) ?_|refine oo (Px rfl rfl) ?_|refine oo (Pj rfl (by omega) (by omega)) ?_|refine oo (Pk rfl (by omega) (by omega)) ?_|refine oo (Pf rfl) ?_|refine oo (Pv rfl (by omega) (by omega)) ?_|refine oo (Pn rfl) ?_|refine oo (Ph rfl) ?_|refine oo (Pg rfl (by omega) (by omega)) ?_|refine oo (Pe rfl (by omega) (by omega)) ?_|refine oo (Po rfl (by omega) (by omega)) ?_|refine oo (Pm rfl) ?_|refine os rfl rfl ?_|refine ot rfl (by first|omega|(simp only [wr_length];omega)) ?_|refine O_nil ?_)|refine wo rfl ?_|refine wc rfl ?_|refine wg rfl ?_|refine go rfl ?_|refine gc rfl ?_|refine gg rfl ?_)
              rw [e1, e0]
              exact G_stop ⟨u, hr.on (by omega) hc, by (try dsimp only); omega, by (repeat (first | exact trivial | refine ⟨rfl, ?_⟩)), .rfl⟩
        rintro E' M' ⟨e, z, he, hz, hsub, hrk⟩
        refine G_code (W_weak hsub hrk ?_)
        clear hsub hrk E' M'
        have hz1 : lmsF T e = lmsF T (T.length - 1) := (LSc.lms he.1).trans (LSc.lms (LIn.start (not_st_end hn0))).symm
        have hz2 : (lmsF T e).length = 0 := by rw [hz1, lmsF_end]; rfl
        repeat' (first|(refine isO ?_;first|refine oo (Pc rfl) ?_|refine oo (Pa rfl (by omega) (by omega)) ?_|(refine ob rfl ?_ ?_<;>intro hq<;>try (exfalso;omega))|refine oo (Pi rfl (by first|omega|(simp only [wr_length];omega))) ?_|refine oo (Pz rfl (by omega) (by omega)) ?_|refine oo (Pl rfl) ?_|refine oo (Px rfl rfl) ?_|refine oo (Pj rfl (by omega) (by omega)) ?_|refine oo (Pk rfl (by omega) (by omega)) ?_|refine oo (Pf rfl) ?_|refine oo (Pv rfl (by omega) (by omega)) ?_|refine oo (Pn rfl) ?_|refine oo (Ph rfl) ?_|refine oo (Pg rfl (by omega) (by omega)) ?_|refine oo (Pe rfl (by omega) (by omega)) ?_|refine oo (Po rfl (by omega) (by omega)) ?_|refine oo (Pm rfl) ?_|refine os rfl rfl ?_|refine ot rfl (by first|omega|(simp only [wr_length];omega)) ?_|refine O_nil ?_)|refine wo rfl ?_|refine wc rfl ?_|refine wg rfl ?_|refine go rfl ?_|refine gc rfl ?_|refine gg rfl ?_)
        refine W_loop (α := Nat × Int × List Int) (fun x => [(0, .slice (some ⟨bT, oT, none⟩) lT cT), (1, .slice (some ⟨bS, oS, none⟩) lS cS), (2, .int .i64 (fs : Nat)), (3, .int .i64 T.length), (4, .int .i64 k), (10, .slice (some ⟨bC, 0, none⟩) k k), (11, .slice (some ⟨bB, oB, none⟩) lB cB), (13, .slice (some ⟨bS, oR, none⟩) (lS - (T.length + fs - m)) (cS - (T.length + fs - m))), (18, .int .i64 m), (25, .int .u64 fl), (17, .int .i64 ((m : Int) - 1 - ((lmsF T x.1).length : Nat))), (16, .int .i64 ((x.1 : Int) - 1)), (23, .int .i64 x.2.1)]) (fun x => ⟨true, bS, oR, ints .i64 x.2.2⟩ :: ⟨true, bS, oS, ints .i64 X2⟩ :: ⟨own, bT, oT, ints .u8 (T.map Nat.cast)⟩ :: ⟨true, bC, 0, ints .i64 C⟩ :: F)
          (fun x => x.1 < T.length ∧ (0 < x.1 → x.2.1 = (ch T (x.1 - 1) : Nat) ∧ Sais.St T (x.1 - 1)) ∧ RaL T m x.1 x.2.2) (fun x => x.1) (e, z, RA) ⟨by have := he.1.1; dsimp only; omega, fun h => ⟨hz h, he.2 h⟩, hRA0.same hz1⟩ (by dsimp only; rw [hz2, show (m : Int) - 1 - ((0 : Nat) : Int) = (m : Int) - 1 by omega]; (repeat (first | exact trivial | refine ⟨rfl, ?_⟩))) .rfl ?_
        clear hz1 hz2 hz he hRA0 e z RA
        rintro ⟨f', z, RA⟩ ⟨hf', hz, hRA⟩
        dsimp only at hf' hz hRA ⊢
        have hRl := hRA.1
        cases f' with
        | succ u =>
          obtain ⟨hz1, hs⟩ := hz (by omega)
          rw [Nat.add_sub_cancel] at hz1 hs
          subst hz1
          rw [show (((u + 1 : Nat) : Int) - 1) = (u : Int) by omega]
          have c1 := hlt u
          have hll : (lmsF T (u + 1)).length ≤ m := by
            have := lmsF_suffix T (u + 1)
            obtain ⟨pre, hp⟩ := this
            rw [hm, hp, List.length_append]; omega
          repeat' (first|(refine isO ?_;first|refine oo (Pc rfl) ?_|refine oo (Pa rfl (by omega) (by omega)) ?_|(refine ob rfl ?_ ?_<;>intro hq<;>try (exfalso;omega))|refine oo (Pi rfl (by first|omega|(simp only [wr_length];omega))) ?_|refine oo (Pz rfl (by omega) (by omega)) ?_|refine oo (Pl rfl) ?_|refine oo (Px rfl rfl) ?_|refine oo (Pj rfl (by omega) (by omega)) ?_|refine oo (Pk rfl (by omega) (by omega)) ?_|refine oo (Pf rfl) ?_|refine oo (Pv rfl (by omega) (by omega)) ?_|refine oo (Pn rfl) ?_|refine oo (Ph rfl) ?_|refine oo (Pg rfl (by omega) (by omega)) ?_|refine oo (Pe rfl (by omega) (by omega)) ?_|refine oo (Po rfl (by omega) (by omega)) ?_|refine oo (Pm rfl) ?_|refine os rfl rfl ?_|refine ot rfl (by first|omega|(simp only [wr_length];omega)) ?_|refine O_nil ?_)|refine wo rfl ?_|refine wc rfl ?_|refine wg rfl ?_|refine go rfl ?_|refine gc rfl ?_|refine gg rfl ?_)
          refine W_join1 (fun E' M' => ∃ (e : Nat) (z : Int), SSc T (u) e ∧ (0 < e → z = (ch T (e - 1) : Nat)) ∧ Sub E' [(0, .slice (some ⟨bT, oT, none⟩) lT cT), (1, .slice (some ⟨bS, oS, none⟩) lS cS), (2, .int .i64 (fs : Nat)), (3, .int .i64 T.length), (4, .int .i64 k), (10, .slice (some ⟨bC, 0, none⟩) k k), (11, .slice (some ⟨bB, oB, none⟩) lB cB), (13, .slice (some ⟨bS, oR, none⟩) (lS - (T.length + fs - m)) (cS - (T.length + fs - m))), (18, .int .i64 m), (25, .int .u64 fl), (17, .int .i64 ((m : Int) - 1 - ((lmsF T (u + 1)).length : Nat))), (16, .int .i64 ((e : Int) - 1)), (23, .int .i64 z), (24, .int .i64 (ch T e : Nat))] ∧ Rk M' (⟨true, bS, oR, ints .i64 RA⟩ :: ⟨true, bS, oS, ints .i64 X2⟩ :: ⟨own, bT, oT, ints .u8 (T.map Nat.cast)⟩ :: ⟨true, bC, 0, ints .i64 C⟩ :: F)) ?_ ?_
          · refine W_loop (α := Nat) (fun r => [(0, .slice (some ⟨bT, oT, none⟩) lT cT), (1, .slice (some ⟨bS, oS, none⟩) lS cS), (2, .int .i64 (fs : Nat)), (3, .int .i64 T.length), (4, .int .i64 k), (10, .slice (some ⟨bC, 0, none⟩) k k), (11, .slice (some ⟨bB, oB, none⟩) lB cB), (13, .slice (some ⟨bS, oR, none⟩) (lS - (T.length + fs - m)) (cS - (T.length + fs - m))), (18, .int .i64 m), (25, .int .u64 fl), (17, .int .i64 ((m : Int) - 1 - ((lmsF T (u + 1)).length : Nat))), (16, .int .i64 r), (23, .int .i64 (ch T r : Nat))]) (fun _ => ⟨true, bS, oR, ints .i64 RA⟩ :: ⟨true, bS, oS, ints .i64 X2⟩ :: ⟨own, bT, oT, ints .u8 (T.map Nat.cast)⟩ :: ⟨true, bC, 0, ints .i64 C⟩ :: F) (fun r => SIn T (u) r) (fun r => r) (u) (.start hs) (by (repeat (first | exact trivial | refine ⟨rfl, ?_⟩))) .rfl ?_
            rintro r hr
            (try dsimp only at hr ⊢)
            have hr1 := hr.1
            have hr2 := hlt r
            cases r with
            | zero =>
              repeat' (first|(refine isO ?_;first|refine oo (Pc rfl) ?_|refine oo (Pa rfl (by omega) (by omega)) ?_|(refine ob rfl ?_ ?_<;>intro hq<;>try (exfalso;omega))|refine oo (Pi rfl (by first|omega|(simp only [wr_length];omega))) ?_|refine oo (Pz rfl (by omega) (by omega)) ?_|refine oo (Pl rfl) ?_|refine oo (Px rfl rfl) ?_|refine oo (Pj rfl (by omega) (by omega)) ?_|refine oo (Pk rfl (by omega) (by omega)) ?_|refine oo (Pf rfl) ?_|refine oo (Pv rfl (by omega) (by omega)) ?_|refine oo (Pn rfl) ?_|refine oo (Ph rfl) ?_|refine oo (Pg rfl (by omega) (by omega)) ?_|refine oo (Pe rfl (by omega) (by omega)) ?_|refine oo (Po rfl (by omega) (by omega)) ?_|refine oo (Pm rfl) ?_|refine os rfl rfl ?_|refine ot rfl (by first|omega|(simp only [wr_length];omega)) ?_|refine O_nil ?_)|refine wo rfl ?_|refine wc rfl ?_|refine wg rfl ?_|refine go rfl ?_|refine gc rfl ?_|refine gg rfl ?_)
              exact G_stop ⟨0, (ch T 0 : Nat), ⟨hr, fun h => absurd h (by decide)⟩, fun h => absurd h (by decide), by (repeat (first | exact trivial | refine ⟨rfl, ?_⟩)), .rfl⟩
            | succ u =>
              have e0 : (((u + 1 : Nat) : Int) - 1) = (u : Int) := by omega
              have e1 : rd (T.map Nat.cast) (((u + 1 : Nat) : Int) - 1) = (ch T u : Nat) := by rw [e0]; exact rd_ch T u
              have hr3 := hlt u
              by_cases hc : ch T (u + 1) < ch T u
              · repeat' (first|(refine isO ?_;first|refine oo (Pc rfl) ?_|refine oo (Pa rfl (by omega) (by omega)) ?_|(refine ob rfl ?_ ?_<;>intro hq<;>try (exfalso;omega))|refine oo (Pi rfl (by first|omega|(simp only [wr_length];omega))) ?_|refine oo (Pz rfl (by omega) (by omega)) ?_|refine oo (Pl rfl) ?_|refine oo (Px rfl rfl) ?_|refine oo (Pj rfl (by omega) (by omega)) ?_|refine oo (Pk rfl (by omega) (by omega)) ?_|refine oo (Pf rfl) ?_|refine oo (Pv rfl (by omega) (by omega)) ?_|refine oo (Pn rfl) ?_|refine oo (Ph rfl) ?_|refine oo (Pg rfl (by omega) (by omega)) ?_|refine oo (Pe rfl (by omega) (by omega)) ?_|refine oo (Po rfl (by omega) (by omega)) ?_|refine oo (Pm rfl) ?_|refine os rfl rfl ?_|refine ot rfl (by first|omega|(simp only [wr_length];omega)) ?_|refine O_nil ?_)|refine wo rfl ?_|refine wc rfl ?_|refine wg rfl ?_|refine go rfl ?_|refine gc rfl ?_|refine gg rfl ?_)
                exact G_stop ⟨u + 1, _, hr.stop (by omega) hc, fun _ => e1, by (repeat (first | exact trivial | refine ⟨rfl, ?_⟩)), .rfl⟩
              · repeat' (first|(refine isO ?_;first|refine oo (Pc rfl) ?_|refine oo (Pa rfl (by omega) (by omega)) ?_|(refine ob rfl ?_ ?_<;>intro hq<;>try (exfalso;omega))|refine oo (Pi rfl (by first|omega|(simp only [wr_length];omega))) ?_|refine oo (Pz rfl (by omega) (by omega)) ?_|refine oo (Pl rfl) ?_|refine oo (Px rfl rfl) ?_|refine oo (Pj rfl (by omega) (by omega)) ?_|refine oo (Pk rfl (by omega) (by omega)) ?_|refine oo (Pf rfl) ?_|refine oo (Pv rfl (by omega) (by omega)) ?_|refine oo (Pn rfl) ?_|refine oo (Ph rfl) ?_|refine oo (Pg rfl (by omega) (by omega)) ?_|refine oo (Pe rfl (by omega) (by omega)) ?_|refine oo (Po rfl (by omega) (by omega)) ?_|refine oo (Pm rfl) ?_|refine os rfl rfl ?_|refine ot rfl (by first|omega|(simp only [wr_length];omega)) ?_|refine O_nil ?_)|refine wo rfl ?_|refine wc rfl ?_|refine wg rfl ?_|refine go rfl ?_|refine gc rfl ?_|refine gg rfl ?_)
                rw [e1, e0]
                exact G_stop ⟨u, hr.on (by omega) hc, by (try dsimp only); omega, by (repeat (first | exact trivial | refine ⟨rfl, ?_⟩)), .rfl⟩
          rintro E' M' ⟨e, z, he, hz, hsub, hrk⟩
          refine G_code (W_weak hsub hrk ?_)
          clear hsub hrk E' M'
          have he1 := he.1.1
          cases e with
          | zero =>
            repeat' (first|(refine isO ?_;first|refine oo (Pc rfl) ?_|refine oo (Pa rfl (by omega) (by omega)) ?_|(refine ob rfl ?_ ?_<;>intro hq<;>try (exfalso;omega))|refine oo (Pi rfl (by first|omega|(simp only [wr_length];omega))) ?_|refine oo (Pz rfl (by omega) (by omega)) ?_|refine oo (Pl rfl) ?_|refine oo (Px rfl rfl) ?_|refine oo (Pj rfl (by omega) (by omega)) ?_|refine oo (Pk rfl (by omega) (by omega)) ?_|refine oo (Pf rfl) ?_|refine oo (Pv rfl (by omega) (by omega)) ?_|refine oo (Pn rfl) ?_|refine oo (Ph rfl) ?_|refine oo (Pg rfl (by omega) (by omega)) ?_|refine oo (Pe rfl (by omega) (by omega)) ?_|refine oo (Po rfl (by omega) (by omega)) ?_|refine oo (Pm rfl) ?_|refine os rfl rfl ?_|refine ot rfl (by first|omega|(simp only [wr_length];omega)) ?_|refine O_nil ?_)|refine wo rfl ?_|refine wc rfl ?_|refine wg rfl ?_|refine go rfl ?_|refine gc rfl ?_|refine gg rfl ?_)
            exact G_stop ⟨(0, z, RA), ⟨by dsimp only; omega, fun h => by dsimp only at h; omega, hRA.same he.none⟩, by dsimp only; omega, by dsimp only; rw [he.none]; (repeat (first | exact trivial | refine ⟨rfl, ?_⟩)), .rfl⟩
          | succ h =>
            obtain ⟨hl1, hl2⟩ := he.lms (by omega)
            have hz := hz (by omega)
            have hnl := he.2 (by omega)
            rw [Nat.add_sub_cancel] at hz hnl
            subst hz
            rw [show (((h + 1 : Nat) : Int) - 1) = (h : Int) by omega]
            have hl3 := lms_lt hl2
            obtain ⟨hl4, hl5⟩ := hRA.step hm hl1
            have e2 : (m : Int) - 1 - ((lmsF T (u + 1)).length : Nat) = ((m - 1 - (lmsF T (u + 1)).length : Nat) : Int) := by omega
            have e3 : (h : Int) + 1 = ((h + 1 : Nat) : Int) := rfl
            have c2 := hlt h
            have hl6 : (lmsF T (h + 1)).length = (lmsF T (u + 1)).length + 1 := by rw [hl1]; rfl
            repeat' (first|(refine isO ?_;first|refine oo (Pc rfl) ?_|refine oo (Pa rfl (by omega) (by omega)) ?_|(refine ob rfl ?_ ?_<;>intro hq<;>try (exfalso;omega))|refine oo (Pi rfl (by first|omega|(simp only [wr_length];omega))) ?_|refine oo (Pz rfl (by omega) (by omega)) ?_|refine oo (Pl rfl) ?_|refine oo (Px rfl rfl) ?_|refine oo (Pj rfl (by omega) (by omega)) ?_|refine oo (Pk rfl (by omega) (by omega)) ?_|refine oo (Pf rfl) ?_|refine oo (Pv rfl (by omega) (by omega)) ?_|refine oo (Pn rfl) ?_|refine oo (Ph rfl) ?_|refine oo (Pg rfl (by omega) (by omega)) ?_|refine oo (Pe rfl (by omega) (by omega)) ?_|refine oo (Po rfl (by omega) (by omega)) ?_|refine oo (Pm rfl) ?_|refine os rfl rfl ?_|refine ot rfl (by first|omega|(simp only [wr_length];omega)) ?_|refine O_nil ?_)|refine wo rfl ?_|refine wc rfl ?_|refine wg rfl ?_|refine go rfl ?_|refine gc rfl ?_|refine gg rfl ?_)
            rw [e2]
            refine W_join1 (fun E' M' => ∃ (e : Nat) (z : Int), LSc T (h) e ∧ (0 < e → z = (ch T (e - 1) : Nat)) ∧ Sub E' [(0, .slice (some ⟨bT, oT, none⟩) lT cT), (1, .slice (some ⟨bS, oS, none⟩) lS cS), (2, .int .i64 (fs : Nat)), (3, .int .i64 T.length), (4, .int .i64 k), (10, .slice (some ⟨bC, 0, none⟩) k k), (11, .slice (some ⟨bB, oB, none⟩) lB cB), (13, .slice (some ⟨bS, oR, none⟩) (lS - (T.length + fs - m)) (cS - (T.length + fs - m))), (18, .int .i64 m), (25, .int .u64 fl), (17, .int .i64 (((m - 1 - (lmsF T (u + 1)).length : Nat) : Int) - 1)), (16, .int .i64 ((e : Int) - 1)), (23, .int .i64 z), (24, .int .i64 (ch T e : Nat))] ∧ Rk M' (⟨true, bS, oR, ints .i64 (wr RA ((m - 1 - (lmsF T (u + 1)).length : Nat) : Int) ((h : Int) + 1))⟩ :: ⟨true, bS, oS, ints .i64 X2⟩ :: ⟨own, bT, oT, ints .u8 (T.map Nat.cast)⟩ :: ⟨true, bC, 0, ints .i64 C⟩ :: F)) ?_ ?_
            · refine W_loop (α := Nat) (fun r => [(0, .slice (some ⟨bT, oT, none⟩) lT cT), (1, .slice (some ⟨bS, oS, none⟩) lS cS), (2, .int .i64 (fs : Nat)), (3, .int .i64 T.length), (4, .int .i64 k), (10, .slice (some ⟨bC, 0, none⟩) k k), (11, .slice (some ⟨bB, oB, none⟩) lB cB), (13, .slice (some ⟨bS, oR, none⟩) (lS - (T.length + fs - m)) (cS - (T.length + fs - m))), (18, .int .i64 m), (25, .int .u64 fl), (17, .int .i64 (((m - 1 - (lmsF T (u + 1)).length : Nat) : Int) - 1)), (16, .int .i64 r), (23, .int .i64 (ch T r : Nat))]) (fun _ => ⟨true, bS, oR, ints .i64 (wr RA ((m - 1 - (lmsF T (u + 1)).length : Nat) : Int) ((h : Int) + 1))⟩ :: ⟨true, bS, oS, ints .i64 X2⟩ :: ⟨own, bT, oT, ints .u8 (T.map Nat.cast)⟩ :: ⟨true, bC, 0, ints .i64 C⟩ :: F) (fun r => LIn T (h) r) (fun r => r) (h) (.start hnl) (by (repeat (first | exact trivial | refine ⟨rfl, ?_⟩))) .rfl ?_
              rintro r hr
              (try dsimp only at hr ⊢)
              have hr1 := hr.1
              have hr2 := hlt r
              cases r with
              | zero =>
                repeat' (first|(refine isO ?_;first|refine oo (Pc rfl) ?_|refine oo (Pa rfl (by omega) (by omega)) ?_|(refine ob rfl ?_ ?_<;>intro hq<;>try (exfalso;omega))|refine oo (Pi rfl (by first|omega|(simp only [wr_length];omega))) ?_|refine oo (Pz rfl (by omega) (by omega)) ?_|refine oo (Pl rfl) ?_|refine oo (Px rfl rfl) ?_|refine oo (Pj rfl (by omega) (by omega)) ?_|refine oo (Pk rfl (by omega) (by omega)) ?_|refine oo (Pf rfl) ?_|refine oo (Pv rfl (by omega) (by omega)) ?_|refine oo (Pn rfl) ?_|refine oo (Ph rfl) ?_|refine oo (Pg rfl (by omega) (by omega)) ?_|refine oo (Pe rfl (by omega) (by omega)) ?_|refine oo (Po rfl (by omega) (by omega)) ?_|refine oo (Pm rfl) ?_|refine os rfl rfl ?_|refine ot rfl (by first|omega|(simp only [wr_length];omega)) ?_|refine O_nil ?_)|refine wo rfl ?_|refine wc rfl ?_|refine wg rfl ?_|refine go rfl ?_|refine gc rfl ?_|refine gg rfl ?_)
                exact G_stop ⟨0, (ch T 0 : Nat), ⟨hr, fun h => absurd h (by decide)⟩, fun h => absurd h (by decide), by (repeat (first | exact trivial | refine ⟨rfl, ?_⟩)), .rfl⟩
              | succ u =>
                have e0 : (((u + 1 : Nat) : Int) - 1) = (u : Int) := by omega
                have e1 : rd (T.map Nat.cast) (((u + 1 : Nat) : Int) - 1) = (ch T u : Nat) := by rw [e0]; exact rd_ch T u
                have hr3 := hlt u
                by_cases hc : ch T u < ch T (u + 1)
                · repeat' (first|(refine isO ?_;first|refine oo (Pc rfl) ?_|refine oo (Pa rfl (by omega) (by omega)) ?_|(refine ob rfl ?_ ?_<;>intro hq<;>try (exfalso;omega))|refine oo (Pi rfl (by first|omega|(simp only [wr_length];omega))) ?_|refine oo (Pz rfl (by omega) (by omega)) ?_|refine oo (Pl rfl) ?_|refine oo (Px rfl rfl) ?_|refine oo (Pj rfl (by omega) (by omega)) ?_|refine oo (Pk rfl (by omega) (by omega)) ?_|refine oo (Pf rfl) ?_|refine oo (Pv rfl (by omega) (by omega)) ?_|refine oo (Pn rfl) ?_|refine oo (Ph rfl) ?_|refine oo (Pg rfl (by omega) (by omega)) ?_|refine oo (Pe rfl (by omega) (by omega)) ?_|refine oo (Po rfl (by omega) (by omega)) ?_|refine oo (Pm rfl) ?_|refine os rfl rfl ?_|refine ot rfl (by first|omega|(simp only [wr_length];omega)) ?_|refine O_nil ?_)|refine wo rfl ?_|refine wc rfl ?_|refine wg rfl ?_|refine go rfl ?_|refine gc rfl ?_|refine gg rfl ?_)
                  exact G_stop ⟨u + 1, _, hr.stop (by omega) hc, fun _ => e1, by (repeat (first | exact trivial | refine ⟨rfl, ?_⟩)), .rfl⟩
                · repeat' (first|(refine isO ?_;first|refine oo (Pc rfl) ?_|refine oo (Pa rfl (by omega) (by omega)) ?_|(refine ob rfl ?_ ?_<;>intro hq<;>try (exfalso;omega))|refine oo (Pi rfl (by first|omega|(simp only [wr_length];omega))) ?_|refine oo (Pz rfl (by omega) (by omega)) ?_|refine oo (Pl rfl) ?_|refine oo (Px rfl rfl) ?_|refine oo (Pj rfl (by omega) (by omega)) ?_|refine oo (Pk rfl (by omega) (by omega)) ?_|refine oo (Pf rfl) ?_|refine oo (Pv rfl (by omega) (by omega)) ?_|refine oo (Pn rfl) ?_|refine oo (Ph rfl) ?_|refine oo (Pg rfl (by omega) (by omega)) ?_|refine oo (Pe rfl (by omega) (by omega)) ?_|refine oo (Po rfl (by omega) (by omega)) ?_|refine oo (Pm rfl) ?_|refine os rfl rfl ?_|refine ot rfl (by first|omega|(simp only [wr_length];omega)) ?_|refine O_nil ?_)|refine wo rfl ?_|refine wc rfl ?_|refine wg rfl ?_|refine go rfl ?_|refine gc rfl ?_|refine gg rfl ?_)
                  rw [e1, e0]
                  exact G_stop ⟨u, hr.on (by omega) hc, by (try dsimp only); omega, by (repeat (first | exact trivial | refine ⟨rfl, ?_⟩)), .rfl⟩
            rintro E' M' ⟨e, z, he', hz, hsub, hrk⟩
            have he2 := he'.1.1
            have hz1 : lmsF T e = lmsF T (h + 1) := LSc.lms he'.1
            have hz2 : (m : Int) - 1 - ((lmsF T e).length : Nat) = ((m - 1 - (lmsF T (u + 1)).length : Nat) : Int) - 1 := by rw [hz1, hl6]; omega
            exact G_blk (G_stop ⟨(e, z, _), ⟨by dsimp only; omega, fun h => ⟨hz h, he'.2 h⟩, hl5.same hz1⟩, by dsimp only; omega, hsub.trans (by dsimp only; rw [hz2]; (repeat (first | exact trivial | refine ⟨rfl, ?_⟩))), hrk⟩)
        | zero =>
          clear hz
          have hps : ∀ t, t < m → rd RA (t : Int) = (ch (lmsF T 0) t : Nat) := fun t ht => hRA.2 t (by omega) ht
          repeat' (first|(refine isO ?_;first|refine oo (Pc rfl) ?_|refine oo (Pa rfl (by omega) (by omega)) ?_|(refine ob rfl ?_ ?_<;>intro hq<;>try (exfalso;omega))|refine oo (Pi rfl (by first|omega|(simp only [wr_length];omega))) ?_|refine oo (Pz rfl (by omega) (by omega)) ?_|refine oo (Pl rfl) ?_|refine oo (Px rfl rfl) ?_|refine oo (Pj rfl (by omega) (by omega)) ?_|refine oo (Pk rfl (by omega) (by omega)) ?_|refine oo (Pf rfl) ?_|refine oo (Pv rfl (by omega) (by omega)) ?_|refine oo (Pn rfl) ?_|refine oo (Ph rfl) ?_|refine oo (Pg rfl (by omega) (by omega)) ?_|refine oo (Pe rfl (by omega) (by omega)) ?_|refine oo (Po rfl (by omega) (by omega)) ?_|refine oo (Pm rfl) ?_|refine os rfl rfl ?_|refine ot rfl (by first|omega|(simp only [wr_length];omega)) ?_|refine O_nil ?_)|refine wo rfl ?_|refine wc rfl ?_|refine wg rfl ?_|refine go rfl ?_|refine gc rfl ?_|refine gg rfl ?_)
          have hat : ∀ i, i < m → ∃ v, v < m ∧ rd X2 (i : Int) = (v : Nat) := fun i hi => by
            obtain ⟨v, hv, e⟩ := hSuf.at' i (by rw [redT_len]; exact hi)
            rw [redT_len] at hv
            exact ⟨v, hv, e⟩
          refine W_loop (α := Nat × List Int) (fun x => [(0, .slice (some ⟨bT, oT, none⟩) lT cT), (1, .slice (some ⟨bS, oS, none⟩) lS cS), (2, .int .i64 (fs : Nat)), (3, .int .i64 T.length), (4, .int .i64 k), (10, .slice (some ⟨bC, 0, none⟩) k k), (11, .slice (some ⟨bB, oB, none⟩) lB cB), (13, .slice (some ⟨bS, oR, none⟩) (lS - (T.length + fs - m)) (cS - (T.length + fs - m))), (18, .int .i64 m), (25, .int .u64 fl), (16, .int .i64 x.1)]) (fun x => ⟨true, bS, oR, ints .i64 RA⟩ :: ⟨true, bS, oS, ints .i64 x.2⟩ :: ⟨own, bT, oT, ints .u8 (T.map Nat.cast)⟩ :: ⟨true, bC, 0, ints .i64 C⟩ :: F)
            (fun x => x.1 ≤ m ∧ x.2.length = T.length + fs - m ∧ (∀ a, a < x.1 → rd x.2 (a : Int) = (ch (lmsF T 0) (rd X2 (a : Int)).toNat : Nat)) ∧ ∀ a, x.1 ≤ a → a < m → rd x.2 (a : Int) = rd X2 (a : Int)) (fun x => m - x.1) (0, X2) ⟨Nat.zero_le _, hX2l, fun a ha => by omega, fun a _ _ => rfl⟩ (by (repeat (first | exact trivial | refine ⟨rfl, ?_⟩))) .rfl ?_
          clear hRA hf' hX2l
          rintro ⟨i, X⟩ ⟨hi, hXl, ha, hb⟩
          dsimp only at hi hXl ha hb ⊢
          by_cases him : i < m
          · obtain ⟨v, hv, e⟩ := hat i him
            have e4 : rd X i = (v : Int) := by rw [hb i (Nat.le_refl _) him, e]
            have e5 : rd RA (rd X i) = (ch (lmsF T 0) v : Nat) := by rw [e4]; exact hps v hv
            repeat' (first|(refine isO ?_;first|refine oo (Pc rfl) ?_|refine oo (Pa rfl (by omega) (by omega)) ?_|(refine ob rfl ?_ ?_<;>intro hq<;>try (exfalso;omega))|refine oo (Pi rfl (by first|omega|(simp only [wr_length];omega))) ?_|refine oo (Pz rfl (by omega) (by omega)) ?_|refine oo (Pl rfl) ?_|refine oo (Px rfl rfl) ?_|refine oo (Pj rfl (by omega) (by omega)) ?_|refine oo (Pk rfl (by omega) (by omega)) ?_|refine oo (Pf rfl) ?_|refine oo (Pv rfl (by omega) (by omega)) ?_|refine oo (Pn rfl) ?_|refine oo (Ph rfl) ?_|refine oo (Pg rfl (by omega) (by omega)) ?_|refine oo (Pe rfl (by omega) (by omega)) ?_|refine oo (Po rfl (by omega) (by omega)) ?_|refine oo (Pm rfl) ?_|refine os rfl rfl ?_|refine ot rfl (by first|omega|(simp only [wr_length];omega)) ?_|refine O_nil ?_)|refine wo rfl ?_|refine wc rfl ?_|refine wg rfl ?_|refine go rfl ?_|refine gc rfl ?_|refine gg rfl ?_)
            rw [e5]
            refine G_stop ⟨(i + 1, wr X i (ch (lmsF T 0) v : Nat)), ⟨by dsimp only; omega, by dsimp only; rw [wr_length]; exact hXl, fun a h1 => ?_, fun a h1 h2 => ?_⟩, by dsimp only; omega, by (repeat (first | exact trivial | refine ⟨rfl, ?_⟩)), .rfl⟩
            · dsimp only at h1 ⊢
              rw [Sais.rd_wr (by omega)]
              by_cases e6 : a = i
              · rw [e6, if_pos rfl, e, Int.toNat_natCast]
              · rw [if_neg e6]; exact ha a (by omega)
            · dsimp only at h1 ⊢
              rw [Sais.rd_wr (by omega), if_neg (by omega)]; exact hb a (by omega) h2
          · obtain rfl : m = i := by omega
            have hb2 := hL.lB
            repeat' (first|(refine isO ?_;first|refine oo (Pc rfl) ?_|refine oo (Pa rfl (by omega) (by omega)) ?_|(refine ob rfl ?_ ?_<;>intro hq<;>try (exfalso;omega))|refine oo (Pi rfl (by first|omega|(simp only [wr_length];omega))) ?_|refine oo (Pz rfl (by omega) (by omega)) ?_|refine oo (Pl rfl) ?_|refine oo (Px rfl rfl) ?_|refine oo (Pj rfl (by omega) (by omega)) ?_|refine oo (Pk rfl (by omega) (by omega)) ?_|refine oo (Pf rfl) ?_|refine oo (Pv rfl (by omega) (by omega)) ?_|refine oo (Pn rfl) ?_|refine oo (Ph rfl) ?_|refine oo (Pg rfl (by omega) (by omega)) ?_|refine oo (Pe rfl (by omega) (by omega)) ?_|refine oo (Po rfl (by omega) (by omega)) ?_|refine oo (Pm rfl) ?_|refine os rfl rfl ?_|refine ot rfl (by first|omega|(simp only [wr_length];omega)) ?_|refine O_nil ?_)|refine wo rfl ?_|refine wc rfl ?_|refine wg rfl ?_|refine go rfl ?_|refine gc rfl ?_|refine gg rfl ?_)
            refine O_re (Rs.trans (.of (.cons (.tail .head) (.cons .head .rfl))) (Rs.join (l := ints .i64 (X ++ RA)) (ints_append _ _ _) (by rw [ints_length, hXl]; exact hoR) (Ne.cons htr (Ne.cons hcr hF)))) ?_
            have hYl : (X ++ RA).length = T.length + fs := by rw [List.length_append]; omega
            have hY : ∀ a, a < m → rd (X ++ RA) (a : Int) = (ch (lmsF T 0) (rd X2 (a : Int)).toNat : Nat) := fun a h1 => by rw [rd_left (by omega)]; exact ha a h1
            generalize X ++ RA = Y at *
            clear ha hb hps hat hXl hRl
            have hcs : (2 ≤ m ∧ ∃ L, SrtS T L ∧ L.length = m ∧ (Y.take T.length).length = T.length ∧ ∀ a, a < m → rd (Y.take T.length) (a : Int) = (ch L a : Nat)) := by
              refine ⟨hm2, _, hsrt, by rw [List.length_map, List.length_range], by rw [List.length_take]; omega, fun a h1 => ?_⟩
              rw [rd_take (by omega), hY a h1]
              congr 1
              unfold ch
              simp [h1]
            refine oo (Pfl rfl hfl.and4) ?_
            repeat' (first|(refine isO ?_;first|refine oo (Pc rfl) ?_|refine oo (Pa rfl (by omega) (by omega)) ?_|(refine ob rfl ?_ ?_<;>intro hq<;>try (exfalso;omega))|refine oo (Pi rfl (by first|omega|(simp only [wr_length];omega))) ?_|refine oo (Pz rfl (by omega) (by omega)) ?_|refine oo (Pl rfl) ?_|refine oo (Px rfl rfl) ?_|refine oo (Pj rfl (by omega) (by omega)) ?_|refine oo (Pk rfl (by omega) (by omega)) ?_|refine oo (Pf rfl) ?_|refine oo (Pv rfl (by omega) (by omega)) ?_|refine oo (Pn rfl) ?_|refine oo (Ph rfl) ?_|refine oo (Pg rfl (by omega) (by omega)) ?_|refine oo (Pe rfl (by omega) (by omega)) ?_|refine oo (Po rfl (by omega) (by omega)) ?_|refine oo (Pm rfl) ?_|refine os rfl rfl ?_|refine ot rfl (by first|omega|(simp only [wr_length];omega)) ?_|refine O_nil ?_)|refine wo rfl ?_|refine wc rfl ?_|refine wg rfl ?_|refine go rfl ?_|refine gc rfl ?_|refine gg rfl ?_)
            refine oo (Pfl rfl hfl.and2) ?_
            cases c2 with
            | true =>
              rw [if_pos rfl]
              repeat' (first|(refine isO ?_;first|refine oo (Pc rfl) ?_|refine oo (Pa rfl (by omega) (by omega)) ?_|(refine ob rfl ?_ ?_<;>intro hq<;>try (exfalso;omega))|refine oo (Pi rfl (by first|omega|(simp only [wr_length];omega))) ?_|refine oo (Pz rfl (by omega) (by omega)) ?_|refine oo (Pl rfl) ?_|refine oo (Px rfl rfl) ?_|refine oo (Pj rfl (by omega) (by omega)) ?_|refine oo (Pk rfl (by omega) (by omega)) ?_|refine oo (Pf rfl) ?_|refine oo (Pv rfl (by omega) (by omega)) ?_|refine oo (Pn rfl) ?_|refine oo (Ph rfl) ?_|refine oo (Pg rfl (by omega) (by omega)) ?_|refine oo (Pe rfl (by omega) (by omega)) ?_|refine oo (Po rfl (by omega) (by omega)) ?_|refine oo (Pm rfl) ?_|refine os rfl rfl ?_|refine ot rfl (by first|omega|(simp only [wr_length];omega)) ?_|refine O_nil ?_)|refine wo rfl ?_|refine wc rfl ?_|refine wg rfl ?_|refine go rfl ?_|refine gc rfl ?_|refine gg rfl ?_)
              have hg := hL.own rfl
              refine O_make25 (n := k) rfl (by omega) trivial rfl fun b' hb' => ?_
              have hbC : bC ≠ b' := hb' _ (.tail _ (.tail _ (.head _)))
              refine O_re (.trans (.of (L := ⟨true, bS, oS, ints .i64 Y⟩ :: ⟨own, bT, oT, ints .u8 (T.map Nat.cast)⟩ :: ⟨true, bC, 0, ints .i64 C⟩ :: ⟨true, b', 0, ints .i64 (List.replicate k 0)⟩ :: F) (.cons (.tail .head) (.cons (.tail .head) (.cons (.tail .head) .rfl)))) (Rs.split (o2 := oS + T.length) (xs := ints .i64 (Y.take T.length)) (ys := ints .i64 (Y.drop T.length)) (by rw [← ints_append, List.take_append_drop]) (by rw [ints_length, List.length_take]; omega))) ?_
              repeat' (first|(refine isO ?_;first|refine oo (Pc rfl) ?_|refine oo (Pa rfl (by omega) (by omega)) ?_|(refine ob rfl ?_ ?_<;>intro hq<;>try (exfalso;omega))|refine oo (Pi rfl (by first|omega|(simp only [wr_length];omega))) ?_|refine oo (Pz rfl (by omega) (by omega)) ?_|refine oo (Pl rfl) ?_|refine oo (Px rfl rfl) ?_|refine oo (Pj rfl (by omega) (by omega)) ?_|refine oo (Pk rfl (by omega) (by omega)) ?_|refine oo (Pf rfl) ?_|refine oo (Pv rfl (by omega) (by omega)) ?_|refine oo (Pn rfl) ?_|refine oo (Ph rfl) ?_|refine oo (Pg rfl (by omega) (by omega)) ?_|refine oo (Pe rfl (by omega) (by omega)) ?_|refine oo (Po rfl (by omega) (by omega)) ?_|refine oo (Pm rfl) ?_|refine os rfl rfl ?_|refine ot rfl (by first|omega|(simp only [wr_length];omega)) ?_|refine O_nil ?_)|refine wo rfl ?_|refine wc rfl ?_|refine wg rfl ?_|refine go rfl ?_|refine gc rfl ?_|refine gg rfl ?_)
              exact G_stop ⟨_, List.replicate k 0, Y.drop T.length, b', 0, k, k, .inl hcs, List.length_replicate, by rw [List.length_drop]; omega, ⟨hL.own, fun h => (by cases h), Nat.le_refl _⟩, hbC, by (repeat (first | exact trivial | refine ⟨rfl, ?_⟩)), .cons (.tail (.tail .head)) (.cons .head (.cons (.tail .head) (.cons (.tail .head) .rfl)))⟩
            | false =>
              rw [if_neg (by decide)]
              obtain ⟨h1, h2, h3⟩ := hL.inn rfl
              refine O_re (.trans (Rs.split (o2 := oS + T.length) (xs := ints .i64 (Y.take T.length)) (ys := ints .i64 (Y.drop T.length)) (by rw [← ints_append, List.take_append_drop]) (by rw [ints_length, List.length_take]; omega)) (.of (L := ⟨true, bS, oS + T.length, ints .i64 (Y.drop T.length)⟩ :: ⟨true, bS, oS, ints .i64 (Y.take T.length)⟩ :: ⟨own, bT, oT, ints .u8 (T.map Nat.cast)⟩ :: ⟨true, bC, 0, ints .i64 C⟩ :: F) (.cons (.tail .head) (.cons .head .rfl)))) ?_
              refine O_re (Rs.split (o2 := oB) (xs := ints .i64 ((Y.drop T.length).take g)) (ys := ints .i64 ((Y.drop T.length).drop g)) (by rw [← ints_append, List.take_append_drop]) (by rw [ints_length, List.length_take, List.length_drop]; omega)) ?_
              repeat' (first|(refine isO ?_;first|refine oo (Pc rfl) ?_|refine oo (Pa rfl (by omega) (by omega)) ?_|(refine ob rfl ?_ ?_<;>intro hq<;>try (exfalso;omega))|refine oo (Pi rfl (by first|omega|(simp only [wr_length];omega))) ?_|refine oo (Pz rfl (by omega) (by omega)) ?_|refine oo (Pl rfl) ?_|refine oo (Px rfl rfl) ?_|refine oo (Pj rfl (by omega) (by omega)) ?_|refine oo (Pk rfl (by omega) (by omega)) ?_|refine oo (Pf rfl) ?_|refine oo (Pv rfl (by omega) (by omega)) ?_|refine oo (Pn rfl) ?_|refine oo (Ph rfl) ?_|refine oo (Pg rfl (by omega) (by omega)) ?_|refine oo (Pe rfl (by omega) (by omega)) ?_|refine oo (Po rfl (by omega) (by omega)) ?_|refine oo (Pm rfl) ?_|refine os rfl rfl ?_|refine ot rfl (by first|omega|(simp only [wr_length];omega)) ?_|refine O_nil ?_)|refine wo rfl ?_|refine wc rfl ?_|refine wg rfl ?_|refine go rfl ?_|refine gc rfl ?_|refine gg rfl ?_)
              refine G_stop ⟨_, (Y.drop T.length).drop g, (Y.drop T.length).take g, bB, oB, lB, cB, .inl hcs, by rw [List.length_drop, List.length_drop]; omega, by rw [List.length_take, List.length_drop]; omega, hL, hne, by (repeat (first | exact trivial | refine ⟨rfl, ?_⟩)), ?_⟩
              subst h2
              exact .cons (.tail (.tail (.tail .head))) (.cons (.tail (.tail .head)) (.cons (.tail (.tail .head)) (.cons (.tail .head) .rfl)))
    · have hnn2 : name = m := by omega
      have hcs : (2 ≤ m ∧ ∃ L, SrtS T L ∧ L.length = m ∧ SA.length = T.length ∧ ∀ a, a < m → rd SA (a : Int) = (ch L a : Nat)) ∨ (m ≤ 1 ∧ ∃ G, Seeds T G ∧ Cel0 T E3L G SA) := by
        rcases hst with ⟨h1, h2⟩ | ⟨h1, _, h2⟩
        · exact .inl ⟨h1, h2.all hnn2 (by omega)⟩
        · exact .inr ⟨h1, h2⟩
      repeat' (first|(refine isO ?_;first|refine oo (Pc rfl) ?_|refine oo (Pa rfl (by omega) (by omega)) ?_|(refine ob rfl ?_ ?_<;>intro hq<;>try (exfalso;omega))|refine oo (Pi rfl (by first|omega|(simp only [wr_length];omega))) ?_|refine oo (Pz rfl (by omega) (by omega)) ?_|refine oo (Pl rfl) ?_|refine oo (Px rfl rfl) ?_|refine oo (Pj rfl (by omega) (by omega)) ?_|refine oo (Pk rfl (by omega) (by omega)) ?_|refine oo (Pf rfl) ?_|refine oo (Pv rfl (by omega) (by omega)) ?_|refine oo (Pn rfl) ?_|refine oo (Ph rfl) ?_|refine oo (Pg rfl (by omega) (by omega)) ?_|refine oo (Pe rfl (by omega) (by omega)) ?_|refine oo (Po rfl (by omega) (by omega)) ?_|refine oo (Pm rfl) ?_|refine os rfl rfl ?_|refine ot rfl (by first|omega|(simp only [wr_length];omega)) ?_|refine O_nil ?_)|refine wo rfl ?_|refine wc rfl ?_|refine wg rfl ?_|refine go rfl ?_|refine gc rfl ?_|refine gg rfl ?_)
      exact G_stop ⟨SA, B, R, bB, oB, lB, cB, hcs, hB, hRr, hL, hne, by (repeat (first | exact trivial | refine ⟨rfl, ?_⟩)), .rfl⟩
  clear hst hB hRr hSl hL hne SA B R lB bB oB cB
  rintro E' M' ⟨SA, B, R, bB, oB, lB, cB, hcs, hB, hRr, hL, hne, hsub, hrk⟩
  refine G_code (W_weak hsub hrk ?_)
  exact partE T k hT fs fl hfl.and8 SA C B m (by omega) hcs hC hB own bT oT lT cT bS oS lS cS bB oB lB cB bC _ hlT (by omega) hL.lB hne _ fun SA' B' h1 h2 h3 => by
    obtain ⟨X, hX1, hX2, hX3⟩ := hL.fin (tr := ⟨own, bT, oT, ints .u8 (T.map Nat.cast)⟩) (cr := ⟨true, bC, 0, ints .i64 C⟩) (F := F) rfl h1 h2 hRr h3 htr hcr hk0 hF
    exact ⟨_, hX3, rfl, X, hX1, hX2, .rfl⟩
end Go.Proofs.Ytcibehgcibojnaa.Saib
