/- computeSA, the sorting of the substrings. Conditions: as the search for them leaves them. -/
import Derived.Test.YtcibehgcibojnaaW4x24
import Derived.Test.YtcibehgcibojnaaW4x26
import Derived.Test.YtcibehgcibojnaaW4x28
import Derived.Test.YtcibehgcibojnaaW4x18

namespace Go.Proofs.Ytcibehgcibojnaa.Saii
open Go Go.RowKit Go.Proofs.Ytcibehgcibojnaa.Vm Go.Proofs.Ytcibehgcibojnaa.Sais Go.Proofs.Ytcibehgcibojnaa.Sai
structure FlD (fl : Int) (dm : Nat) : Prop where
  d0 : dm = 0 → bitop .and .u64 fl 48 = some 0
  d1 : dm = 1 → bitop .and .u64 fl 48 = some 16 ∧ bitop .and .u64 fl 16 = some 16
  d2 : dm = 2 → bitop .and .u64 fl 48 = some 32 ∧ bitop .and .u64 fl 16 = some 0
  le : dm ≤ 2
set_option maxHeartbeats 16000000 in
theorem partC (T : List Nat) (k : Nat) (hT : Txt T k) (hk5 : k ≤ 512) (fs : Nat) (hN : T.length + fs ≤ 1000) (fl : Int) (c2 : Bool) (hfl : Fl fl c2) (dm : Nat) (hfd : FlD fl dm) (SA C B R : List Int) (m : Nat) (hm : m = (lmsF T 0).length)
    (b j : Int) (hsc : Scn T k 0 SA B b j) (hC : Cnt T T.length k C) (g : Nat) (hRr : R.length = g) (bo : Int)
    (own : Bool) (bT oT lT cT bS oS lS cS bB oB lB cB bC : Nat) (hL : Lay T.length fs k g c2 bS oS bB oB lB) (hbo : dm = 2 → bo = (T.length + g : Nat) ∧ 2 * k ≤ g) (F : Mem) (hlT : T.length ≤ lT) (hlS : T.length + fs ≤ lS) (hcS : lS ≤ cS) (hne : bC ≠ bB) (hneS : bC ≠ bS) (hF : Ne F) (hrec : Rec T.length) (hgf : g ≤ fs) :
    W false Try.prog ⟨Try.f19.ntmps, []⟩ (Vm.Ends Try.f19.results.toList fun v M' => v = .tuple #[] ∧ ∃ X : List Int, X.length = T.length + fs ∧ SufA T X ∧ Rk M' (⟨own, bT, oT, ints .i64 (T.map Nat.cast)⟩ :: ⟨true, bS, oS, ints .i64 X⟩ :: F)) (tl 17 (bodyOf Try.f19)) []
      [(0, .slice (some ⟨bT, oT, none⟩) lT cT), (1, .slice (some ⟨bS, oS, none⟩) lS cS), (2, .int .i64 (fs : Nat)), (3, .int .i64 T.length), (4, .int .i64 k), (10, .slice (some ⟨bC, 0, none⟩) k k), (11, .slice (some ⟨bB, oB, none⟩) lB cB), (14, .int .i64 bo), (15, .int .i64 b), (17, .int .i64 j), (18, .int .i64 m), (25, .int .u64 fl)] (⟨own, bT, oT, ints .i64 (T.map Nat.cast)⟩ :: ⟨true, bS, oS, ints .i64 SA⟩ :: ⟨true, bC, 0, ints .i64 C⟩ :: ⟨true, bB, oB, ints .i64 B⟩ :: ⟨true, bS, oS + T.length, ints .i64 R⟩ :: F) := by
  have hn0 := hT.n0
  have hn1 := hT.n1
  have hk1 := hT.k1
  have hlt := hT.lt
  have hk0 := hT.k0
  have hlen : (T.map (Nat.cast : Nat → Int)).length = T.length := List.length_map _
  have h2m : 2 * m ≤ T.length := by have := lmsF_le T _ 0 (Nat.le_refl _); omega
  have hSl := hsc.cells.len
  have hBl := hsc.Bl
  have hCl := hC.1
  have htr : (⟨own, bT, oT, ints .i64 (T.map Nat.cast)⟩ : Sg).l ≠ [] := ints_ne (by rw [hlen]; exact hn0)
  have hcr : (⟨true, bC, 0, ints .i64 C⟩ : Sg).l ≠ [] := ints_ne (by rw [hC.1]; exact hk0)
  have hlB := hL.lB
  have hstop : Stop [68] := ⟨⟩
  repeat' (first|(refine isO ?_;first|refine oo (Pc rfl) ?_|refine oo (Pa rfl (by omega) (by omega)) ?_|(refine ob rfl ?_ ?_<;>intro hq<;>try (exfalso;omega))|refine oo (Pi rfl (by first|omega|(simp only [wr_length];omega))) ?_|refine oo (Pz rfl (by omega) (by omega)) ?_|refine oo (Pl rfl) ?_|refine oo (Px rfl rfl) ?_|refine oo (Pj rfl (by omega) (by omega)) ?_|refine oo (Pk rfl (by omega) (by omega)) ?_|refine oo (Pf rfl) ?_|refine oo (Pv rfl (by omega) (by omega)) ?_|refine oo (Pn rfl) ?_|refine oo (Ph rfl) ?_|refine oo (Pg rfl (by omega) (by omega)) ?_|refine oo (Pe rfl (by omega) (by omega)) ?_|refine oo (Po rfl (by omega) (by omega)) ?_|refine oo (Pm rfl) ?_|refine os rfl rfl ?_|refine ot rfl (by first|omega|(simp only [wr_length];omega)) ?_|refine O_nil ?_)|refine wu hstop rfl rfl ?_|refine gu hstop rfl rfl ?_|refine wc rfl ?_|refine wg rfl ?_|refine gc rfl ?_|refine gg rfl ?_)
  clear hstop
  refine W_join1 (fun E' M' => ∃ (SA B R : List Int) (name : Nat), ((2 ≤ m ∧ Named T m SA name) ∨ (m ≤ 1 ∧ name = m ∧ ∃ G, Seeds T G ∧ Cel0 T E3L G SA)) ∧ SA.length = T.length ∧ B.length = k ∧ R.length = g ∧
    Sub E' [(0, .slice (some ⟨bT, oT, none⟩) lT cT), (1, .slice (some ⟨bS, oS, none⟩) lS cS), (2, .int .i64 (fs : Nat)), (3, .int .i64 T.length), (4, .int .i64 k), (10, .slice (some ⟨bC, 0, none⟩) k k), (11, .slice (some ⟨bB, oB, none⟩) lB cB), (18, .int .i64 m), (21, .int .i64 name), (25, .int .u64 fl)] ∧ Rk M' (⟨own, bT, oT, ints .i64 (T.map Nat.cast)⟩ :: ⟨true, bS, oS, ints .i64 SA⟩ :: ⟨true, bC, 0, ints .i64 C⟩ :: ⟨true, bB, oB, ints .i64 B⟩ :: ⟨true, bS, oS + T.length, ints .i64 R⟩ :: F)) ?_ ?_
  · by_cases hm2 : 1 < m
    · obtain ⟨h, r, hl⟩ : ∃ h r, lmsF T 0 = h :: r := by
        cases hl : lmsF T 0 with
        | nil => rw [hl] at hm; simp at hm; omega
        | cons h r => exact ⟨h, r, rfl⟩
      have hh : Lms T h := (lmsF_mem.1 (show h ∈ lmsF T 0 by rw [hl]; exact List.mem_cons_self)).2
      have hhn := lms_lt hh
      have hr : lmsF T (h + 1) = r := by
        have h1 := lmsF_skips (T := T) (e := 0) h fun p _ hp hpl => by
          have h2 := lmsF_mem.2 ⟨Nat.zero_le p, hpl⟩
          have h3 := lmsF_sorted T 0
          rw [hl] at h2 h3
          rcases List.mem_cons.1 h2 with h4 | h4
          · omega
          · have := (List.pairwise_cons.1 h3).1 p h4; omega
        rw [Nat.zero_add] at h1
        rw [h1] at hl
        exact lmsF_tail hh hl
      have htail : (lmsF T 0).tail = lmsF T (h + 1) := by rw [hl, hr]; rfl
      have hcells := hsc.cells
      have hseeds := tail_seeds T
      rw [htail] at hcells hseeds
      obtain ⟨hb, hj⟩ := hsc.cons h r hl
      by_cases hd0 : dm = 0
      · repeat' (first|(refine isO ?_;first|refine oo (Pc rfl) ?_|refine oo (Pa rfl (by omega) (by omega)) ?_|(refine ob rfl ?_ ?_<;>intro hq<;>try (exfalso;omega))|refine oo (Pi rfl (by first|omega|(simp only [wr_length];omega))) ?_|refine oo (Pz rfl (by omega) (by omega)) ?_|refine oo (Pl rfl) ?_|refine oo (Px rfl rfl) ?_|refine oo (Pj rfl (by omega) (by omega)) ?_|refine oo (Pk rfl (by omega) (by omega)) ?_|refine oo (Pf rfl) ?_|refine oo (Pv rfl (by omega) (by omega)) ?_|refine oo (Pn rfl) ?_|refine oo (Ph rfl) ?_|refine oo (Pg rfl (by omega) (by omega)) ?_|refine oo (Pe rfl (by omega) (by omega)) ?_|refine oo (Po rfl (by omega) (by omega)) ?_|refine oo (Pm rfl) ?_|refine os rfl rfl ?_|refine ot rfl (by first|omega|(simp only [wr_length];omega)) ?_|refine O_nil ?_)|refine wo rfl ?_|refine wc rfl ?_|refine wg rfl ?_|refine go rfl ?_|refine gc rfl ?_|refine gg rfl ?_)
        refine oo (Pfl rfl (hfd.d0 hd0)) ?_
        repeat' (first|(refine isO ?_;first|refine oo (Pc rfl) ?_|refine oo (Pa rfl (by omega) (by omega)) ?_|(refine ob rfl ?_ ?_<;>intro hq<;>try (exfalso;omega))|refine oo (Pi rfl (by first|omega|(simp only [wr_length];omega))) ?_|refine oo (Pz rfl (by omega) (by omega)) ?_|refine oo (Pl rfl) ?_|refine oo (Px rfl rfl) ?_|refine oo (Pj rfl (by omega) (by omega)) ?_|refine oo (Pk rfl (by omega) (by omega)) ?_|refine oo (Pf rfl) ?_|refine oo (Pv rfl (by omega) (by omega)) ?_|refine oo (Pn rfl) ?_|refine oo (Ph rfl) ?_|refine oo (Pg rfl (by omega) (by omega)) ?_|refine oo (Pe rfl (by omega) (by omega)) ?_|refine oo (Po rfl (by omega) (by omega)) ?_|refine oo (Pm rfl) ?_|refine os rfl rfl ?_|refine ot rfl (by first|omega|(simp only [wr_length];omega)) ?_|refine O_nil ?_)|refine wo rfl ?_|refine wc rfl ?_|refine wg rfl ?_|refine go rfl ?_|refine gc rfl ?_|refine gg rfl ?_)
        refine O_call rfl rfl Tb.k25 trivial rfl (sortLMS1_c T k hT (by omega) _ hseeds.good hseeds.lms SA C B hcells.cel1 hC hBl own bT oT lT cT bS oS lS cS bB oB lB cB bC 0 k k _ hlT (by omega) hlB (Nat.le_refl _) hne) ?_
        rintro _ _ ⟨rfl, SA1, B1, hF1, hl1, hl2, rfl⟩
        repeat' (first|(refine isO ?_;first|refine oo (Pc rfl) ?_|refine oo (Pa rfl (by omega) (by omega)) ?_|(refine ob rfl ?_ ?_<;>intro hq<;>try (exfalso;omega))|refine oo (Pi rfl (by first|omega|(simp only [wr_length];omega))) ?_|refine oo (Pz rfl (by omega) (by omega)) ?_|refine oo (Pl rfl) ?_|refine oo (Px rfl rfl) ?_|refine oo (Pj rfl (by omega) (by omega)) ?_|refine oo (Pk rfl (by omega) (by omega)) ?_|refine oo (Pf rfl) ?_|refine oo (Pv rfl (by omega) (by omega)) ?_|refine oo (Pn rfl) ?_|refine oo (Ph rfl) ?_|refine oo (Pg rfl (by omega) (by omega)) ?_|refine oo (Pe rfl (by omega) (by omega)) ?_|refine oo (Po rfl (by omega) (by omega)) ?_|refine oo (Pm rfl) ?_|refine os rfl rfl ?_|refine ot rfl (by first|omega|(simp only [wr_length];omega)) ?_|refine O_nil ?_)|refine wo rfl ?_|refine wc rfl ?_|refine wg rfl ?_|refine go rfl ?_|refine gc rfl ?_|refine gg rfl ?_)
        refine O_weak (M' := ⟨own, bT, oT, ints .i64 (T.map Nat.cast)⟩ :: ⟨true, bS, oS, ints .i64 SA1⟩ :: ⟨true, bC, 0, ints .i64 C⟩ :: ⟨true, bB, oB, ints .i64 B1⟩ :: ⟨true, bS, oS + T.length, ints .i64 R⟩ :: F) (by repeat (first | exact .rfl | exact .nil | (apply Rk.cons; (· exact TakeI.out)) | refine .drop ?_)) ?_
        refine O_call rfl rfl Tb.k26 trivial rfl (postProc1_c T k hT SA1 (hF1.sorted hT hseeds) m hm (by omega) own bT oT lT cT bS oS lS cS _ hlT (by omega)) ?_
        rintro _ _ ⟨SA2, name, rfl, hNd, rfl⟩
        repeat' (first|(refine isO ?_;first|refine oo (Pc rfl) ?_|refine oo (Pa rfl (by omega) (by omega)) ?_|(refine ob rfl ?_ ?_<;>intro hq<;>try (exfalso;omega))|refine oo (Pi rfl (by first|omega|(simp only [wr_length];omega))) ?_|refine oo (Pz rfl (by omega) (by omega)) ?_|refine oo (Pl rfl) ?_|refine oo (Px rfl rfl) ?_|refine oo (Pj rfl (by omega) (by omega)) ?_|refine oo (Pk rfl (by omega) (by omega)) ?_|refine oo (Pf rfl) ?_|refine oo (Pv rfl (by omega) (by omega)) ?_|refine oo (Pn rfl) ?_|refine oo (Ph rfl) ?_|refine oo (Pg rfl (by omega) (by omega)) ?_|refine oo (Pe rfl (by omega) (by omega)) ?_|refine oo (Po rfl (by omega) (by omega)) ?_|refine oo (Pm rfl) ?_|refine os rfl rfl ?_|refine ot rfl (by first|omega|(simp only [wr_length];omega)) ?_|refine O_nil ?_)|refine wo rfl ?_|refine wc rfl ?_|refine wg rfl ?_|refine go rfl ?_|refine gc rfl ?_|refine gg rfl ?_)
        obtain ⟨L, hS2, hLm2, hl4, hrest⟩ := id hNd
        exact G_stop ⟨SA2, B1, R, name, .inl ⟨hm2, hNd⟩, hl4, hl2, hRr, by (repeat (first | exact trivial | refine ⟨rfl, ?_⟩)), .rfl⟩
      · have hand : ∃ v16 v48 : Int, 0 < v48 ∧ bitop .and .u64 fl 48 = some v48 ∧ bitop .and .u64 fl 16 = some v16 ∧ ((dm = 1 ∧ 0 < v16) ∨ (dm = 2 ∧ v16 ≤ 0)) := by
          have := hfd.le
          rcases (show dm = 1 ∨ dm = 2 by omega) with h1 | h1
          · exact ⟨16, 16, by decide, (hfd.d1 h1).1, (hfd.d1 h1).2, .inl ⟨h1, by decide⟩⟩
          · exact ⟨0, 32, by decide, (hfd.d2 h1).1, (hfd.d2 h1).2, .inr ⟨h1, by decide⟩⟩
        obtain ⟨v16, v48, hv48, hb48, hb16, hdm⟩ := hand
        repeat' (first|(refine isO ?_;first|refine oo (Pc rfl) ?_|refine oo (Pa rfl (by omega) (by omega)) ?_|(refine ob rfl ?_ ?_<;>intro hq<;>try (exfalso;omega))|refine oo (Pi rfl (by first|omega|(simp only [wr_length];omega))) ?_|refine oo (Pz rfl (by omega) (by omega)) ?_|refine oo (Pl rfl) ?_|refine oo (Px rfl rfl) ?_|refine oo (Pj rfl (by omega) (by omega)) ?_|refine oo (Pk rfl (by omega) (by omega)) ?_|refine oo (Pf rfl) ?_|refine oo (Pv rfl (by omega) (by omega)) ?_|refine oo (Pn rfl) ?_|refine oo (Ph rfl) ?_|refine oo (Pg rfl (by omega) (by omega)) ?_|refine oo (Pe rfl (by omega) (by omega)) ?_|refine oo (Po rfl (by omega) (by omega)) ?_|refine oo (Pm rfl) ?_|refine os rfl rfl ?_|refine ot rfl (by first|omega|(simp only [wr_length];omega)) ?_|refine O_nil ?_)|refine wo rfl ?_|refine wc rfl ?_|refine wg rfl ?_|refine go rfl ?_|refine gc rfl ?_|refine gg rfl ?_)
        refine oo (Pfl rfl hb48) ?_
        have hstop : Stop [70] := ⟨⟩
        repeat' (first|(refine isO ?_;first|refine oo (Pc rfl) ?_|refine oo (Pa rfl (by omega) (by omega)) ?_|(refine ob rfl ?_ ?_<;>intro hq<;>try (exfalso;omega))|refine oo (Pi rfl (by first|omega|(simp only [wr_length];omega))) ?_|refine oo (Pz rfl (by omega) (by omega)) ?_|refine oo (Pl rfl) ?_|refine oo (Px rfl rfl) ?_|refine oo (Pj rfl (by omega) (by omega)) ?_|refine oo (Pk rfl (by omega) (by omega)) ?_|refine oo (Pf rfl) ?_|refine oo (Pv rfl (by omega) (by omega)) ?_|refine oo (Pn rfl) ?_|refine oo (Ph rfl) ?_|refine oo (Pg rfl (by omega) (by omega)) ?_|refine oo (Pe rfl (by omega) (by omega)) ?_|refine oo (Po rfl (by omega) (by omega)) ?_|refine oo (Pm rfl) ?_|refine os rfl rfl ?_|refine ot rfl (by first|omega|(simp only [wr_length];omega)) ?_|refine O_nil ?_)|refine wu hstop rfl rfl ?_|refine gu hstop rfl rfl ?_|refine wc rfl ?_|refine wg rfl ?_|refine gc rfl ?_|refine gg rfl ?_)
        clear hstop
        refine W_join1 (fun E' M' => ∃ (D : List Int) (bD oD lD cD : Nat) (Q : Mem), D.length = 2 * k ∧ 2 * k ≤ lD ∧
          (∀ SA' B' D' : List Int, SA'.length = T.length → B'.length = k → D'.length = 2 * k → ∃ R' : List Int, R'.length = g ∧ Rs (⟨own, bT, oT, ints .i64 (T.map Nat.cast)⟩ :: ⟨true, bS, oS, ints .i64 SA'⟩ :: ⟨true, bC, 0, ints .i64 C⟩ :: ⟨true, bB, oB, ints .i64 B'⟩ :: ⟨true, bD, oD, ints .i64 D'⟩ :: Q) (⟨own, bT, oT, ints .i64 (T.map Nat.cast)⟩ :: ⟨true, bS, oS, ints .i64 SA'⟩ :: ⟨true, bC, 0, ints .i64 C⟩ :: ⟨true, bB, oB, ints .i64 B'⟩ :: ⟨true, bS, oS + T.length, ints .i64 R'⟩ :: F)) ∧
          Sub E' [(0, .slice (some ⟨bT, oT, none⟩) lT cT), (1, .slice (some ⟨bS, oS, none⟩) lS cS), (2, .int .i64 (fs : Nat)), (3, .int .i64 T.length), (4, .int .i64 k), (10, .slice (some ⟨bC, 0, none⟩) k k), (11, .slice (some ⟨bB, oB, none⟩) lB cB), (12, .slice (some ⟨bD, oD, none⟩) lD cD), (17, .int .i64 j), (18, .int .i64 m), (25, .int .u64 fl)] ∧ Rk M' (⟨own, bT, oT, ints .i64 (T.map Nat.cast)⟩ :: ⟨true, bS, oS, ints .i64 SA⟩ :: ⟨true, bC, 0, ints .i64 C⟩ :: ⟨true, bB, oB, ints .i64 B⟩ :: ⟨true, bD, oD, ints .i64 D⟩ :: Q)) ?_ ?_
        · rcases hdm with ⟨hd1, hv⟩ | ⟨hd1, hv⟩
          · repeat' (first|(refine isO ?_;first|refine oo (Pc rfl) ?_|refine oo (Pa rfl (by omega) (by omega)) ?_|(refine ob rfl ?_ ?_<;>intro hq<;>try (exfalso;omega))|refine oo (Pi rfl (by first|omega|(simp only [wr_length];omega))) ?_|refine oo (Pz rfl (by omega) (by omega)) ?_|refine oo (Pl rfl) ?_|refine oo (Px rfl rfl) ?_|refine oo (Pj rfl (by omega) (by omega)) ?_|refine oo (Pk rfl (by omega) (by omega)) ?_|refine oo (Pf rfl) ?_|refine oo (Pv rfl (by omega) (by omega)) ?_|refine oo (Pn rfl) ?_|refine oo (Ph rfl) ?_|refine oo (Pg rfl (by omega) (by omega)) ?_|refine oo (Pe rfl (by omega) (by omega)) ?_|refine oo (Po rfl (by omega) (by omega)) ?_|refine oo (Pm rfl) ?_|refine os rfl rfl ?_|refine ot rfl (by first|omega|(simp only [wr_length];omega)) ?_|refine O_nil ?_)|refine wo rfl ?_|refine wc rfl ?_|refine wg rfl ?_|refine go rfl ?_|refine gc rfl ?_|refine gg rfl ?_)
            refine oo (Pfl rfl hb16) ?_
            repeat' (first|(refine isO ?_;first|refine oo (Pc rfl) ?_|refine oo (Pa rfl (by omega) (by omega)) ?_|(refine ob rfl ?_ ?_<;>intro hq<;>try (exfalso;omega))|refine oo (Pi rfl (by first|omega|(simp only [wr_length];omega))) ?_|refine oo (Pz rfl (by omega) (by omega)) ?_|refine oo (Pl rfl) ?_|refine oo (Px rfl rfl) ?_|refine oo (Pj rfl (by omega) (by omega)) ?_|refine oo (Pk rfl (by omega) (by omega)) ?_|refine oo (Pf rfl) ?_|refine oo (Pv rfl (by omega) (by omega)) ?_|refine oo (Pn rfl) ?_|refine oo (Ph rfl) ?_|refine oo (Pg rfl (by omega) (by omega)) ?_|refine oo (Pe rfl (by omega) (by omega)) ?_|refine oo (Po rfl (by omega) (by omega)) ?_|refine oo (Pm rfl) ?_|refine os rfl rfl ?_|refine ot rfl (by first|omega|(simp only [wr_length];omega)) ?_|refine O_nil ?_)|refine wo rfl ?_|refine wc rfl ?_|refine wg rfl ?_|refine go rfl ?_|refine gc rfl ?_|refine gg rfl ?_)
            refine O_make25 (n := 2 * k) rfl (by omega) trivial rfl fun b' hb' => ?_
            repeat' (first|(refine isO ?_;first|refine oo (Pc rfl) ?_|refine oo (Pa rfl (by omega) (by omega)) ?_|(refine ob rfl ?_ ?_<;>intro hq<;>try (exfalso;omega))|refine oo (Pi rfl (by first|omega|(simp only [wr_length];omega))) ?_|refine oo (Pz rfl (by omega) (by omega)) ?_|refine oo (Pl rfl) ?_|refine oo (Px rfl rfl) ?_|refine oo (Pj rfl (by omega) (by omega)) ?_|refine oo (Pk rfl (by omega) (by omega)) ?_|refine oo (Pf rfl) ?_|refine oo (Pv rfl (by omega) (by omega)) ?_|refine oo (Pn rfl) ?_|refine oo (Ph rfl) ?_|refine oo (Pg rfl (by omega) (by omega)) ?_|refine oo (Pe rfl (by omega) (by omega)) ?_|refine oo (Po rfl (by omega) (by omega)) ?_|refine oo (Pm rfl) ?_|refine os rfl rfl ?_|refine ot rfl (by first|omega|(simp only [wr_length];omega)) ?_|refine O_nil ?_)|refine wo rfl ?_|refine wc rfl ?_|refine wg rfl ?_|refine go rfl ?_|refine gc rfl ?_|refine gg rfl ?_)
            exact G_stop ⟨List.replicate (2 * k) 0, b', 0, 2 * k, 2 * k, _, List.length_replicate, Nat.le_refl _, fun SA' B' D' _ _ _ => ⟨R, hRr, .of (.cons .head (.cons .head (.cons .head (.cons .head (.drop .rfl)))))⟩, by (repeat (first | exact trivial | refine ⟨rfl, ?_⟩)),
              .cons (.tail .head) (.cons (.tail .head) (.cons (.tail .head) (.cons (.tail .head) (.cons .head .rfl))))⟩
          · obtain ⟨hb1, hb2⟩ := hbo hd1
            subst hb1
            obtain ⟨oD, hoD⟩ : ∃ oD, oD = oS + (T.length + g - 2 * k) := ⟨_, rfl⟩
            repeat' (first|(refine isO ?_;first|refine oo (Pc rfl) ?_|refine oo (Pa rfl (by omega) (by omega)) ?_|(refine ob rfl ?_ ?_<;>intro hq<;>try (exfalso;omega))|refine oo (Pi rfl (by first|omega|(simp only [wr_length];omega))) ?_|refine oo (Pz rfl (by omega) (by omega)) ?_|refine oo (Pl rfl) ?_|refine oo (Px rfl rfl) ?_|refine oo (Pj rfl (by omega) (by omega)) ?_|refine oo (Pk rfl (by omega) (by omega)) ?_|refine oo (Pf rfl) ?_|refine oo (Pv rfl (by omega) (by omega)) ?_|refine oo (Pn rfl) ?_|refine oo (Ph rfl) ?_|refine oo (Pg rfl (by omega) (by omega)) ?_|refine oo (Pe rfl (by omega) (by omega)) ?_|refine oo (Po rfl (by omega) (by omega)) ?_|refine oo (Pm rfl) ?_|refine os rfl rfl ?_|refine ot rfl (by first|omega|(simp only [wr_length];omega)) ?_|refine O_nil ?_)|refine wo rfl ?_|refine wc rfl ?_|refine wg rfl ?_|refine go rfl ?_|refine gc rfl ?_|refine gg rfl ?_)
            refine oo (Pfl rfl hb16) ?_
            repeat' (first|(refine isO ?_;first|refine oo (Pc rfl) ?_|refine oo (Pa rfl (by omega) (by omega)) ?_|(refine ob rfl ?_ ?_<;>intro hq<;>try (exfalso;omega))|refine oo (Pi rfl (by first|omega|(simp only [wr_length];omega))) ?_|refine oo (Pz rfl (by omega) (by omega)) ?_|refine oo (Pl rfl) ?_|refine oo (Px rfl rfl) ?_|refine oo (Pj rfl (by omega) (by omega)) ?_|refine oo (Pk rfl (by omega) (by omega)) ?_|refine oo (Pf rfl) ?_|refine oo (Pv rfl (by omega) (by omega)) ?_|refine oo (Pn rfl) ?_|refine oo (Ph rfl) ?_|refine oo (Pg rfl (by omega) (by omega)) ?_|refine oo (Pe rfl (by omega) (by omega)) ?_|refine oo (Po rfl (by omega) (by omega)) ?_|refine oo (Pm rfl) ?_|refine os rfl rfl ?_|refine ot rfl (by first|omega|(simp only [wr_length];omega)) ?_|refine O_nil ?_)|refine wo rfl ?_|refine wc rfl ?_|refine wg rfl ?_|refine go rfl ?_|refine gc rfl ?_|refine gg rfl ?_)
            refine O_pure (P_slice1E (o' := oD) (len' := lS - (T.length + g - 2 * k)) (cap' := cS - (T.length + g - 2 * k)) Tb.u25 Tb.c3 rfl ⟨_, rfl⟩ rfl (by omega) (by omega) (by omega) (by omega) (by omega) (by omega) (by omega)) trivial rfl ?_
            refine O_re (.trans (.of (L := ⟨true, bS, oS + T.length, ints .i64 R⟩ :: ⟨own, bT, oT, ints .i64 (T.map Nat.cast)⟩ :: ⟨true, bS, oS, ints .i64 SA⟩ :: ⟨true, bC, 0, ints .i64 C⟩ :: ⟨true, bB, oB, ints .i64 B⟩ :: F) (.cons (.tail (.tail (.tail (.tail .head)))) .rfl)) (Rs.split (o2 := oD) (xs := ints .i64 (R.take (g - 2 * k))) (ys := ints .i64 (R.drop (g - 2 * k))) (by rw [← ints_append, List.take_append_drop]) (by rw [ints_length, List.length_take]; omega))) ?_
            repeat' (first|(refine isO ?_;first|refine oo (Pc rfl) ?_|refine oo (Pa rfl (by omega) (by omega)) ?_|(refine ob rfl ?_ ?_<;>intro hq<;>try (exfalso;omega))|refine oo (Pi rfl (by first|omega|(simp only [wr_length];omega))) ?_|refine oo (Pz rfl (by omega) (by omega)) ?_|refine oo (Pl rfl) ?_|refine oo (Px rfl rfl) ?_|refine oo (Pj rfl (by omega) (by omega)) ?_|refine oo (Pk rfl (by omega) (by omega)) ?_|refine oo (Pf rfl) ?_|refine oo (Pv rfl (by omega) (by omega)) ?_|refine oo (Pn rfl) ?_|refine oo (Ph rfl) ?_|refine oo (Pg rfl (by omega) (by omega)) ?_|refine oo (Pe rfl (by omega) (by omega)) ?_|refine oo (Po rfl (by omega) (by omega)) ?_|refine oo (Pm rfl) ?_|refine os rfl rfl ?_|refine ot rfl (by first|omega|(simp only [wr_length];omega)) ?_|refine O_nil ?_)|refine wo rfl ?_|refine wc rfl ?_|refine wg rfl ?_|refine go rfl ?_|refine gc rfl ?_|refine gg rfl ?_)
            refine G_stop ⟨R.drop (g - 2 * k), bS, oD, lS - (T.length + g - 2 * k), cS - (T.length + g - 2 * k), ⟨true, bS, oS + T.length, ints .i64 (R.take (g - 2 * k))⟩ :: F, by rw [List.length_drop]; omega, by omega, fun SA' B' D' h1 h2 h3 => ⟨R.take (g - 2 * k) ++ D', by rw [List.length_append, List.length_take]; omega, ?_⟩, by (repeat (first | exact trivial | refine ⟨rfl, ?_⟩)),
              .cons (.tail (.tail .head)) (.cons (.tail (.tail .head)) (.cons (.tail (.tail .head)) (.cons (.tail (.tail .head)) (.cons (.tail .head) .rfl))))⟩
            refine .trans (.of (L := ⟨true, bS, oS + T.length, ints .i64 (R.take (g - 2 * k))⟩ :: ⟨true, bS, oD, ints .i64 D'⟩ :: ⟨own, bT, oT, ints .i64 (T.map Nat.cast)⟩ :: ⟨true, bS, oS, ints .i64 SA'⟩ :: ⟨true, bC, 0, ints .i64 C⟩ :: ⟨true, bB, oB, ints .i64 B'⟩ :: F) (.cons (.tail (.tail (.tail (.tail (.tail .head))))) (.cons (.tail (.tail (.tail (.tail .head)))) .rfl)))
              (.trans (.join (ints_append _ _ _) (by rw [ints_length, List.length_take]; omega) (Ne.cons htr (Ne.cons (ints_ne (by omega)) (Ne.cons hcr (Ne.cons (ints_ne (by omega)) hF))))) (.of (.cons (.tail .head) (.cons (.tail .head) (.cons (.tail .head) (.cons (.tail .head) .rfl))))))
        clear hdm hb48 hb16 hv48
        rintro E' M' ⟨D, bD, oD, lD, cD, Q, hDl, hlD, hres, hsub, hrk⟩
        refine G_code (W_weak hsub hrk ?_)
        clear hsub hrk E' M'
        have ejh : j + 1 = (h : Int) := by omega
        have e1 : rd (T.map Nat.cast) (j + 1) = (ch T h : Nat) := by rw [ejh]; exact rd_ch _ _
        have c1 := hlt h
        have hBv : ∀ c, c < k → rd (wr B (ch T h : Nat) (rd B (ch T h : Nat) + 1)) (c : Int) = (bst T (c + 1) : Int) - (lcn T (lmsF T (h + 1)) c : Nat) := fun c hc => by
          rw [Sais.rd_wr (by omega), hr]
          by_cases e2 : c = ch T h
          · rw [if_pos e2, e2, hsc.Bv _ c1, hl, lcn_cons, if_pos rfl]; omega
          · rw [if_neg e2, hsc.Bv c hc, hl, lcn_cons, if_neg (Ne.symm e2)]; rfl
        have hBh : -1000 ≤ rd B (ch T h : Nat) ∧ rd B (ch T h : Nat) ≤ 1000 := by
          have h1 := hsc.Bv _ c1
          have h2 := bst_le T (ch T h + 1)
          have h3 := lmsF_room T 0 (ch T h)
          have h4 := bst_sb T (ch T h)
          omega
        have e9 : rd B (rd (T.map Nat.cast) (j + 1)) = rd B (ch T h : Nat) := by rw [e1]
        have hjn : 0 ≤ j + 1 ∧ j + 1 < T.length := by omega
        repeat' (first|(refine isO ?_;first|refine oo (Pc rfl) ?_|refine oo (Pa rfl (by omega) (by omega)) ?_|(refine ob rfl ?_ ?_<;>intro hq<;>try (exfalso;omega))|refine oo (Pi rfl (by first|omega|(simp only [wr_length];omega))) ?_|refine oo (Pz rfl (by omega) (by omega)) ?_|refine oo (Pl rfl) ?_|refine oo (Px rfl rfl) ?_|refine oo (Pj rfl (by omega) (by omega)) ?_|refine oo (Pk rfl (by omega) (by omega)) ?_|refine oo (Pf rfl) ?_|refine oo (Pv rfl (by omega) (by omega)) ?_|refine oo (Pn rfl) ?_|refine oo (Ph rfl) ?_|refine oo (Pg rfl (by omega) (by omega)) ?_|refine oo (Pe rfl (by omega) (by omega)) ?_|refine oo (Po rfl (by omega) (by omega)) ?_|refine oo (Pm rfl) ?_|refine os rfl rfl ?_|refine ot rfl (by first|omega|(simp only [wr_length];omega)) ?_|refine O_nil ?_)|refine wo rfl ?_|refine wc rfl ?_|refine wg rfl ?_|refine go rfl ?_|refine gc rfl ?_|refine gg rfl ?_)
        rw [e9, e1]
        have hB1l : (wr B (ch T h : Nat) (rd B (ch T h : Nat) + 1)).length = k := by rw [wr_length]; exact hBl
        generalize wr B (ch T h : Nat) (rd B (ch T h : Nat) + 1) = B1 at *
        clear e9 e1 hBh ejh hjn
        have hnd := lmsF_nodup T (h + 1)
        have hlmS := hcells.lms
        refine W_loop (α := Nat × List Int × List Int) (fun x => [(0, .slice (some ⟨bT, oT, none⟩) lT cT), (1, .slice (some ⟨bS, oS, none⟩) lS cS), (2, .int .i64 (fs : Nat)), (3, .int .i64 T.length), (4, .int .i64 k), (10, .slice (some ⟨bC, 0, none⟩) k k), (11, .slice (some ⟨bB, oB, none⟩) lB cB), (12, .slice (some ⟨bD, oD, none⟩) lD cD), (16, .int .i64 x.1), (17, .int .i64 (bst T x.1 : Nat)), (18, .int .i64 m), (25, .int .u64 fl)])
          (fun x => ⟨own, bT, oT, ints .i64 (T.map Nat.cast)⟩ :: ⟨true, bS, oS, ints .i64 x.2.1⟩ :: ⟨true, bC, 0, ints .i64 C⟩ :: ⟨true, bB, oB, ints .i64 B1⟩ :: ⟨true, bD, oD, ints .i64 x.2.2⟩ :: Q) (fun x => x.1 ≤ k ∧ Mrk T (lmsF T (h + 1)) x.1 SA x.2.1 ∧ x.2.2.length = 2 * k ∧ ∀ t, (t < x.1 ∨ (k ≤ t ∧ t < k + x.1)) → rd x.2.2 (t : Int) = 0) (fun x => k - x.1) (0, SA, D) ⟨Nat.zero_le _, Mrk.start hSl, hDl, fun t ht => by dsimp only at ht; omega⟩ (by dsimp only; rw [bst_zero]; (repeat (first | exact trivial | refine ⟨rfl, ?_⟩))) (by repeat (first | exact .rfl | exact .nil | (apply Rk.cons; (· exact TakeI.out)) | refine .drop ?_)) ?_
        clear hDl D
        rintro ⟨i, SA1, D⟩ ⟨hi, hMk, hDl, hD0⟩
        dsimp only at hi hMk hDl hD0 ⊢
        have hS1l := hMk.len
        by_cases hik : i < k
        · have hCv : ((bst T i : Nat) : Int) + rd C i = (bst T (i + 1) : Nat) := by rw [hC.2 i hik, bst_cnt]; rfl
          have hbn := bst_le T (i + 1)
          have hBi := hBv i hik
          have hDn : ∀ t, (t < i + 1 ∨ (k ≤ t ∧ t < k + (i + 1))) → rd (wr (wr D (i : Int) 0) ((i + k : Nat) : Int) 0) (t : Int) = 0 := fun t ht => by
            rw [Sais.rd_wr (by rw [wr_length]; omega), Sais.rd_wr (by omega)]
            by_cases e2 : t = i + k
            · rw [if_pos e2]
            · rw [if_neg e2]
              by_cases e3 : t = i
              · rw [if_pos e3]
              · rw [if_neg e3]; exact hD0 t (by omega)
          have hDl2 : (wr (wr D (i : Int) 0) ((i + k : Nat) : Int) 0).length = 2 * k := by rw [wr_length, wr_length]; exact hDl
          have hCb : 0 ≤ rd C i ∧ rd C i ≤ 1000 := by rw [hC.2 i hik]; have := cnt_le T T.length i; omega
          have hbi := bst_le T i
          rcases hMk.step hnd hlmS with ⟨hz, hMk'⟩ | ⟨hz, hfn, hfv, hMk'⟩
          · rw [hz] at hBi
            repeat' (first|(refine isO ?_;first|refine oo (Pc rfl) ?_|refine oo (Pa rfl (by omega) (by omega)) ?_|(refine ob rfl ?_ ?_<;>intro hq<;>try (exfalso;omega))|refine oo (Pi rfl (by first|omega|(simp only [wr_length];omega))) ?_|refine oo (Pz rfl (by omega) (by omega)) ?_|refine oo (Pl rfl) ?_|refine oo (Px rfl rfl) ?_|refine oo (Pj rfl (by omega) (by omega)) ?_|refine oo (Pk rfl (by omega) (by omega)) ?_|refine oo (Pf rfl) ?_|refine oo (Pv rfl (by omega) (by omega)) ?_|refine oo (Pn rfl) ?_|refine oo (Ph rfl) ?_|refine oo (Pg rfl (by omega) (by omega)) ?_|refine oo (Pe rfl (by omega) (by omega)) ?_|refine oo (Po rfl (by omega) (by omega)) ?_|refine oo (Pm rfl) ?_|refine os rfl rfl ?_|refine ot rfl (by first|omega|(simp only [wr_length];omega)) ?_|refine O_nil ?_)|refine wo rfl ?_|refine wc rfl ?_|refine wg rfl ?_|refine go rfl ?_|refine gc rfl ?_|refine gg rfl ?_)
            rw [hCv]
            exact G_stop ⟨(i + 1, SA1, _), ⟨by dsimp only; omega, hMk', hDl2, hDn⟩, by dsimp only; omega, by (repeat (first | exact trivial | refine ⟨rfl, ?_⟩)), .rfl⟩
          · have hlc := lmsF_room T (h + 1) i
            have hsb := bst_sb T i
            have eB : rd B1 i = (fsl T (lmsF T (h + 1)) i : Nat) := by rw [hBi]; unfold fsl; omega
            have hbd := hcells.bound hfn
            rw [← hfv] at hbd
            have eB2 : rd SA1 (rd B1 i) = rd SA1 (fsl T (lmsF T (h + 1)) i : Nat) := by rw [eB]
            repeat' (first|(refine isO ?_;first|refine oo (Pc rfl) ?_|refine oo (Pa rfl (by omega) (by omega)) ?_|(refine ob rfl ?_ ?_<;>intro hq<;>try (exfalso;omega))|refine oo (Pi rfl (by first|omega|(simp only [wr_length];omega))) ?_|refine oo (Pz rfl (by omega) (by omega)) ?_|refine oo (Pl rfl) ?_|refine oo (Px rfl rfl) ?_|refine oo (Pj rfl (by omega) (by omega)) ?_|refine oo (Pk rfl (by omega) (by omega)) ?_|refine oo (Pf rfl) ?_|refine oo (Pv rfl (by omega) (by omega)) ?_|refine oo (Pn rfl) ?_|refine oo (Ph rfl) ?_|refine oo (Pg rfl (by omega) (by omega)) ?_|refine oo (Pe rfl (by omega) (by omega)) ?_|refine oo (Po rfl (by omega) (by omega)) ?_|refine oo (Pm rfl) ?_|refine os rfl rfl ?_|refine ot rfl (by first|omega|(simp only [wr_length];omega)) ?_|refine O_nil ?_)|refine wo rfl ?_|refine wc rfl ?_|refine wg rfl ?_|refine go rfl ?_|refine gc rfl ?_|refine gg rfl ?_)
            rw [eB, hCv]
            exact G_stop ⟨(i + 1, _, _), ⟨by dsimp only; omega, hMk', hDl2, hDn⟩, by dsimp only; omega, by (repeat (first | exact trivial | refine ⟨rfl, ?_⟩)), .rfl⟩
        · obtain rfl : k = i := by omega
          have hc2 := hMk.cel2 hlt hcells
          repeat' (first|(refine isO ?_;first|refine oo (Pc rfl) ?_|refine oo (Pa rfl (by omega) (by omega)) ?_|(refine ob rfl ?_ ?_<;>intro hq<;>try (exfalso;omega))|refine oo (Pi rfl (by first|omega|(simp only [wr_length];omega))) ?_|refine oo (Pz rfl (by omega) (by omega)) ?_|refine oo (Pl rfl) ?_|refine oo (Px rfl rfl) ?_|refine oo (Pj rfl (by omega) (by omega)) ?_|refine oo (Pk rfl (by omega) (by omega)) ?_|refine oo (Pf rfl) ?_|refine oo (Pv rfl (by omega) (by omega)) ?_|refine oo (Pn rfl) ?_|refine oo (Ph rfl) ?_|refine oo (Pg rfl (by omega) (by omega)) ?_|refine oo (Pe rfl (by omega) (by omega)) ?_|refine oo (Po rfl (by omega) (by omega)) ?_|refine oo (Pm rfl) ?_|refine os rfl rfl ?_|refine ot rfl (by first|omega|(simp only [wr_length];omega)) ?_|refine O_nil ?_)|refine wo rfl ?_|refine wc rfl ?_|refine wg rfl ?_|refine go rfl ?_|refine gc rfl ?_|refine gg rfl ?_)
          refine O_call rfl rfl Tb.k23 trivial rfl (sortLMS2_c T k hT (by omega) _ hseeds h hh (fun p y hy => (lmsF_mem.1 ((Gof_iff hlmS).1 hy).1).1) SA1 C B1 D hc2 hC hB1l ⟨hDl, fun t ht => hD0 t (by omega)⟩ own bT oT lT cT bS oS lS cS bB oB lB cB bC 0 k k bD oD lD cD _ hlT (by omega) hlB (Nat.le_refl _) hlD) ?_
          rintro _ _ ⟨rfl, SA2, B2, D2, hS2, hl1, hl2, rfl⟩
          have hl3 := hS2.len
          repeat' (first|(refine isO ?_;first|refine oo (Pc rfl) ?_|refine oo (Pa rfl (by omega) (by omega)) ?_|(refine ob rfl ?_ ?_<;>intro hq<;>try (exfalso;omega))|refine oo (Pi rfl (by first|omega|(simp only [wr_length];omega))) ?_|refine oo (Pz rfl (by omega) (by omega)) ?_|refine oo (Pl rfl) ?_|refine oo (Px rfl rfl) ?_|refine oo (Pj rfl (by omega) (by omega)) ?_|refine oo (Pk rfl (by omega) (by omega)) ?_|refine oo (Pf rfl) ?_|refine oo (Pv rfl (by omega) (by omega)) ?_|refine oo (Pn rfl) ?_|refine oo (Ph rfl) ?_|refine oo (Pg rfl (by omega) (by omega)) ?_|refine oo (Pe rfl (by omega) (by omega)) ?_|refine oo (Po rfl (by omega) (by omega)) ?_|refine oo (Pm rfl) ?_|refine os rfl rfl ?_|refine ot rfl (by first|omega|(simp only [wr_length];omega)) ?_|refine O_nil ?_)|refine wo rfl ?_|refine wc rfl ?_|refine wg rfl ?_|refine go rfl ?_|refine gc rfl ?_|refine gg rfl ?_)
          refine O_weak (M' := ⟨true, bS, oS, ints .i64 SA2⟩ :: ⟨own, bT, oT, ints .i64 (T.map Nat.cast)⟩ :: ⟨true, bC, 0, ints .i64 C⟩ :: ⟨true, bB, oB, ints .i64 B2⟩ :: ⟨true, bD, oD, ints .i64 D2⟩ :: Q) (by repeat (first | exact .rfl | exact .nil | (apply Rk.cons; (· exact TakeI.out)) | refine .drop ?_)) ?_
          refine O_call rfl rfl Tb.k24 trivial rfl (postProc2_c T k hT SA2 hS2 m hm (by omega) bS oS lS cS _ (by omega)) ?_
          rintro _ _ ⟨SA3, name, rfl, hNd, rfl⟩
          have hl4 : SA3.length = T.length := by
            obtain ⟨L, _, _, h4, _⟩ := hNd
            exact h4
          obtain ⟨R', hR1, hR2⟩ := hres SA3 B2 D2 hl4 hl1 hl2
          refine O_re (.trans (.of (.cons (.tail .head) (.cons .head .rfl))) hR2) ?_
          repeat' (first|(refine isO ?_;first|refine oo (Pc rfl) ?_|refine oo (Pa rfl (by omega) (by omega)) ?_|(refine ob rfl ?_ ?_<;>intro hq<;>try (exfalso;omega))|refine oo (Pi rfl (by first|omega|(simp only [wr_length];omega))) ?_|refine oo (Pz rfl (by omega) (by omega)) ?_|refine oo (Pl rfl) ?_|refine oo (Px rfl rfl) ?_|refine oo (Pj rfl (by omega) (by omega)) ?_|refine oo (Pk rfl (by omega) (by omega)) ?_|refine oo (Pf rfl) ?_|refine oo (Pv rfl (by omega) (by omega)) ?_|refine oo (Pn rfl) ?_|refine oo (Ph rfl) ?_|refine oo (Pg rfl (by omega) (by omega)) ?_|refine oo (Pe rfl (by omega) (by omega)) ?_|refine oo (Po rfl (by omega) (by omega)) ?_|refine oo (Pm rfl) ?_|refine os rfl rfl ?_|refine ot rfl (by first|omega|(simp only [wr_length];omega)) ?_|refine O_nil ?_)|refine wo rfl ?_|refine wc rfl ?_|refine wg rfl ?_|refine go rfl ?_|refine gc rfl ?_|refine gg rfl ?_)
          exact G_stop ⟨SA3, B2, R', name, .inl ⟨hm2, hNd⟩, hl4, hl1, hR1, by (repeat (first | exact trivial | refine ⟨rfl, ?_⟩)), .rfl⟩
    · have hcells := hsc.cells
      by_cases hm1 : m = 1
      · obtain ⟨h, hl⟩ : ∃ h, lmsF T 0 = [h] := List.length_eq_one_iff.1 (by omega)
        obtain ⟨hb, hj⟩ := hsc.cons h [] hl
        have hh : Lms T h := (lmsF_mem.1 (show h ∈ lmsF T 0 by rw [hl]; exact List.mem_cons_self)).2
        have hhn := lms_lt hh
        have hsn := sl_lt_n hh
        have ejh : j + 1 = (h : Int) := by omega
        subst hb
        repeat' (first|(refine isO ?_;first|refine oo (Pc rfl) ?_|refine oo (Pa rfl (by omega) (by omega)) ?_|(refine ob rfl ?_ ?_<;>intro hq<;>try (exfalso;omega))|refine oo (Pi rfl (by first|omega|(simp only [wr_length];omega))) ?_|refine oo (Pz rfl (by omega) (by omega)) ?_|refine oo (Pl rfl) ?_|refine oo (Px rfl rfl) ?_|refine oo (Pj rfl (by omega) (by omega)) ?_|refine oo (Pk rfl (by omega) (by omega)) ?_|refine oo (Pf rfl) ?_|refine oo (Pv rfl (by omega) (by omega)) ?_|refine oo (Pn rfl) ?_|refine oo (Ph rfl) ?_|refine oo (Pg rfl (by omega) (by omega)) ?_|refine oo (Pe rfl (by omega) (by omega)) ?_|refine oo (Po rfl (by omega) (by omega)) ?_|refine oo (Pm rfl) ?_|refine os rfl rfl ?_|refine ot rfl (by first|omega|(simp only [wr_length];omega)) ?_|refine O_nil ?_)|refine wo rfl ?_|refine wc rfl ?_|refine wg rfl ?_|refine go rfl ?_|refine gc rfl ?_|refine gg rfl ?_)
        rw [ejh]
        rw [hl] at hcells
        refine G_stop ⟨_, B, R, 1, .inr ⟨by omega, hm1.symm, few_seeds (SA := wr SA (sl T h : Nat) (h : Int)) (by rw [wr_length]; exact hSl) (by omega) (fun x hx => ?_) fun p hp hx => ?_⟩, by rw [wr_length]; exact hSl, hBl, hRr, by (repeat (first | exact trivial | refine ⟨rfl, ?_⟩)), .rfl⟩
        · rw [hl, List.mem_singleton] at hx
          subst hx
          rw [Sais.rd_wr (by omega), if_pos rfl]
        · rw [hl] at hx
          rw [Sais.rd_wr (by omega), if_neg (fun e => hx h List.mem_cons_self e.symm)]
          exact hcells.miss p hp fun x hx2 => by simp at hx2
      · have hm0 : m = 0 := by omega
        have hl : lmsF T 0 = [] := List.eq_nil_of_length_eq_zero (by omega)
        rw [hl] at hcells
        repeat' (first|(refine isO ?_;first|refine oo (Pc rfl) ?_|refine oo (Pa rfl (by omega) (by omega)) ?_|(refine ob rfl ?_ ?_<;>intro hq<;>try (exfalso;omega))|refine oo (Pi rfl (by first|omega|(simp only [wr_length];omega))) ?_|refine oo (Pz rfl (by omega) (by omega)) ?_|refine oo (Pl rfl) ?_|refine oo (Px rfl rfl) ?_|refine oo (Pj rfl (by omega) (by omega)) ?_|refine oo (Pk rfl (by omega) (by omega)) ?_|refine oo (Pf rfl) ?_|refine oo (Pv rfl (by omega) (by omega)) ?_|refine oo (Pn rfl) ?_|refine oo (Ph rfl) ?_|refine oo (Pg rfl (by omega) (by omega)) ?_|refine oo (Pe rfl (by omega) (by omega)) ?_|refine oo (Po rfl (by omega) (by omega)) ?_|refine oo (Pm rfl) ?_|refine os rfl rfl ?_|refine ot rfl (by first|omega|(simp only [wr_length];omega)) ?_|refine O_nil ?_)|refine wo rfl ?_|refine wc rfl ?_|refine wg rfl ?_|refine go rfl ?_|refine gc rfl ?_|refine gg rfl ?_)
        exact G_stop ⟨SA, B, R, 0, .inr ⟨by omega, hm0.symm, few_seeds hSl (by omega) (fun x hx => by rw [hl] at hx; simp at hx) fun p hp _ => hcells.miss p hp fun x hx2 => by simp at hx2⟩, hSl, hBl, hRr, by (repeat (first | exact trivial | refine ⟨rfl, ?_⟩)), .rfl⟩
  clear hsc hSl hBl hRr SA B R
  rintro E' M' ⟨SA, B, R, name, hst, hSl, hB, hRr, hsub, hrk⟩
  refine G_code (W_weak hsub hrk ?_)
  exact partD T k hT hk5 fs hN fl c2 hfl SA C B R m hm name hst hC hB g hRr hSl own bT oT lT cT bS oS lS cS bB oB lB cB bC hL F hlT hlS hcS hne hneS hF hrec
end Go.Proofs.Ytcibehgcibojnaa.Saii
