/- computeSA: the suffixes in their order. Conditions: at most 1000 cells, letters less than 512; the same of shorter texts. getCounts, getBuckets. Conditions: the text's letters are less than k; at most 1000 letters. getBuckets: where each letter's part begins, or ends. Conditions: as getCounts. -/
import Derived.Test.YtcibehgcibojnaaW4x20
import Derived.Test.YtcibehgcibojnaaW4x02
import Derived.Test.YtcibehgcibojnaaW4x06

namespace Go.Proofs.Ytcibehgcibojnaa.Saib
open Go Go.RowKit Go.Proofs.Ytcibehgcibojnaa.Vm Go.Proofs.Ytcibehgcibojnaa.Sais Go.Proofs.Ytcibehgcibojnaa.Sai
theorem fl1 : Fl 1 false := ⟨by decide, by decide, by decide, by decide⟩
theorem fl17 : Fl 17 false := ⟨by decide, by decide, by decide, by decide⟩
theorem fl33 : Fl 33 false := ⟨by decide, by decide, by decide, by decide⟩
theorem fl3 : Fl 3 true := ⟨by decide, by decide, by decide, by decide⟩
theorem fl19 : Fl 19 true := ⟨by decide, by decide, by decide, by decide⟩
theorem fd1 : FlD 1 0 := ⟨fun _ => by decide, fun h => absurd h (by decide), fun h => absurd h (by decide), by decide⟩
theorem fd3 : FlD 3 0 := ⟨fun _ => by decide, fun h => absurd h (by decide), fun h => absurd h (by decide), by decide⟩
theorem fd17 : FlD 17 1 := ⟨fun h => absurd h (by decide), fun _ => ⟨by decide, by decide⟩, fun h => absurd h (by decide), by decide⟩
theorem fd19 : FlD 19 1 := ⟨fun h => absurd h (by decide), fun _ => ⟨by decide, by decide⟩, fun h => absurd h (by decide), by decide⟩
theorem fd33 : FlD 33 2 := ⟨fun h => absurd h (by decide), fun h => absurd h (by decide), fun _ => ⟨by decide, by decide⟩, by decide⟩
set_option maxHeartbeats 16000000 in
theorem csa_c (T : List Nat) (k : Nat) (hT : Txt T k) (hk5 : k ≤ 512) (fs n' : Nat) (hn' : T.length = n') (X : List Int) (hXl : X.length = n' + fs) (hN : n' + fs ≤ 1000)
    (own : Bool) (bT oT lT cT bS oS lS cS : Nat) (F : Mem) (hlT : n' ≤ lT) (hlS : n' + fs ≤ lS) (hcS : lS ≤ cS) (hF : Ne F) (hrec : Rec T.length) :
    HC Try.prog 12 #[.slice (some ⟨bT, oT, none⟩) lT cT, .slice (some ⟨bS, oS, none⟩) lS cS, .int .i64 fs, .int .i64 n', .int .i64 k]
      (⟨own, bT, oT, ints .u8 (T.map Nat.cast)⟩ :: ⟨true, bS, oS, ints .i64 X⟩ :: F)
      (fun v M' => v = .tuple #[] ∧ ∃ X' : List Int, X'.length = n' + fs ∧ SufA T X' ∧ Rk M' (⟨own, bT, oT, ints .u8 (T.map Nat.cast)⟩ :: ⟨true, bS, oS, ints .i64 X'⟩ :: F)) := by
  subst hn'
  have hn0 := hT.n0
  have hk0 := hT.k0
  refine HC_of_W (fn := Try.f12) Try.func12 rfl rfl rfl rfl ?_
  repeat' (first|(refine isO ?_;first|refine oo (Pc rfl) ?_|refine oo (Pa rfl (by omega) (by omega)) ?_|(refine ob rfl ?_ ?_<;>intro hq<;>try (exfalso;omega))|refine oo (Pi rfl (by first|omega|(simp only [wr_length];omega))) ?_|refine oo (Pz rfl (by omega) (by omega)) ?_|refine oo (Pl rfl) ?_|refine oo (Px rfl rfl) ?_|refine oo (Pj rfl (by omega) (by omega)) ?_|refine oo (Pk rfl (by omega) (by omega)) ?_|refine oo (Pf rfl) ?_|refine oo (Pv rfl (by omega) (by omega)) ?_|refine oo (Pn rfl) ?_|refine oo (Ph rfl) ?_|refine oo (Pg rfl (by omega) (by omega)) ?_|refine oo (Pe rfl (by omega) (by omega)) ?_|refine oo (Po rfl (by omega) (by omega)) ?_|refine oo (Pm rfl) ?_|refine os rfl rfl ?_|refine ot rfl (by first|omega|(simp only [wr_length];omega)) ?_|refine O_nil ?_)|refine wo rfl ?_|refine wc rfl ?_|refine wg rfl ?_|refine go rfl ?_|refine gc rfl ?_|refine gg rfl ?_)
  refine O_make25 (n := k) rfl (by omega) trivial rfl fun bC hbC => ?_
  have hneS : bC ≠ bS := fun e => hbC _ (.tail _ (.head _)) e.symm
  have hQ : 2 ≤ T.length / k ∨ ¬ 2 ≤ T.length / k := Decidable.em _
  have hqc : ((T.length / k : Nat) : Int) = (T.length : Int) / (k : Int) := rfl
  have hstop : Stop [27] := ⟨⟩
  by_cases hkf : k ≤ fs
  · obtain ⟨oB, hoB⟩ : ∃ oB, oB = oS + (T.length + (fs - k)) := ⟨_, rfl⟩
    repeat' (first|(refine isO ?_;first|refine oo (Pc rfl) ?_|refine oo (Pa rfl (by omega) (by omega)) ?_|(refine ob rfl ?_ ?_<;>intro hq<;>try (exfalso;omega))|refine oo (Pi rfl (by first|omega|(simp only [wr_length];omega))) ?_|refine oo (Pz rfl (by omega) (by omega)) ?_|refine oo (Pl rfl) ?_|refine oo (Px rfl rfl) ?_|refine oo (Pj rfl (by omega) (by omega)) ?_|refine oo (Pk rfl (by omega) (by omega)) ?_|refine oo (Pf rfl) ?_|refine oo (Pv rfl (by omega) (by omega)) ?_|refine oo (Pn rfl) ?_|refine oo (Ph rfl) ?_|refine oo (Pg rfl (by omega) (by omega)) ?_|refine oo (Pe rfl (by omega) (by omega)) ?_|refine oo (Po rfl (by omega) (by omega)) ?_|refine oo (Pm rfl) ?_|refine os rfl rfl ?_|refine ot rfl (by first|omega|(simp only [wr_length];omega)) ?_|refine O_nil ?_)|refine wu hstop rfl rfl ?_|refine gu hstop rfl rfl ?_|refine wc rfl ?_|refine wg rfl ?_|refine gc rfl ?_|refine gg rfl ?_)
    refine O_pure (P_slice1E (o' := oB) (len' := lS - (T.length + (fs - k))) (cap' := cS - (T.length + (fs - k))) Tb.u25 Tb.c3 rfl ⟨_, rfl⟩ rfl (by omega) (by omega) (by omega) (by omega) (by omega) (by omega) (by omega)) trivial rfl ?_
    repeat' (first|(refine isO ?_;first|refine oo (Pc rfl) ?_|refine oo (Pa rfl (by omega) (by omega)) ?_|(refine ob rfl ?_ ?_<;>intro hq<;>try (exfalso;omega))|refine oo (Pi rfl (by first|omega|(simp only [wr_length];omega))) ?_|refine oo (Pz rfl (by omega) (by omega)) ?_|refine oo (Pl rfl) ?_|refine oo (Px rfl rfl) ?_|refine oo (Pj rfl (by omega) (by omega)) ?_|refine oo (Pk rfl (by omega) (by omega)) ?_|refine oo (Pf rfl) ?_|refine oo (Pv rfl (by omega) (by omega)) ?_|refine oo (Pn rfl) ?_|refine oo (Ph rfl) ?_|refine oo (Pg rfl (by omega) (by omega)) ?_|refine oo (Pe rfl (by omega) (by omega)) ?_|refine oo (Po rfl (by omega) (by omega)) ?_|refine oo (Pm rfl) ?_|refine os rfl rfl ?_|refine ot rfl (by first|omega|(simp only [wr_length];omega)) ?_|refine O_nil ?_)|refine wu hstop rfl rfl ?_|refine gu hstop rfl rfl ?_|refine wc rfl ?_|refine wg rfl ?_|refine gc rfl ?_|refine gg rfl ?_)
    clear hstop
    have hsp : Rs (⟨true, bC, 0, ints .i64 (List.replicate k 0)⟩ :: ⟨own, bT, oT, ints .u8 (T.map Nat.cast)⟩ :: ⟨true, bS, oS, ints .i64 X⟩ :: F) (⟨own, bT, oT, ints .u8 (T.map Nat.cast)⟩ :: ⟨true, bS, oS, ints .i64 (X.take T.length)⟩ :: ⟨true, bC, 0, ints .i64 (List.replicate k 0)⟩ :: ⟨true, bS, oB, ints .i64 ((X.drop T.length).drop (fs - k))⟩ :: ⟨true, bS, oS + T.length, ints .i64 ((X.drop T.length).take (fs - k))⟩ :: F) :=
      .trans (.of (L := ⟨true, bS, oS, ints .i64 X⟩ :: ⟨own, bT, oT, ints .u8 (T.map Nat.cast)⟩ :: ⟨true, bC, 0, ints .i64 (List.replicate k 0)⟩ :: F) (.cons (.tail (.tail .head)) (.cons (.tail .head) .rfl)))
        (.trans (Rs.split (o2 := oS + T.length) (xs := ints .i64 (X.take T.length)) (ys := ints .i64 (X.drop T.length)) (by rw [← ints_append, List.take_append_drop]) (by rw [ints_length, List.length_take]; omega))
          (.trans (.of (L := ⟨true, bS, oS + T.length, ints .i64 (X.drop T.length)⟩ :: ⟨true, bS, oS, ints .i64 (X.take T.length)⟩ :: ⟨own, bT, oT, ints .u8 (T.map Nat.cast)⟩ :: ⟨true, bC, 0, ints .i64 (List.replicate k 0)⟩ :: F) (.cons (.tail .head) (.cons .head .rfl)))
            (.trans (Rs.split (o2 := oB) (xs := ints .i64 ((X.drop T.length).take (fs - k))) (ys := ints .i64 ((X.drop T.length).drop (fs - k))) (by rw [← ints_append, List.take_append_drop]) (by rw [ints_length, List.length_take, List.length_drop]; omega))
              (.of (.cons (.tail (.tail (.tail .head))) (.cons (.tail (.tail .head)) (.cons (.tail (.tail .head)) (.cons (.tail .head) .rfl))))))))
    refine W_re hsp ?_
    refine W_join1 (fun E' M' => ∃ (fl : Int) (dm : Nat), Fl fl false ∧ FlD fl dm ∧ (dm = 2 → 2 * k ≤ fs - k) ∧ Sub E' [(0, .slice (some ⟨bT, oT, none⟩) lT cT), (1, .slice (some ⟨bS, oS, none⟩) lS cS), (2, .int .i64 (fs : Nat)), (3, .int .i64 T.length), (4, .int .i64 k), (10, .slice (some ⟨bC, 0, none⟩) k k), (11, .slice (some ⟨bS, oB, none⟩) (lS - (T.length + (fs - k))) (cS - (T.length + (fs - k)))), (14, .int .i64 ((T.length : Int) + (fs : Int) - (k : Int))), (25, .int .u64 fl)] ∧
      Rk M' (⟨own, bT, oT, ints .u8 (T.map Nat.cast)⟩ :: ⟨true, bS, oS, ints .i64 (X.take T.length)⟩ :: ⟨true, bC, 0, ints .i64 (List.replicate k 0)⟩ :: ⟨true, bS, oB, ints .i64 ((X.drop T.length).drop (fs - k))⟩ :: ⟨true, bS, oS + T.length, ints .i64 ((X.drop T.length).take (fs - k))⟩ :: F)) ?_ ?_
    · repeat' (first|(refine isO ?_;first|refine oo (Pc rfl) ?_|refine oo (Pa rfl (by omega) (by omega)) ?_|(refine ob rfl ?_ ?_<;>intro hq<;>try (exfalso;omega))|refine oo (Pi rfl (by first|omega|(simp only [wr_length];omega))) ?_|refine oo (Pz rfl (by omega) (by omega)) ?_|refine oo (Pl rfl) ?_|refine oo (Px rfl rfl) ?_|refine oo (Pj rfl (by omega) (by omega)) ?_|refine oo (Pk rfl (by omega) (by omega)) ?_|refine oo (Pf rfl) ?_|refine oo (Pv rfl (by omega) (by omega)) ?_|refine oo (Pn rfl) ?_|refine oo (Ph rfl) ?_|refine oo (Pg rfl (by omega) (by omega)) ?_|refine oo (Pe rfl (by omega) (by omega)) ?_|refine oo (Po rfl (by omega) (by omega)) ?_|refine oo (Pm rfl) ?_|refine os rfl rfl ?_|refine ot rfl (by first|omega|(simp only [wr_length];omega)) ?_|refine O_nil ?_)|refine wo rfl ?_|refine wc rfl ?_|refine wg rfl ?_|refine go rfl ?_|refine gc rfl ?_|refine gg rfl ?_)
      refine O_pure (P_quo rfl rfl (by omega) (by omega) (inK_i64 (by omega) (by omega))) ⟨_, rfl, rfl⟩ rfl ?_
      rcases hQ with h2 | h2
      · repeat' (first|(refine isO ?_;first|refine oo (Pc rfl) ?_|refine oo (Pa rfl (by omega) (by omega)) ?_|(refine ob rfl ?_ ?_<;>intro hq<;>try (exfalso;omega))|refine oo (Pi rfl (by first|omega|(simp only [wr_length];omega))) ?_|refine oo (Pz rfl (by omega) (by omega)) ?_|refine oo (Pl rfl) ?_|refine oo (Px rfl rfl) ?_|refine oo (Pj rfl (by omega) (by omega)) ?_|refine oo (Pk rfl (by omega) (by omega)) ?_|refine oo (Pf rfl) ?_|refine oo (Pv rfl (by omega) (by omega)) ?_|refine oo (Pn rfl) ?_|refine oo (Ph rfl) ?_|refine oo (Pg rfl (by omega) (by omega)) ?_|refine oo (Pe rfl (by omega) (by omega)) ?_|refine oo (Po rfl (by omega) (by omega)) ?_|refine oo (Pm rfl) ?_|refine os rfl rfl ?_|refine ot rfl (by first|omega|(simp only [wr_length];omega)) ?_|refine O_nil ?_)|refine wo rfl ?_|refine wc rfl ?_|refine wg rfl ?_|refine go rfl ?_|refine gc rfl ?_|refine gg rfl ?_)
        refine oo (Pfl (r := 1) rfl (by decide)) ?_
        by_cases h3 : 2 * k ≤ fs - k
        · repeat' (first|(refine isO ?_;first|refine oo (Pc rfl) ?_|refine oo (Pa rfl (by omega) (by omega)) ?_|(refine ob rfl ?_ ?_<;>intro hq<;>try (exfalso;omega))|refine oo (Pi rfl (by first|omega|(simp only [wr_length];omega))) ?_|refine oo (Pz rfl (by omega) (by omega)) ?_|refine oo (Pl rfl) ?_|refine oo (Px rfl rfl) ?_|refine oo (Pj rfl (by omega) (by omega)) ?_|refine oo (Pk rfl (by omega) (by omega)) ?_|refine oo (Pf rfl) ?_|refine oo (Pv rfl (by omega) (by omega)) ?_|refine oo (Pn rfl) ?_|refine oo (Ph rfl) ?_|refine oo (Pg rfl (by omega) (by omega)) ?_|refine oo (Pe rfl (by omega) (by omega)) ?_|refine oo (Po rfl (by omega) (by omega)) ?_|refine oo (Pm rfl) ?_|refine os rfl rfl ?_|refine ot rfl (by first|omega|(simp only [wr_length];omega)) ?_|refine O_nil ?_)|refine wo rfl ?_|refine wc rfl ?_|refine wg rfl ?_|refine go rfl ?_|refine gc rfl ?_|refine gg rfl ?_)
          refine oo (Pfo (r := 33) rfl (by decide)) ?_
          repeat' (first|(refine isO ?_;first|refine oo (Pc rfl) ?_|refine oo (Pa rfl (by omega) (by omega)) ?_|(refine ob rfl ?_ ?_<;>intro hq<;>try (exfalso;omega))|refine oo (Pi rfl (by first|omega|(simp only [wr_length];omega))) ?_|refine oo (Pz rfl (by omega) (by omega)) ?_|refine oo (Pl rfl) ?_|refine oo (Px rfl rfl) ?_|refine oo (Pj rfl (by omega) (by omega)) ?_|refine oo (Pk rfl (by omega) (by omega)) ?_|refine oo (Pf rfl) ?_|refine oo (Pv rfl (by omega) (by omega)) ?_|refine oo (Pn rfl) ?_|refine oo (Ph rfl) ?_|refine oo (Pg rfl (by omega) (by omega)) ?_|refine oo (Pe rfl (by omega) (by omega)) ?_|refine oo (Po rfl (by omega) (by omega)) ?_|refine oo (Pm rfl) ?_|refine os rfl rfl ?_|refine ot rfl (by first|omega|(simp only [wr_length];omega)) ?_|refine O_nil ?_)|refine wo rfl ?_|refine wc rfl ?_|refine wg rfl ?_|refine go rfl ?_|refine gc rfl ?_|refine gg rfl ?_)
          exact G_stop ⟨33, 2, fl33, fd33, fun _ => h3, by (repeat (first | exact trivial | refine ⟨rfl, ?_⟩)), .rfl⟩
        · repeat' (first|(refine isO ?_;first|refine oo (Pc rfl) ?_|refine oo (Pa rfl (by omega) (by omega)) ?_|(refine ob rfl ?_ ?_<;>intro hq<;>try (exfalso;omega))|refine oo (Pi rfl (by first|omega|(simp only [wr_length];omega))) ?_|refine oo (Pz rfl (by omega) (by omega)) ?_|refine oo (Pl rfl) ?_|refine oo (Px rfl rfl) ?_|refine oo (Pj rfl (by omega) (by omega)) ?_|refine oo (Pk rfl (by omega) (by omega)) ?_|refine oo (Pf rfl) ?_|refine oo (Pv rfl (by omega) (by omega)) ?_|refine oo (Pn rfl) ?_|refine oo (Ph rfl) ?_|refine oo (Pg rfl (by omega) (by omega)) ?_|refine oo (Pe rfl (by omega) (by omega)) ?_|refine oo (Po rfl (by omega) (by omega)) ?_|refine oo (Pm rfl) ?_|refine os rfl rfl ?_|refine ot rfl (by first|omega|(simp only [wr_length];omega)) ?_|refine O_nil ?_)|refine wo rfl ?_|refine wc rfl ?_|refine wg rfl ?_|refine go rfl ?_|refine gc rfl ?_|refine gg rfl ?_)
          refine oo (Pfo (r := 17) rfl (by decide)) ?_
          repeat' (first|(refine isO ?_;first|refine oo (Pc rfl) ?_|refine oo (Pa rfl (by omega) (by omega)) ?_|(refine ob rfl ?_ ?_<;>intro hq<;>try (exfalso;omega))|refine oo (Pi rfl (by first|omega|(simp only [wr_length];omega))) ?_|refine oo (Pz rfl (by omega) (by omega)) ?_|refine oo (Pl rfl) ?_|refine oo (Px rfl rfl) ?_|refine oo (Pj rfl (by omega) (by omega)) ?_|refine oo (Pk rfl (by omega) (by omega)) ?_|refine oo (Pf rfl) ?_|refine oo (Pv rfl (by omega) (by omega)) ?_|refine oo (Pn rfl) ?_|refine oo (Ph rfl) ?_|refine oo (Pg rfl (by omega) (by omega)) ?_|refine oo (Pe rfl (by omega) (by omega)) ?_|refine oo (Po rfl (by omega) (by omega)) ?_|refine oo (Pm rfl) ?_|refine os rfl rfl ?_|refine ot rfl (by first|omega|(simp only [wr_length];omega)) ?_|refine O_nil ?_)|refine wo rfl ?_|refine wc rfl ?_|refine wg rfl ?_|refine go rfl ?_|refine gc rfl ?_|refine gg rfl ?_)
          exact G_stop ⟨17, 1, fl17, fd17, fun h => absurd h (by decide), by (repeat (first | exact trivial | refine ⟨rfl, ?_⟩)), .rfl⟩
      · repeat' (first|(refine isO ?_;first|refine oo (Pc rfl) ?_|refine oo (Pa rfl (by omega) (by omega)) ?_|(refine ob rfl ?_ ?_<;>intro hq<;>try (exfalso;omega))|refine oo (Pi rfl (by first|omega|(simp only [wr_length];omega))) ?_|refine oo (Pz rfl (by omega) (by omega)) ?_|refine oo (Pl rfl) ?_|refine oo (Px rfl rfl) ?_|refine oo (Pj rfl (by omega) (by omega)) ?_|refine oo (Pk rfl (by omega) (by omega)) ?_|refine oo (Pf rfl) ?_|refine oo (Pv rfl (by omega) (by omega)) ?_|refine oo (Pn rfl) ?_|refine oo (Ph rfl) ?_|refine oo (Pg rfl (by omega) (by omega)) ?_|refine oo (Pe rfl (by omega) (by omega)) ?_|refine oo (Po rfl (by omega) (by omega)) ?_|refine oo (Pm rfl) ?_|refine os rfl rfl ?_|refine ot rfl (by first|omega|(simp only [wr_length];omega)) ?_|refine O_nil ?_)|refine wo rfl ?_|refine wc rfl ?_|refine wg rfl ?_|refine go rfl ?_|refine gc rfl ?_|refine gg rfl ?_)
        exact G_stop ⟨1, 0, fl1, fd1, fun h => absurd h (by decide), by (repeat (first | exact trivial | refine ⟨rfl, ?_⟩)), .rfl⟩
    rintro E' M' ⟨fl, dm, hfl, hfd, hdm, hsub, hrk⟩
    refine G_code (W_weak hsub hrk ?_)
    exact partB T k hT hk5 fs hN fl false hfl dm hfd _ _ _ _ (by rw [List.length_take]; omega) List.length_replicate (by rw [List.length_drop, List.length_drop]; omega) (fs - k) (by rw [List.length_take, List.length_drop]; omega) _
      own bT oT lT cT bS oS lS cS bS oB _ _ bC ⟨fun h => absurd h (by decide), fun _ => ⟨by omega, rfl, hoB⟩, by omega⟩ (fun h => ⟨by omega, hdm h⟩) F hlT hlS hcS hneS hneS hF hrec (by omega)
  · repeat' (first|(refine isO ?_;first|refine oo (Pc rfl) ?_|refine oo (Pa rfl (by omega) (by omega)) ?_|(refine ob rfl ?_ ?_<;>intro hq<;>try (exfalso;omega))|refine oo (Pi rfl (by first|omega|(simp only [wr_length];omega))) ?_|refine oo (Pz rfl (by omega) (by omega)) ?_|refine oo (Pl rfl) ?_|refine oo (Px rfl rfl) ?_|refine oo (Pj rfl (by omega) (by omega)) ?_|refine oo (Pk rfl (by omega) (by omega)) ?_|refine oo (Pf rfl) ?_|refine oo (Pv rfl (by omega) (by omega)) ?_|refine oo (Pn rfl) ?_|refine oo (Ph rfl) ?_|refine oo (Pg rfl (by omega) (by omega)) ?_|refine oo (Pe rfl (by omega) (by omega)) ?_|refine oo (Po rfl (by omega) (by omega)) ?_|refine oo (Pm rfl) ?_|refine os rfl rfl ?_|refine ot rfl (by first|omega|(simp only [wr_length];omega)) ?_|refine O_nil ?_)|refine wu hstop rfl rfl ?_|refine gu hstop rfl rfl ?_|refine wc rfl ?_|refine wg rfl ?_|refine gc rfl ?_|refine gg rfl ?_)
    refine O_make25 (n := k) rfl (by omega) trivial rfl fun bB hbB => ?_
    have hne : bC ≠ bB := hbB _ (.head _)
    repeat' (first|(refine isO ?_;first|refine oo (Pc rfl) ?_|refine oo (Pa rfl (by omega) (by omega)) ?_|(refine ob rfl ?_ ?_<;>intro hq<;>try (exfalso;omega))|refine oo (Pi rfl (by first|omega|(simp only [wr_length];omega))) ?_|refine oo (Pz rfl (by omega) (by omega)) ?_|refine oo (Pl rfl) ?_|refine oo (Px rfl rfl) ?_|refine oo (Pj rfl (by omega) (by omega)) ?_|refine oo (Pk rfl (by omega) (by omega)) ?_|refine oo (Pf rfl) ?_|refine oo (Pv rfl (by omega) (by omega)) ?_|refine oo (Pn rfl) ?_|refine oo (Ph rfl) ?_|refine oo (Pg rfl (by omega) (by omega)) ?_|refine oo (Pe rfl (by omega) (by omega)) ?_|refine oo (Po rfl (by omega) (by omega)) ?_|refine oo (Pm rfl) ?_|refine os rfl rfl ?_|refine ot rfl (by first|omega|(simp only [wr_length];omega)) ?_|refine O_nil ?_)|refine wu hstop rfl rfl ?_|refine gu hstop rfl rfl ?_|refine wc rfl ?_|refine wg rfl ?_|refine gc rfl ?_|refine gg rfl ?_)
    clear hstop
    have hsp : Rs (⟨true, bB, 0, ints .i64 (List.replicate k 0)⟩ :: ⟨true, bC, 0, ints .i64 (List.replicate k 0)⟩ :: ⟨own, bT, oT, ints .u8 (T.map Nat.cast)⟩ :: ⟨true, bS, oS, ints .i64 X⟩ :: F) (⟨own, bT, oT, ints .u8 (T.map Nat.cast)⟩ :: ⟨true, bS, oS, ints .i64 (X.take T.length)⟩ :: ⟨true, bC, 0, ints .i64 (List.replicate k 0)⟩ :: ⟨true, bB, 0, ints .i64 (List.replicate k 0)⟩ :: ⟨true, bS, oS + T.length, ints .i64 (X.drop T.length)⟩ :: F) :=
      .trans (.of (L := ⟨true, bS, oS, ints .i64 X⟩ :: ⟨own, bT, oT, ints .u8 (T.map Nat.cast)⟩ :: ⟨true, bC, 0, ints .i64 (List.replicate k 0)⟩ :: ⟨true, bB, 0, ints .i64 (List.replicate k 0)⟩ :: F) (.cons (.tail (.tail (.tail .head))) (.cons (.tail (.tail .head)) (.cons (.tail .head) .rfl))))
        (.trans (Rs.split (o2 := oS + T.length) (xs := ints .i64 (X.take T.length)) (ys := ints .i64 (X.drop T.length)) (by rw [← ints_append, List.take_append_drop]) (by rw [ints_length, List.length_take]; omega))
          (.of (.cons (.tail (.tail .head)) (.cons .head (.cons (.tail .head) (.cons (.tail .head) .rfl))))))
    refine W_re hsp ?_
    refine W_join1 (fun E' M' => ∃ (fl : Int) (dm : Nat), Fl fl true ∧ FlD fl dm ∧ (dm ≠ 2) ∧ Sub E' [(0, .slice (some ⟨bT, oT, none⟩) lT cT), (1, .slice (some ⟨bS, oS, none⟩) lS cS), (2, .int .i64 (fs : Nat)), (3, .int .i64 T.length), (4, .int .i64 k), (10, .slice (some ⟨bC, 0, none⟩) k k), (11, .slice (some ⟨bB, 0, none⟩) k k), (14, .int .i64 0), (25, .int .u64 fl)] ∧
      Rk M' (⟨own, bT, oT, ints .u8 (T.map Nat.cast)⟩ :: ⟨true, bS, oS, ints .i64 (X.take T.length)⟩ :: ⟨true, bC, 0, ints .i64 (List.replicate k 0)⟩ :: ⟨true, bB, 0, ints .i64 (List.replicate k 0)⟩ :: ⟨true, bS, oS + T.length, ints .i64 (X.drop T.length)⟩ :: F)) ?_ ?_
    · repeat' (first|(refine isO ?_;first|refine oo (Pc rfl) ?_|refine oo (Pa rfl (by omega) (by omega)) ?_|(refine ob rfl ?_ ?_<;>intro hq<;>try (exfalso;omega))|refine oo (Pi rfl (by first|omega|(simp only [wr_length];omega))) ?_|refine oo (Pz rfl (by omega) (by omega)) ?_|refine oo (Pl rfl) ?_|refine oo (Px rfl rfl) ?_|refine oo (Pj rfl (by omega) (by omega)) ?_|refine oo (Pk rfl (by omega) (by omega)) ?_|refine oo (Pf rfl) ?_|refine oo (Pv rfl (by omega) (by omega)) ?_|refine oo (Pn rfl) ?_|refine oo (Ph rfl) ?_|refine oo (Pg rfl (by omega) (by omega)) ?_|refine oo (Pe rfl (by omega) (by omega)) ?_|refine oo (Po rfl (by omega) (by omega)) ?_|refine oo (Pm rfl) ?_|refine os rfl rfl ?_|refine ot rfl (by first|omega|(simp only [wr_length];omega)) ?_|refine O_nil ?_)|refine wo rfl ?_|refine wc rfl ?_|refine wg rfl ?_|refine go rfl ?_|refine gc rfl ?_|refine gg rfl ?_)
      refine O_pure (P_quo rfl rfl (by omega) (by omega) (inK_i64 (by omega) (by omega))) ⟨_, rfl, rfl⟩ rfl ?_
      rcases hQ with h2 | h2
      · repeat' (first|(refine isO ?_;first|refine oo (Pc rfl) ?_|refine oo (Pa rfl (by omega) (by omega)) ?_|(refine ob rfl ?_ ?_<;>intro hq<;>try (exfalso;omega))|refine oo (Pi rfl (by first|omega|(simp only [wr_length];omega))) ?_|refine oo (Pz rfl (by omega) (by omega)) ?_|refine oo (Pl rfl) ?_|refine oo (Px rfl rfl) ?_|refine oo (Pj rfl (by omega) (by omega)) ?_|refine oo (Pk rfl (by omega) (by omega)) ?_|refine oo (Pf rfl) ?_|refine oo (Pv rfl (by omega) (by omega)) ?_|refine oo (Pn rfl) ?_|refine oo (Ph rfl) ?_|refine oo (Pg rfl (by omega) (by omega)) ?_|refine oo (Pe rfl (by omega) (by omega)) ?_|refine oo (Po rfl (by omega) (by omega)) ?_|refine oo (Pm rfl) ?_|refine os rfl rfl ?_|refine ot rfl (by first|omega|(simp only [wr_length];omega)) ?_|refine O_nil ?_)|refine wo rfl ?_|refine wc rfl ?_|refine wg rfl ?_|refine go rfl ?_|refine gc rfl ?_|refine gg rfl ?_)
        refine oo (Pfl (r := 1) rfl (by decide)) ?_
        repeat' (first|(refine isO ?_;first|refine oo (Pc rfl) ?_|refine oo (Pa rfl (by omega) (by omega)) ?_|(refine ob rfl ?_ ?_<;>intro hq<;>try (exfalso;omega))|refine oo (Pi rfl (by first|omega|(simp only [wr_length];omega))) ?_|refine oo (Pz rfl (by omega) (by omega)) ?_|refine oo (Pl rfl) ?_|refine oo (Px rfl rfl) ?_|refine oo (Pj rfl (by omega) (by omega)) ?_|refine oo (Pk rfl (by omega) (by omega)) ?_|refine oo (Pf rfl) ?_|refine oo (Pv rfl (by omega) (by omega)) ?_|refine oo (Pn rfl) ?_|refine oo (Ph rfl) ?_|refine oo (Pg rfl (by omega) (by omega)) ?_|refine oo (Pe rfl (by omega) (by omega)) ?_|refine oo (Po rfl (by omega) (by omega)) ?_|refine oo (Pm rfl) ?_|refine os rfl rfl ?_|refine ot rfl (by first|omega|(simp only [wr_length];omega)) ?_|refine O_nil ?_)|refine wo rfl ?_|refine wc rfl ?_|refine wg rfl ?_|refine go rfl ?_|refine gc rfl ?_|refine gg rfl ?_)
        refine oo (Pfo (r := 19) rfl (by decide)) ?_
        repeat' (first|(refine isO ?_;first|refine oo (Pc rfl) ?_|refine oo (Pa rfl (by omega) (by omega)) ?_|(refine ob rfl ?_ ?_<;>intro hq<;>try (exfalso;omega))|refine oo (Pi rfl (by first|omega|(simp only [wr_length];omega))) ?_|refine oo (Pz rfl (by omega) (by omega)) ?_|refine oo (Pl rfl) ?_|refine oo (Px rfl rfl) ?_|refine oo (Pj rfl (by omega) (by omega)) ?_|refine oo (Pk rfl (by omega) (by omega)) ?_|refine oo (Pf rfl) ?_|refine oo (Pv rfl (by omega) (by omega)) ?_|refine oo (Pn rfl) ?_|refine oo (Ph rfl) ?_|refine oo (Pg rfl (by omega) (by omega)) ?_|refine oo (Pe rfl (by omega) (by omega)) ?_|refine oo (Po rfl (by omega) (by omega)) ?_|refine oo (Pm rfl) ?_|refine os rfl rfl ?_|refine ot rfl (by first|omega|(simp only [wr_length];omega)) ?_|refine O_nil ?_)|refine wo rfl ?_|refine wc rfl ?_|refine wg rfl ?_|refine go rfl ?_|refine gc rfl ?_|refine gg rfl ?_)
        exact G_stop ⟨19, 1, fl19, fd19, by decide, by (repeat (first | exact trivial | refine ⟨rfl, ?_⟩)), .rfl⟩
      · repeat' (first|(refine isO ?_;first|refine oo (Pc rfl) ?_|refine oo (Pa rfl (by omega) (by omega)) ?_|(refine ob rfl ?_ ?_<;>intro hq<;>try (exfalso;omega))|refine oo (Pi rfl (by first|omega|(simp only [wr_length];omega))) ?_|refine oo (Pz rfl (by omega) (by omega)) ?_|refine oo (Pl rfl) ?_|refine oo (Px rfl rfl) ?_|refine oo (Pj rfl (by omega) (by omega)) ?_|refine oo (Pk rfl (by omega) (by omega)) ?_|refine oo (Pf rfl) ?_|refine oo (Pv rfl (by omega) (by omega)) ?_|refine oo (Pn rfl) ?_|refine oo (Ph rfl) ?_|refine oo (Pg rfl (by omega) (by omega)) ?_|refine oo (Pe rfl (by omega) (by omega)) ?_|refine oo (Po rfl (by omega) (by omega)) ?_|refine oo (Pm rfl) ?_|refine os rfl rfl ?_|refine ot rfl (by first|omega|(simp only [wr_length];omega)) ?_|refine O_nil ?_)|refine wo rfl ?_|refine wc rfl ?_|refine wg rfl ?_|refine go rfl ?_|refine gc rfl ?_|refine gg rfl ?_)
        exact G_stop ⟨3, 0, fl3, fd3, by decide, by (repeat (first | exact trivial | refine ⟨rfl, ?_⟩)), .rfl⟩
    rintro E' M' ⟨fl, dm, hfl, hfd, hdm, hsub, hrk⟩
    refine G_code (W_weak hsub hrk ?_)
    exact partB T k hT hk5 fs hN fl true hfl dm hfd _ _ _ _ (by rw [List.length_take]; omega) List.length_replicate List.length_replicate fs (by rw [List.length_drop]; omega) _
      own bT oT lT cT bS oS lS cS bB 0 k k bC ⟨fun _ => rfl, fun h => absurd h (by decide), Nat.le_refl _⟩ (fun h => absurd h hdm) F hlT hlS hcS hne hneS hF hrec (Nat.le_refl _)
end Go.Proofs.Ytcibehgcibojnaa.Saib

namespace Go.Proofs.Ytcibehgcibojnaa.Saii
open Go Go.RowKit Go.Proofs.Ytcibehgcibojnaa.Vm Go.Proofs.Ytcibehgcibojnaa.Sais
theorem getCounts_c (T : List Nat) (k : Nat) (hT : Txt T k) (C : List Int) (own : Bool) (bT oT lT cT bC oC lC cC : Nat) (F : Mem) (hlT : T.length ≤ lT) (hlC : k ≤ lC) (hC : C.length = k) :
    HC Try.prog 21 #[.slice (some ⟨bT, oT, none⟩) lT cT, .slice (some ⟨bC, oC, none⟩) lC cC, .int .i64 T.length, .int .i64 k]
      (⟨own, bT, oT, ints .i64 (T.map Nat.cast)⟩ :: ⟨true, bC, oC, ints .i64 C⟩ :: F)
      (fun v M' => v = .tuple #[] ∧ ∃ C', Cnt T T.length k C' ∧ M' = ⟨own, bT, oT, ints .i64 (T.map Nat.cast)⟩ :: ⟨true, bC, oC, ints .i64 C'⟩ :: F) := by
  obtain ⟨hn0, hn1, hk1, hlt⟩ := hT
  refine HC_of_W (fn := Try.f21) Try.func21 rfl rfl rfl rfl ?_
  repeat' (first|(refine isO ?_;first|refine oo (Pc rfl) ?_|refine oo (Pa rfl (by omega) (by omega)) ?_|(refine ob rfl ?_ ?_<;>intro hq<;>try (exfalso;omega))|refine oo (Pi rfl (by omega)) ?_|refine oo (Pl rfl) ?_|refine oo (Px rfl rfl) ?_|refine oo (Pj rfl (by omega) (by omega)) ?_|refine oo (Pk rfl (by omega) (by omega)) ?_|refine oo (Pf rfl) ?_|refine oo (Pv rfl (by omega) (by omega)) ?_|refine oo (Pn rfl) ?_|refine oo (Pm rfl) ?_|refine os rfl rfl ?_|refine ot rfl (by omega) ?_|refine O_nil ?_)|refine wo rfl ?_|refine wc rfl ?_|refine wg rfl ?_|refine go rfl ?_|refine gc rfl ?_|refine gg rfl ?_)
  refine W_loop (α := Nat × List Int) (fun x => [(0, .slice (some ⟨bT, oT, none⟩) lT cT), (1, .slice (some ⟨bC, oC, none⟩) lC cC), (2, .int .i64 T.length), (3, .int .i64 k), (8, .int .i64 x.1)])
    (fun x => ⟨own, bT, oT, ints .i64 (T.map Nat.cast)⟩ :: ⟨true, bC, oC, ints .i64 x.2⟩ :: F) (fun x => x.1 ≤ k ∧ x.2.length = k ∧ ∀ c, c < x.1 → rd x.2 (c : Int) = 0) (fun x => k - x.1) (0, C) ⟨by omega, hC, fun c hc => by omega⟩ ⟨rfl, rfl, rfl, rfl, rfl, trivial⟩ .rfl ?_
  rintro ⟨i, C1⟩ ⟨hi, hC1, hz⟩
  dsimp only at hi hC1 hz ⊢
  repeat' (first|(refine isO ?_;first|refine oo (Pc rfl) ?_|refine oo (Pa rfl (by omega) (by omega)) ?_|(refine ob rfl ?_ ?_<;>intro hq<;>try (exfalso;omega))|refine oo (Pi rfl (by omega)) ?_|refine oo (Pl rfl) ?_|refine oo (Px rfl rfl) ?_|refine oo (Pj rfl (by omega) (by omega)) ?_|refine oo (Pk rfl (by omega) (by omega)) ?_|refine oo (Pf rfl) ?_|refine oo (Pv rfl (by omega) (by omega)) ?_|refine oo (Pn rfl) ?_|refine oo (Pm rfl) ?_|refine os rfl rfl ?_|refine ot rfl (by omega) ?_|refine O_nil ?_)|refine wo rfl ?_|refine wc rfl ?_|refine wg rfl ?_|refine go rfl ?_|refine gc rfl ?_|refine gg rfl ?_)
  · refine G_stop ⟨(i + 1, wr C1 i 0), ⟨by dsimp only; omega, by rw [wr_length]; exact hC1, fun c hc => ?_⟩, by dsimp only; omega, ⟨rfl, rfl, rfl, rfl, rfl, trivial⟩, .rfl⟩
    dsimp only at hc ⊢
    rw [rd_wr (by omega)]
    by_cases e : c = i
    · rw [if_pos e]
    · rw [if_neg e]; exact hz c (by omega)
  · refine W_loop (α := Nat × List Int) (fun x => [(0, .slice (some ⟨bT, oT, none⟩) lT cT), (1, .slice (some ⟨bC, oC, none⟩) lC cC), (2, .int .i64 T.length), (3, .int .i64 k), (8, .int .i64 x.1)])
      (fun x => ⟨own, bT, oT, ints .i64 (T.map Nat.cast)⟩ :: ⟨true, bC, oC, ints .i64 x.2⟩ :: F) (fun x => x.1 ≤ T.length ∧ Cnt T x.1 k x.2) (fun x => T.length - x.1) (0, C1) ⟨by omega, .zero hC1 fun c hc => hz c (by omega)⟩ ⟨rfl, rfl, rfl, rfl, rfl, trivial⟩ .rfl ?_
    rintro ⟨i, C2⟩ ⟨hi, hC2⟩
    dsimp only at hi hC2 ⊢
    have hl2 := hC2.1
    have hc := rd_ch T i
    have hcl := hlt i
    have hlen : (T.map (Nat.cast : Nat → Int)).length = T.length := List.length_map _
    have h3 := hC2.2 _ hcl
    have h4 := cnt_le T i (ch T i)
    rw [← hc] at h3
    repeat' (first|(refine isO ?_;first|refine oo (Pc rfl) ?_|refine oo (Pa rfl (by omega) (by omega)) ?_|(refine ob rfl ?_ ?_<;>intro hq<;>try (exfalso;omega))|refine oo (Pi rfl (by omega)) ?_|refine oo (Pl rfl) ?_|refine oo (Px rfl rfl) ?_|refine oo (Pj rfl (by omega) (by omega)) ?_|refine oo (Pk rfl (by omega) (by omega)) ?_|refine oo (Pf rfl) ?_|refine oo (Pv rfl (by omega) (by omega)) ?_|refine oo (Pn rfl) ?_|refine oo (Pm rfl) ?_|refine os rfl rfl ?_|refine ot rfl (by omega) ?_|refine O_nil ?_)|refine wo rfl ?_|refine wc rfl ?_|refine wg rfl ?_|refine go rfl ?_|refine gc rfl ?_|refine gg rfl ?_)
    · refine G_stop ⟨(i + 1, wr C2 (ch T i : Nat) (rd C2 (ch T i : Nat) + 1)), ⟨by dsimp only; omega, hC2.step hcl⟩, by dsimp only; omega, ⟨rfl, rfl, rfl, rfl, rfl, trivial⟩, ?_⟩
      rw [← hc]
      exact .rfl
    · obtain rfl : i = T.length := by omega
      exact G_fin ⟨_, rfl, rfl, C2, hC2, rfl⟩
end Go.Proofs.Ytcibehgcibojnaa.Saii

namespace Go.Proofs.Ytcibehgcibojnaa.Saii
open Go Go.RowKit Go.Proofs.Ytcibehgcibojnaa.Vm Go.Proofs.Ytcibehgcibojnaa.Sais
theorem ends_c (T : List Nat) (k : Nat) (hT : Txt T k) (C B : List Int) (bB oB lB cB bC oC lC cC : Nat) (F : Mem) (hlB : k ≤ lB) (hlC : k ≤ lC) (hC : Cnt T T.length k C) (hB : B.length = k) :
    HC Try.prog 22 #[.slice (some ⟨bC, oC, none⟩) lC cC, .slice (some ⟨bB, oB, none⟩) lB cB, .int .i64 k, .bool true]
      (⟨true, bC, oC, ints .i64 C⟩ :: ⟨true, bB, oB, ints .i64 B⟩ :: F)
      (fun v M' => v = .tuple #[] ∧ ∃ B', EndsTo T k k B' ∧ M' = ⟨true, bC, oC, ints .i64 C⟩ :: ⟨true, bB, oB, ints .i64 B'⟩ :: F) := by
  obtain ⟨hn0, hn1, hk1, hlt⟩ := hT
  have hlC2 := hC.1
  refine HC_of_W (fn := Try.f22) Try.func22 rfl rfl rfl rfl ?_
  repeat' (first|(refine isO ?_;first|refine oo (Pc rfl) ?_|refine oo (Pa rfl (by omega) (by omega)) ?_|(refine ob rfl ?_ ?_<;>intro hq<;>try (exfalso;omega))|refine oo (Pi rfl (by omega)) ?_|refine oo (Pl rfl) ?_|refine oo (Px rfl rfl) ?_|refine oo (Pj rfl (by omega) (by omega)) ?_|refine oo (Pk rfl (by omega) (by omega)) ?_|refine oo (Pf rfl) ?_|refine oo (Pv rfl (by omega) (by omega)) ?_|refine oo (Pn rfl) ?_|refine oo (Pm rfl) ?_|refine os rfl rfl ?_|refine ot rfl (by omega) ?_|refine O_nil ?_)|refine wo rfl ?_|refine wc rfl ?_|refine wg rfl ?_|refine go rfl ?_|refine gc rfl ?_|refine gg rfl ?_)
  refine W_loop (α := Nat × List Int) (fun x => [(0, .slice (some ⟨bC, oC, none⟩) lC cC), (1, .slice (some ⟨bB, oB, none⟩) lB cB), (2, .int .i64 k), (8, .int .i64 x.1), (9, .int .i64 (bst T x.1 : Nat))])
    (fun x => ⟨true, bC, oC, ints .i64 C⟩ :: ⟨true, bB, oB, ints .i64 x.2⟩ :: F) (fun x => x.1 ≤ k ∧ EndsTo T x.1 k x.2) (fun x => k - x.1) (0, B) ⟨by omega, hB, fun c hc => by omega⟩ ⟨rfl, rfl, rfl, rfl, by rw [bst_zero]; rfl, trivial⟩ .rfl ?_
  rintro ⟨i, B1⟩ ⟨hi, hB1⟩
  dsimp only at hi hB1 ⊢
  have h1 := hB1.1
  have h2 := bst_le T i
  have h3 := bst_cnt T i
  have h4 := bst_le T (i + 1)
  by_cases hik : i < k
  · have h5 := hC.2 i hik
    have h6 : ((bst T i : Nat) : Int) + rd C i = (bst T (i + 1) : Nat) := by rw [h5, h3]; rfl
    repeat' (first|(refine isO ?_;first|refine oo (Pc rfl) ?_|refine oo (Pa rfl (by omega) (by omega)) ?_|(refine ob rfl ?_ ?_<;>intro hq<;>try (exfalso;omega))|refine oo (Pi rfl (by omega)) ?_|refine oo (Pl rfl) ?_|refine oo (Px rfl rfl) ?_|refine oo (Pj rfl (by omega) (by omega)) ?_|refine oo (Pk rfl (by omega) (by omega)) ?_|refine oo (Pf rfl) ?_|refine oo (Pv rfl (by omega) (by omega)) ?_|refine oo (Pn rfl) ?_|refine oo (Pm rfl) ?_|refine os rfl rfl ?_|refine ot rfl (by omega) ?_|refine O_nil ?_)|refine wo rfl ?_|refine wc rfl ?_|refine wg rfl ?_|refine go rfl ?_|refine gc rfl ?_|refine gg rfl ?_)
    rw [h6]
    exact G_stop ⟨(i + 1, wr B1 i (bst T (i + 1) : Nat)), ⟨by dsimp only; omega, hB1.step hik rfl⟩, by dsimp only; omega, ⟨rfl, rfl, rfl, rfl, rfl, trivial⟩, .rfl⟩
  · obtain rfl : i = k := by omega
    repeat' (first|(refine isO ?_;first|refine oo (Pc rfl) ?_|refine oo (Pa rfl (by omega) (by omega)) ?_|(refine ob rfl ?_ ?_<;>intro hq<;>try (exfalso;omega))|refine oo (Pi rfl (by omega)) ?_|refine oo (Pl rfl) ?_|refine oo (Px rfl rfl) ?_|refine oo (Pj rfl (by omega) (by omega)) ?_|refine oo (Pk rfl (by omega) (by omega)) ?_|refine oo (Pf rfl) ?_|refine oo (Pv rfl (by omega) (by omega)) ?_|refine oo (Pn rfl) ?_|refine oo (Pm rfl) ?_|refine os rfl rfl ?_|refine ot rfl (by omega) ?_|refine O_nil ?_)|refine wo rfl ?_|refine wc rfl ?_|refine wg rfl ?_|refine go rfl ?_|refine gc rfl ?_|refine gg rfl ?_)
    exact G_fin ⟨_, rfl, rfl, B1, hB1, rfl⟩
theorem begins_c (T : List Nat) (k : Nat) (hT : Txt T k) (C B : List Int) (bB oB lB cB bC oC lC cC : Nat) (F : Mem) (hlB : k ≤ lB) (hlC : k ≤ lC) (hC : Cnt T T.length k C) (hB : B.length = k) :
    HC Try.prog 22 #[.slice (some ⟨bC, oC, none⟩) lC cC, .slice (some ⟨bB, oB, none⟩) lB cB, .int .i64 k, .bool false]
      (⟨true, bC, oC, ints .i64 C⟩ :: ⟨true, bB, oB, ints .i64 B⟩ :: F)
      (fun v M' => v = .tuple #[] ∧ ∃ B', BeginsTo T k k B' ∧ M' = ⟨true, bC, oC, ints .i64 C⟩ :: ⟨true, bB, oB, ints .i64 B'⟩ :: F) := by
  obtain ⟨hn0, hn1, hk1, hlt⟩ := hT
  have hlC2 := hC.1
  refine HC_of_W (fn := Try.f22) Try.func22 rfl rfl rfl rfl ?_
  repeat' (first|(refine isO ?_;first|refine oo (Pc rfl) ?_|refine oo (Pa rfl (by omega) (by omega)) ?_|(refine ob rfl ?_ ?_<;>intro hq<;>try (exfalso;omega))|refine oo (Pi rfl (by omega)) ?_|refine oo (Pl rfl) ?_|refine oo (Px rfl rfl) ?_|refine oo (Pj rfl (by omega) (by omega)) ?_|refine oo (Pk rfl (by omega) (by omega)) ?_|refine oo (Pf rfl) ?_|refine oo (Pv rfl (by omega) (by omega)) ?_|refine oo (Pn rfl) ?_|refine oo (Pm rfl) ?_|refine os rfl rfl ?_|refine ot rfl (by omega) ?_|refine O_nil ?_)|refine wo rfl ?_|refine wc rfl ?_|refine wg rfl ?_|refine go rfl ?_|refine gc rfl ?_|refine gg rfl ?_)
  refine W_loop (α := Nat × List Int) (fun x => [(0, .slice (some ⟨bC, oC, none⟩) lC cC), (1, .slice (some ⟨bB, oB, none⟩) lB cB), (2, .int .i64 k), (8, .int .i64 x.1), (9, .int .i64 (bst T x.1 : Nat))])
    (fun x => ⟨true, bC, oC, ints .i64 C⟩ :: ⟨true, bB, oB, ints .i64 x.2⟩ :: F) (fun x => x.1 ≤ k ∧ BeginsTo T x.1 k x.2) (fun x => k - x.1) (0, B) ⟨by omega, hB, fun c hc => by omega⟩ ⟨rfl, rfl, rfl, rfl, by rw [bst_zero]; rfl, trivial⟩ .rfl ?_
  rintro ⟨i, B1⟩ ⟨hi, hB1⟩
  dsimp only at hi hB1 ⊢
  have h1 := hB1.1
  have h2 := bst_le T i
  have h3 := bst_cnt T i
  have h4 := bst_le T (i + 1)
  by_cases hik : i < k
  · have h5 := hC.2 i hik
    have h6 : ((bst T i : Nat) : Int) + rd C i = (bst T (i + 1) : Nat) := by rw [h5, h3]; rfl
    have h7 : ((bst T (i + 1) : Nat) : Int) - rd C i = (bst T i : Nat) := by omega
    repeat' (first|(refine isO ?_;first|refine oo (Pc rfl) ?_|refine oo (Pa rfl (by omega) (by omega)) ?_|(refine ob rfl ?_ ?_<;>intro hq<;>try (exfalso;omega))|refine oo (Pi rfl (by omega)) ?_|refine oo (Pl rfl) ?_|refine oo (Px rfl rfl) ?_|refine oo (Pj rfl (by omega) (by omega)) ?_|refine oo (Pk rfl (by omega) (by omega)) ?_|refine oo (Pf rfl) ?_|refine oo (Pv rfl (by omega) (by omega)) ?_|refine oo (Pn rfl) ?_|refine oo (Pm rfl) ?_|refine os rfl rfl ?_|refine ot rfl (by omega) ?_|refine O_nil ?_)|refine wo rfl ?_|refine wc rfl ?_|refine wg rfl ?_|refine go rfl ?_|refine gc rfl ?_|refine gg rfl ?_)
    rw [h6, h7]
    exact G_stop ⟨(i + 1, wr B1 i (bst T i : Nat)), ⟨by dsimp only; omega, hB1.step hik rfl⟩, by dsimp only; omega, ⟨rfl, rfl, rfl, rfl, rfl, trivial⟩, .rfl⟩
  · obtain rfl : i = k := by omega
    repeat' (first|(refine isO ?_;first|refine oo (Pc rfl) ?_|refine oo (Pa rfl (by omega) (by omega)) ?_|(refine ob rfl ?_ ?_<;>intro hq<;>try (exfalso;omega))|refine oo (Pi rfl (by omega)) ?_|refine oo (Pl rfl) ?_|refine oo (Px rfl rfl) ?_|refine oo (Pj rfl (by omega) (by omega)) ?_|refine oo (Pk rfl (by omega) (by omega)) ?_|refine oo (Pf rfl) ?_|refine oo (Pv rfl (by omega) (by omega)) ?_|refine oo (Pn rfl) ?_|refine oo (Pm rfl) ?_|refine os rfl rfl ?_|refine ot rfl (by omega) ?_|refine O_nil ?_)|refine wo rfl ?_|refine wc rfl ?_|refine wg rfl ?_|refine go rfl ?_|refine gc rfl ?_|refine gg rfl ?_)
    exact G_fin ⟨_, rfl, rfl, B1, hB1, rfl⟩
end Go.Proofs.Ytcibehgcibojnaa.Saii
