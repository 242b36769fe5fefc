/- computeSA: the suffixes in their order. Conditions: at most 1000 cells, letters less than 512; the same of shorter texts. The suffixes of a text, whatever its length: by the same of shorter texts. No condition. impl.safe carries a function out and tells that it did not panic: for every function that returns. impl.safe tells whether what it carries out panicked: for every function that returns or panics with an error. impl.Suffixes of some bytes: their suffixes in order. Conditions: 1 to 1000 bytes. -/
import Derived.Test.YtcibehgcibojnaaW4x30
import Derived.Test.YtcibehgcibojnaaW4x21
import Derived.Test.YtcibehgcibojnaaW4x03
import Derived.Test.YtcibehgcibojnaaProg
import Derived.WalkKit
import Derived.Recover
import Derived.Laws.Pointers
import Derived.Test.YtcibehgcibojnaaW4x05
import Derived.WalkSmall

namespace Go.Proofs.Ytcibehgcibojnaa.Saii
open Go Go.RowKit Go.Proofs.Ytcibehgcibojnaa.Vm Go.Proofs.Ytcibehgcibojnaa.Sais Go.Proofs.Ytcibehgcibojnaa.Sai
theorem fl1 : Fl 1 false := ⟨by decide, by decide, by decide, by decide⟩
theorem fl17 : Fl 17 false := ⟨by decide, by decide, by decide, by decide⟩
theorem fl33 : Fl 33 false := ⟨by decide, by decide, by decide, by decide⟩
theorem fl3 : Fl 3 true := ⟨by decide, by decide, by decide, by decide⟩
theorem fl19 : Fl 19 true := ⟨by decide, by decide, by decide, by decide⟩
theorem fd1 : FlD 1 0 := ⟨fun _ => by decide, fun h => absurd h (by decide), fun h => absurd h (by decide), by decide⟩
theorem fd3 : FlD 3 0 := ⟨fun _ => by decide, fun h => absurd h (by decide), fun h => absurd h (by decide), by decide⟩
theorem fd17 : FlD 17 1 := ⟨fun h => absurd h (by decide), fun _ => ⟨by decide, by decide⟩, fun h => absurd h (by decide), by decide⟩
theorem fd19 : FlD 19 1 := ⟨fun h => absurd h (by decide), fun _ => ⟨by decide, by decide⟩, fun h => absurd h (by decide), by decide⟩
theorem fd33 : FlD 33 2 := ⟨fun h => absurd h (by decide), fun h => absurd h (by decide), fun _ => ⟨by decide, by decide⟩, by decide⟩
set_option maxHeartbeats 16000000 in
theorem csa_c (T : List Nat) (k : Nat) (hT : Txt T k) (hk5 : k ≤ 512) (fs n' : Nat) (hn' : T.length = n') (X : List Int) (hXl : X.length = n' + fs) (hN : n' + fs ≤ 1000)
    (own : Bool) (bT oT lT cT bS oS lS cS : Nat) (F : Mem) (hlT : n' ≤ lT) (hlS : n' + fs ≤ lS) (hcS : lS ≤ cS) (hF : Ne F) (hrec : Rec T.length) :
    HC Try.prog 19 #[.slice (some ⟨bT, oT, none⟩) lT cT, .slice (some ⟨bS, oS, none⟩) lS cS, .int .i64 fs, .int .i64 n', .int .i64 k]
      (⟨own, bT, oT, ints .i64 (T.map Nat.cast)⟩ :: ⟨true, bS, oS, ints .i64 X⟩ :: F)
      (fun v M' => v = .tuple #[] ∧ ∃ X' : List Int, X'.length = n' + fs ∧ SufA T X' ∧ Rk M' (⟨own, bT, oT, ints .i64 (T.map Nat.cast)⟩ :: ⟨true, bS, oS, ints .i64 X'⟩ :: F)) := by
  subst hn'
  have hn0 := hT.n0
  have hk0 := hT.k0
  refine HC_of_W (fn := Try.f19) Try.func19 rfl rfl rfl rfl ?_
  repeat' (first|(refine isO ?_;first|refine oo (Pc rfl) ?_|refine oo (Pa rfl (by omega) (by omega)) ?_|(refine ob rfl ?_ ?_<;>intro hq<;>try (exfalso;omega))|refine oo (Pi rfl (by first|omega|(simp only [wr_length];omega))) ?_|refine oo (Pz rfl (by omega) (by omega)) ?_|refine oo (Pl rfl) ?_|refine oo (Px rfl rfl) ?_|refine oo (Pj rfl (by omega) (by omega)) ?_|refine oo (Pk rfl (by omega) (by omega)) ?_|refine oo (Pf rfl) ?_|refine oo (Pv rfl (by omega) (by omega)) ?_|refine oo (Pn rfl) ?_|refine oo (Ph rfl) ?_|refine oo (Pg rfl (by omega) (by omega)) ?_|refine oo (Pe rfl (by omega) (by omega)) ?_|refine oo (Po rfl (by omega) (by omega)) ?_|refine oo (Pm rfl) ?_|refine os rfl rfl ?_|refine ot rfl (by first|omega|(simp only [wr_length];omega)) ?_|refine O_nil ?_)|refine wo rfl ?_|refine wc rfl ?_|refine wg rfl ?_|refine go rfl ?_|refine gc rfl ?_|refine gg rfl ?_)
  refine O_make25 (n := k) rfl (by omega) trivial rfl fun bC hbC => ?_
  have hneS : bC ≠ bS := fun e => hbC _ (.tail _ (.head _)) e.symm
  have hQ : 2 ≤ T.length / k ∨ ¬ 2 ≤ T.length / k := Decidable.em _
  have hqc : ((T.length / k : Nat) : Int) = (T.length : Int) / (k : Int) := rfl
  have hstop : Stop [27] := ⟨⟩
  by_cases hkf : k ≤ fs
  · obtain ⟨oB, hoB⟩ : ∃ oB, oB = oS + (T.length + (fs - k)) := ⟨_, rfl⟩
    repeat' (first|(refine isO ?_;first|refine oo (Pc rfl) ?_|refine oo (Pa rfl (by omega) (by omega)) ?_|(refine ob rfl ?_ ?_<;>intro hq<;>try (exfalso;omega))|refine oo (Pi rfl (by first|omega|(simp only [wr_length];omega))) ?_|refine oo (Pz rfl (by omega) (by omega)) ?_|refine oo (Pl rfl) ?_|refine oo (Px rfl rfl) ?_|refine oo (Pj rfl (by omega) (by omega)) ?_|refine oo (Pk rfl (by omega) (by omega)) ?_|refine oo (Pf rfl) ?_|refine oo (Pv rfl (by omega) (by omega)) ?_|refine oo (Pn rfl) ?_|refine oo (Ph rfl) ?_|refine oo (Pg rfl (by omega) (by omega)) ?_|refine oo (Pe rfl (by omega) (by omega)) ?_|refine oo (Po rfl (by omega) (by omega)) ?_|refine oo (Pm rfl) ?_|refine os rfl rfl ?_|refine ot rfl (by first|omega|(simp only [wr_length];omega)) ?_|refine O_nil ?_)|refine wu hstop rfl rfl ?_|refine gu hstop rfl rfl ?_|refine wc rfl ?_|refine wg rfl ?_|refine gc rfl ?_|refine gg rfl ?_)
    refine O_pure (P_slice1E (o' := oB) (len' := lS - (T.length + (fs - k))) (cap' := cS - (T.length + (fs - k))) Tb.u25 Tb.c3 rfl ⟨_, rfl⟩ rfl (by omega) (by omega) (by omega) (by omega) (by omega) (by omega) (by omega)) trivial rfl ?_
    repeat' (first|(refine isO ?_;first|refine oo (Pc rfl) ?_|refine oo (Pa rfl (by omega) (by omega)) ?_|(refine ob rfl ?_ ?_<;>intro hq<;>try (exfalso;omega))|refine oo (Pi rfl (by first|omega|(simp only [wr_length];omega))) ?_|refine oo (Pz rfl (by omega) (by omega)) ?_|refine oo (Pl rfl) ?_|refine oo (Px rfl rfl) ?_|refine oo (Pj rfl (by omega) (by omega)) ?_|refine oo (Pk rfl (by omega) (by omega)) ?_|refine oo (Pf rfl) ?_|refine oo (Pv rfl (by omega) (by omega)) ?_|refine oo (Pn rfl) ?_|refine oo (Ph rfl) ?_|refine oo (Pg rfl (by omega) (by omega)) ?_|refine oo (Pe rfl (by omega) (by omega)) ?_|refine oo (Po rfl (by omega) (by omega)) ?_|refine oo (Pm rfl) ?_|refine os rfl rfl ?_|refine ot rfl (by first|omega|(simp only [wr_length];omega)) ?_|refine O_nil ?_)|refine wu hstop rfl rfl ?_|refine gu hstop rfl rfl ?_|refine wc rfl ?_|refine wg rfl ?_|refine gc rfl ?_|refine gg rfl ?_)
    clear hstop
    have hsp : Rs (⟨true, bC, 0, ints .i64 (List.replicate k 0)⟩ :: ⟨own, bT, oT, ints .i64 (T.map Nat.cast)⟩ :: ⟨true, bS, oS, ints .i64 X⟩ :: F) (⟨own, bT, oT, ints .i64 (T.map Nat.cast)⟩ :: ⟨true, bS, oS, ints .i64 (X.take T.length)⟩ :: ⟨true, bC, 0, ints .i64 (List.replicate k 0)⟩ :: ⟨true, bS, oB, ints .i64 ((X.drop T.length).drop (fs - k))⟩ :: ⟨true, bS, oS + T.length, ints .i64 ((X.drop T.length).take (fs - k))⟩ :: F) :=
      .trans (.of (L := ⟨true, bS, oS, ints .i64 X⟩ :: ⟨own, bT, oT, ints .i64 (T.map Nat.cast)⟩ :: ⟨true, bC, 0, ints .i64 (List.replicate k 0)⟩ :: F) (.cons (.tail (.tail .head)) (.cons (.tail .head) .rfl)))
        (.trans (Rs.split (o2 := oS + T.length) (xs := ints .i64 (X.take T.length)) (ys := ints .i64 (X.drop T.length)) (by rw [← ints_append, List.take_append_drop]) (by rw [ints_length, List.length_take]; omega))
          (.trans (.of (L := ⟨true, bS, oS + T.length, ints .i64 (X.drop T.length)⟩ :: ⟨true, bS, oS, ints .i64 (X.take T.length)⟩ :: ⟨own, bT, oT, ints .i64 (T.map Nat.cast)⟩ :: ⟨true, bC, 0, ints .i64 (List.replicate k 0)⟩ :: F) (.cons (.tail .head) (.cons .head .rfl)))
            (.trans (Rs.split (o2 := oB) (xs := ints .i64 ((X.drop T.length).take (fs - k))) (ys := ints .i64 ((X.drop T.length).drop (fs - k))) (by rw [← ints_append, List.take_append_drop]) (by rw [ints_length, List.length_take, List.length_drop]; omega))
              (.of (.cons (.tail (.tail (.tail .head))) (.cons (.tail (.tail .head)) (.cons (.tail (.tail .head)) (.cons (.tail .head) .rfl))))))))
    refine W_re hsp ?_
    refine W_join1 (fun E' M' => ∃ (fl : Int) (dm : Nat), Fl fl false ∧ FlD fl dm ∧ (dm = 2 → 2 * k ≤ fs - k) ∧ Sub E' [(0, .slice (some ⟨bT, oT, none⟩) lT cT), (1, .slice (some ⟨bS, oS, none⟩) lS cS), (2, .int .i64 (fs : Nat)), (3, .int .i64 T.length), (4, .int .i64 k), (10, .slice (some ⟨bC, 0, none⟩) k k), (11, .slice (some ⟨bS, oB, none⟩) (lS - (T.length + (fs - k))) (cS - (T.length + (fs - k)))), (14, .int .i64 ((T.length : Int) + (fs : Int) - (k : Int))), (25, .int .u64 fl)] ∧
      Rk M' (⟨own, bT, oT, ints .i64 (T.map Nat.cast)⟩ :: ⟨true, bS, oS, ints .i64 (X.take T.length)⟩ :: ⟨true, bC, 0, ints .i64 (List.replicate k 0)⟩ :: ⟨true, bS, oB, ints .i64 ((X.drop T.length).drop (fs - k))⟩ :: ⟨true, bS, oS + T.length, ints .i64 ((X.drop T.length).take (fs - k))⟩ :: F)) ?_ ?_
    · repeat' (first|(refine isO ?_;first|refine oo (Pc rfl) ?_|refine oo (Pa rfl (by omega) (by omega)) ?_|(refine ob rfl ?_ ?_<;>intro hq<;>try (exfalso;omega))|refine oo (Pi rfl (by first|omega|(simp only [wr_length];omega))) ?_|refine oo (Pz rfl (by omega) (by omega)) ?_|refine oo (Pl rfl) ?_|refine oo (Px rfl rfl) ?_|refine oo (Pj rfl (by omega) (by omega)) ?_|refine oo (Pk rfl (by omega) (by omega)) ?_|refine oo (Pf rfl) ?_|refine oo (Pv rfl (by omega) (by omega)) ?_|refine oo (Pn rfl) ?_|refine oo (Ph rfl) ?_|refine oo (Pg rfl (by omega) (by omega)) ?_|refine oo (Pe rfl (by omega) (by omega)) ?_|refine oo (Po rfl (by omega) (by omega)) ?_|refine oo (Pm rfl) ?_|refine os rfl rfl ?_|refine ot rfl (by first|omega|(simp only [wr_length];omega)) ?_|refine O_nil ?_)|refine wo rfl ?_|refine wc rfl ?_|refine wg rfl ?_|refine go rfl ?_|refine gc rfl ?_|refine gg rfl ?_)
      refine O_pure (P_quo rfl rfl (by omega) (by omega) (inK_i64 (by omega) (by omega))) ⟨_, rfl, rfl⟩ rfl ?_
      rcases hQ with h2 | h2
      · repeat' (first|(refine isO ?_;first|refine oo (Pc rfl) ?_|refine oo (Pa rfl (by omega) (by omega)) ?_|(refine ob rfl ?_ ?_<;>intro hq<;>try (exfalso;omega))|refine oo (Pi rfl (by first|omega|(simp only [wr_length];omega))) ?_|refine oo (Pz rfl (by omega) (by omega)) ?_|refine oo (Pl rfl) ?_|refine oo (Px rfl rfl) ?_|refine oo (Pj rfl (by omega) (by omega)) ?_|refine oo (Pk rfl (by omega) (by omega)) ?_|refine oo (Pf rfl) ?_|refine oo (Pv rfl (by omega) (by omega)) ?_|refine oo (Pn rfl) ?_|refine oo (Ph rfl) ?_|refine oo (Pg rfl (by omega) (by omega)) ?_|refine oo (Pe rfl (by omega) (by omega)) ?_|refine oo (Po rfl (by omega) (by omega)) ?_|refine oo (Pm rfl) ?_|refine os rfl rfl ?_|refine ot rfl (by first|omega|(simp only [wr_length];omega)) ?_|refine O_nil ?_)|refine wo rfl ?_|refine wc rfl ?_|refine wg rfl ?_|refine go rfl ?_|refine gc rfl ?_|refine gg rfl ?_)
        refine oo (Pfl (r := 1) rfl (by decide)) ?_
        by_cases h3 : 2 * k ≤ fs - k
        · repeat' (first|(refine isO ?_;first|refine oo (Pc rfl) ?_|refine oo (Pa rfl (by omega) (by omega)) ?_|(refine ob rfl ?_ ?_<;>intro hq<;>try (exfalso;omega))|refine oo (Pi rfl (by first|omega|(simp only [wr_length];omega))) ?_|refine oo (Pz rfl (by omega) (by omega)) ?_|refine oo (Pl rfl) ?_|refine oo (Px rfl rfl) ?_|refine oo (Pj rfl (by omega) (by omega)) ?_|refine oo (Pk rfl (by omega) (by omega)) ?_|refine oo (Pf rfl) ?_|refine oo (Pv rfl (by omega) (by omega)) ?_|refine oo (Pn rfl) ?_|refine oo (Ph rfl) ?_|refine oo (Pg rfl (by omega) (by omega)) ?_|refine oo (Pe rfl (by omega) (by omega)) ?_|refine oo (Po rfl (by omega) (by omega)) ?_|refine oo (Pm rfl) ?_|refine os rfl rfl ?_|refine ot rfl (by first|omega|(simp only [wr_length];omega)) ?_|refine O_nil ?_)|refine wo rfl ?_|refine wc rfl ?_|refine wg rfl ?_|refine go rfl ?_|refine gc rfl ?_|refine gg rfl ?_)
          refine oo (Pfo (r := 33) rfl (by decide)) ?_
          repeat' (first|(refine isO ?_;first|refine oo (Pc rfl) ?_|refine oo (Pa rfl (by omega) (by omega)) ?_|(refine ob rfl ?_ ?_<;>intro hq<;>try (exfalso;omega))|refine oo (Pi rfl (by first|omega|(simp only [wr_length];omega))) ?_|refine oo (Pz rfl (by omega) (by omega)) ?_|refine oo (Pl rfl) ?_|refine oo (Px rfl rfl) ?_|refine oo (Pj rfl (by omega) (by omega)) ?_|refine oo (Pk rfl (by omega) (by omega)) ?_|refine oo (Pf rfl) ?_|refine oo (Pv rfl (by omega) (by omega)) ?_|refine oo (Pn rfl) ?_|refine oo (Ph rfl) ?_|refine oo (Pg rfl (by omega) (by omega)) ?_|refine oo (Pe rfl (by omega) (by omega)) ?_|refine oo (Po rfl (by omega) (by omega)) ?_|refine oo (Pm rfl) ?_|refine os rfl rfl ?_|refine ot rfl (by first|omega|(simp only [wr_length];omega)) ?_|refine O_nil ?_)|refine wo rfl ?_|refine wc rfl ?_|refine wg rfl ?_|refine go rfl ?_|refine gc rfl ?_|refine gg rfl ?_)
          exact G_stop ⟨33, 2, fl33, fd33, fun _ => h3, by (repeat (first | exact trivial | refine ⟨rfl, ?_⟩)), .rfl⟩
        · repeat' (first|(refine isO ?_;first|refine oo (Pc rfl) ?_|refine oo (Pa rfl (by omega) (by omega)) ?_|(refine ob rfl ?_ ?_<;>intro hq<;>try (exfalso;omega))|refine oo (Pi rfl (by first|omega|(simp only [wr_length];omega))) ?_|refine oo (Pz rfl (by omega) (by omega)) ?_|refine oo (Pl rfl) ?_|refine oo (Px rfl rfl) ?_|refine oo (Pj rfl (by omega) (by omega)) ?_|refine oo (Pk rfl (by omega) (by omega)) ?_|refine oo (Pf rfl) ?_|refine oo (Pv rfl (by omega) (by omega)) ?_|refine oo (Pn rfl) ?_|refine oo (Ph rfl) ?_|refine oo (Pg rfl (by omega) (by omega)) ?_|refine oo (Pe rfl (by omega) (by omega)) ?_|refine oo (Po rfl (by omega) (by omega)) ?_|refine oo (Pm rfl) ?_|refine os rfl rfl ?_|refine ot rfl (by first|omega|(simp only [wr_length];omega)) ?_|refine O_nil ?_)|refine wo rfl ?_|refine wc rfl ?_|refine wg rfl ?_|refine go rfl ?_|refine gc rfl ?_|refine gg rfl ?_)
          refine oo (Pfo (r := 17) rfl (by decide)) ?_
          repeat' (first|(refine isO ?_;first|refine oo (Pc rfl) ?_|refine oo (Pa rfl (by omega) (by omega)) ?_|(refine ob rfl ?_ ?_<;>intro hq<;>try (exfalso;omega))|refine oo (Pi rfl (by first|omega|(simp only [wr_length];omega))) ?_|refine oo (Pz rfl (by omega) (by omega)) ?_|refine oo (Pl rfl) ?_|refine oo (Px rfl rfl) ?_|refine oo (Pj rfl (by omega) (by omega)) ?_|refine oo (Pk rfl (by omega) (by omega)) ?_|refine oo (Pf rfl) ?_|refine oo (Pv rfl (by omega) (by omega)) ?_|refine oo (Pn rfl) ?_|refine oo (Ph rfl) ?_|refine oo (Pg rfl (by omega) (by omega)) ?_|refine oo (Pe rfl (by omega) (by omega)) ?_|refine oo (Po rfl (by omega) (by omega)) ?_|refine oo (Pm rfl) ?_|refine os rfl rfl ?_|refine ot rfl (by first|omega|(simp only [wr_length];omega)) ?_|refine O_nil ?_)|refine wo rfl ?_|refine wc rfl ?_|refine wg rfl ?_|refine go rfl ?_|refine gc rfl ?_|refine gg rfl ?_)
          exact G_stop ⟨17, 1, fl17, fd17, fun h => absurd h (by decide), by (repeat (first | exact trivial | refine ⟨rfl, ?_⟩)), .rfl⟩
      · repeat' (first|(refine isO ?_;first|refine oo (Pc rfl) ?_|refine oo (Pa rfl (by omega) (by omega)) ?_|(refine ob rfl ?_ ?_<;>intro hq<;>try (exfalso;omega))|refine oo (Pi rfl (by first|omega|(simp only [wr_length];omega))) ?_|refine oo (Pz rfl (by omega) (by omega)) ?_|refine oo (Pl rfl) ?_|refine oo (Px rfl rfl) ?_|refine oo (Pj rfl (by omega) (by omega)) ?_|refine oo (Pk rfl (by omega) (by omega)) ?_|refine oo (Pf rfl) ?_|refine oo (Pv rfl (by omega) (by omega)) ?_|refine oo (Pn rfl) ?_|refine oo (Ph rfl) ?_|refine oo (Pg rfl (by omega) (by omega)) ?_|refine oo (Pe rfl (by omega) (by omega)) ?_|refine oo (Po rfl (by omega) (by omega)) ?_|refine oo (Pm rfl) ?_|refine os rfl rfl ?_|refine ot rfl (by first|omega|(simp only [wr_length];omega)) ?_|refine O_nil ?_)|refine wo rfl ?_|refine wc rfl ?_|refine wg rfl ?_|refine go rfl ?_|refine gc rfl ?_|refine gg rfl ?_)
        exact G_stop ⟨1, 0, fl1, fd1, fun h => absurd h (by decide), by (repeat (first | exact trivial | refine ⟨rfl, ?_⟩)), .rfl⟩
    rintro E' M' ⟨fl, dm, hfl, hfd, hdm, hsub, hrk⟩
    refine G_code (W_weak hsub hrk ?_)
    exact partB T k hT hk5 fs hN fl false hfl dm hfd _ _ _ _ (by rw [List.length_take]; omega) List.length_replicate (by rw [List.length_drop, List.length_drop]; omega) (fs - k) (by rw [List.length_take, List.length_drop]; omega) _
      own bT oT lT cT bS oS lS cS bS oB _ _ bC ⟨fun h => absurd h (by decide), fun _ => ⟨by omega, rfl, hoB⟩, by omega⟩ (fun h => ⟨by omega, hdm h⟩) F hlT hlS hcS hneS hneS hF hrec (by omega)
  · repeat' (first|(refine isO ?_;first|refine oo (Pc rfl) ?_|refine oo (Pa rfl (by omega) (by omega)) ?_|(refine ob rfl ?_ ?_<;>intro hq<;>try (exfalso;omega))|refine oo (Pi rfl (by first|omega|(simp only [wr_length];omega))) ?_|refine oo (Pz rfl (by omega) (by omega)) ?_|refine oo (Pl rfl) ?_|refine oo (Px rfl rfl) ?_|refine oo (Pj rfl (by omega) (by omega)) ?_|refine oo (Pk rfl (by omega) (by omega)) ?_|refine oo (Pf rfl) ?_|refine oo (Pv rfl (by omega) (by omega)) ?_|refine oo (Pn rfl) ?_|refine oo (Ph rfl) ?_|refine oo (Pg rfl (by omega) (by omega)) ?_|refine oo (Pe rfl (by omega) (by omega)) ?_|refine oo (Po rfl (by omega) (by omega)) ?_|refine oo (Pm rfl) ?_|refine os rfl rfl ?_|refine ot rfl (by first|omega|(simp only [wr_length];omega)) ?_|refine O_nil ?_)|refine wu hstop rfl rfl ?_|refine gu hstop rfl rfl ?_|refine wc rfl ?_|refine wg rfl ?_|refine gc rfl ?_|refine gg rfl ?_)
    refine O_make25 (n := k) rfl (by omega) trivial rfl fun bB hbB => ?_
    have hne : bC ≠ bB := hbB _ (.head _)
    repeat' (first|(refine isO ?_;first|refine oo (Pc rfl) ?_|refine oo (Pa rfl (by omega) (by omega)) ?_|(refine ob rfl ?_ ?_<;>intro hq<;>try (exfalso;omega))|refine oo (Pi rfl (by first|omega|(simp only [wr_length];omega))) ?_|refine oo (Pz rfl (by omega) (by omega)) ?_|refine oo (Pl rfl) ?_|refine oo (Px rfl rfl) ?_|refine oo (Pj rfl (by omega) (by omega)) ?_|refine oo (Pk rfl (by omega) (by omega)) ?_|refine oo (Pf rfl) ?_|refine oo (Pv rfl (by omega) (by omega)) ?_|refine oo (Pn rfl) ?_|refine oo (Ph rfl) ?_|refine oo (Pg rfl (by omega) (by omega)) ?_|refine oo (Pe rfl (by omega) (by omega)) ?_|refine oo (Po rfl (by omega) (by omega)) ?_|refine oo (Pm rfl) ?_|refine os rfl rfl ?_|refine ot rfl (by first|omega|(simp only [wr_length];omega)) ?_|refine O_nil ?_)|refine wu hstop rfl rfl ?_|refine gu hstop rfl rfl ?_|refine wc rfl ?_|refine wg rfl ?_|refine gc rfl ?_|refine gg rfl ?_)
    clear hstop
    have hsp : Rs (⟨true, bB, 0, ints .i64 (List.replicate k 0)⟩ :: ⟨true, bC, 0, ints .i64 (List.replicate k 0)⟩ :: ⟨own, bT, oT, ints .i64 (T.map Nat.cast)⟩ :: ⟨true, bS, oS, ints .i64 X⟩ :: F) (⟨own, bT, oT, ints .i64 (T.map Nat.cast)⟩ :: ⟨true, bS, oS, ints .i64 (X.take T.length)⟩ :: ⟨true, bC, 0, ints .i64 (List.replicate k 0)⟩ :: ⟨true, bB, 0, ints .i64 (List.replicate k 0)⟩ :: ⟨true, bS, oS + T.length, ints .i64 (X.drop T.length)⟩ :: F) :=
      .trans (.of (L := ⟨true, bS, oS, ints .i64 X⟩ :: ⟨own, bT, oT, ints .i64 (T.map Nat.cast)⟩ :: ⟨true, bC, 0, ints .i64 (List.replicate k 0)⟩ :: ⟨true, bB, 0, ints .i64 (List.replicate k 0)⟩ :: F) (.cons (.tail (.tail (.tail .head))) (.cons (.tail (.tail .head)) (.cons (.tail .head) .rfl))))
        (.trans (Rs.split (o2 := oS + T.length) (xs := ints .i64 (X.take T.length)) (ys := ints .i64 (X.drop T.length)) (by rw [← ints_append, List.take_append_drop]) (by rw [ints_length, List.length_take]; omega))
          (.of (.cons (.tail (.tail .head)) (.cons .head (.cons (.tail .head) (.cons (.tail .head) .rfl))))))
    refine W_re hsp ?_
    refine W_join1 (fun E' M' => ∃ (fl : Int) (dm : Nat), Fl fl true ∧ FlD fl dm ∧ (dm ≠ 2) ∧ Sub E' [(0, .slice (some ⟨bT, oT, none⟩) lT cT), (1, .slice (some ⟨bS, oS, none⟩) lS cS), (2, .int .i64 (fs : Nat)), (3, .int .i64 T.length), (4, .int .i64 k), (10, .slice (some ⟨bC, 0, none⟩) k k), (11, .slice (some ⟨bB, 0, none⟩) k k), (14, .int .i64 0), (25, .int .u64 fl)] ∧
      Rk M' (⟨own, bT, oT, ints .i64 (T.map Nat.cast)⟩ :: ⟨true, bS, oS, ints .i64 (X.take T.length)⟩ :: ⟨true, bC, 0, ints .i64 (List.replicate k 0)⟩ :: ⟨true, bB, 0, ints .i64 (List.replicate k 0)⟩ :: ⟨true, bS, oS + T.length, ints .i64 (X.drop T.length)⟩ :: F)) ?_ ?_
    · repeat' (first|(refine isO ?_;first|refine oo (Pc rfl) ?_|refine oo (Pa rfl (by omega) (by omega)) ?_|(refine ob rfl ?_ ?_<;>intro hq<;>try (exfalso;omega))|refine oo (Pi rfl (by first|omega|(simp only [wr_length];omega))) ?_|refine oo (Pz rfl (by omega) (by omega)) ?_|refine oo (Pl rfl) ?_|refine oo (Px rfl rfl) ?_|refine oo (Pj rfl (by omega) (by omega)) ?_|refine oo (Pk rfl (by omega) (by omega)) ?_|refine oo (Pf rfl) ?_|refine oo (Pv rfl (by omega) (by omega)) ?_|refine oo (Pn rfl) ?_|refine oo (Ph rfl) ?_|refine oo (Pg rfl (by omega) (by omega)) ?_|refine oo (Pe rfl (by omega) (by omega)) ?_|refine oo (Po rfl (by omega) (by omega)) ?_|refine oo (Pm rfl) ?_|refine os rfl rfl ?_|refine ot rfl (by first|omega|(simp only [wr_length];omega)) ?_|refine O_nil ?_)|refine wo rfl ?_|refine wc rfl ?_|refine wg rfl ?_|refine go rfl ?_|refine gc rfl ?_|refine gg rfl ?_)
      refine O_pure (P_quo rfl rfl (by omega) (by omega) (inK_i64 (by omega) (by omega))) ⟨_, rfl, rfl⟩ rfl ?_
      rcases hQ with h2 | h2
      · repeat' (first|(refine isO ?_;first|refine oo (Pc rfl) ?_|refine oo (Pa rfl (by omega) (by omega)) ?_|(refine ob rfl ?_ ?_<;>intro hq<;>try (exfalso;omega))|refine oo (Pi rfl (by first|omega|(simp only [wr_length];omega))) ?_|refine oo (Pz rfl (by omega) (by omega)) ?_|refine oo (Pl rfl) ?_|refine oo (Px rfl rfl) ?_|refine oo (Pj rfl (by omega) (by omega)) ?_|refine oo (Pk rfl (by omega) (by omega)) ?_|refine oo (Pf rfl) ?_|refine oo (Pv rfl (by omega) (by omega)) ?_|refine oo (Pn rfl) ?_|refine oo (Ph rfl) ?_|refine oo (Pg rfl (by omega) (by omega)) ?_|refine oo (Pe rfl (by omega) (by omega)) ?_|refine oo (Po rfl (by omega) (by omega)) ?_|refine oo (Pm rfl) ?_|refine os rfl rfl ?_|refine ot rfl (by first|omega|(simp only [wr_length];omega)) ?_|refine O_nil ?_)|refine wo rfl ?_|refine wc rfl ?_|refine wg rfl ?_|refine go rfl ?_|refine gc rfl ?_|refine gg rfl ?_)
        refine oo (Pfl (r := 1) rfl (by decide)) ?_
        repeat' (first|(refine isO ?_;first|refine oo (Pc rfl) ?_|refine oo (Pa rfl (by omega) (by omega)) ?_|(refine ob rfl ?_ ?_<;>intro hq<;>try (exfalso;omega))|refine oo (Pi rfl (by first|omega|(simp only [wr_length];omega))) ?_|refine oo (Pz rfl (by omega) (by omega)) ?_|refine oo (Pl rfl) ?_|refine oo (Px rfl rfl) ?_|refine oo (Pj rfl (by omega) (by omega)) ?_|refine oo (Pk rfl (by omega) (by omega)) ?_|refine oo (Pf rfl) ?_|refine oo (Pv rfl (by omega) (by omega)) ?_|refine oo (Pn rfl) ?_|refine oo (Ph rfl) ?_|refine oo (Pg rfl (by omega) (by omega)) ?_|refine oo (Pe rfl (by omega) (by omega)) ?_|refine oo (Po rfl (by omega) (by omega)) ?_|refine oo (Pm rfl) ?_|refine os rfl rfl ?_|refine ot rfl (by first|omega|(simp only [wr_length];omega)) ?_|refine O_nil ?_)|refine wo rfl ?_|refine wc rfl ?_|refine wg rfl ?_|refine go rfl ?_|refine gc rfl ?_|refine gg rfl ?_)
        refine oo (Pfo (r := 19) rfl (by decide)) ?_
        repeat' (first|(refine isO ?_;first|refine oo (Pc rfl) ?_|refine oo (Pa rfl (by omega) (by omega)) ?_|(refine ob rfl ?_ ?_<;>intro hq<;>try (exfalso;omega))|refine oo (Pi rfl (by first|omega|(simp only [wr_length];omega))) ?_|refine oo (Pz rfl (by omega) (by omega)) ?_|refine oo (Pl rfl) ?_|refine oo (Px rfl rfl) ?_|refine oo (Pj rfl (by omega) (by omega)) ?_|refine oo (Pk rfl (by omega) (by omega)) ?_|refine oo (Pf rfl) ?_|refine oo (Pv rfl (by omega) (by omega)) ?_|refine oo (Pn rfl) ?_|refine oo (Ph rfl) ?_|refine oo (Pg rfl (by omega) (by omega)) ?_|refine oo (Pe rfl (by omega) (by omega)) ?_|refine oo (Po rfl (by omega) (by omega)) ?_|refine oo (Pm rfl) ?_|refine os rfl rfl ?_|refine ot rfl (by first|omega|(simp only [wr_length];omega)) ?_|refine O_nil ?_)|refine wo rfl ?_|refine wc rfl ?_|refine wg rfl ?_|refine go rfl ?_|refine gc rfl ?_|refine gg rfl ?_)
        exact G_stop ⟨19, 1, fl19, fd19, by decide, by (repeat (first | exact trivial | refine ⟨rfl, ?_⟩)), .rfl⟩
      · repeat' (first|(refine isO ?_;first|refine oo (Pc rfl) ?_|refine oo (Pa rfl (by omega) (by omega)) ?_|(refine ob rfl ?_ ?_<;>intro hq<;>try (exfalso;omega))|refine oo (Pi rfl (by first|omega|(simp only [wr_length];omega))) ?_|refine oo (Pz rfl (by omega) (by omega)) ?_|refine oo (Pl rfl) ?_|refine oo (Px rfl rfl) ?_|refine oo (Pj rfl (by omega) (by omega)) ?_|refine oo (Pk rfl (by omega) (by omega)) ?_|refine oo (Pf rfl) ?_|refine oo (Pv rfl (by omega) (by omega)) ?_|refine oo (Pn rfl) ?_|refine oo (Ph rfl) ?_|refine oo (Pg rfl (by omega) (by omega)) ?_|refine oo (Pe rfl (by omega) (by omega)) ?_|refine oo (Po rfl (by omega) (by omega)) ?_|refine oo (Pm rfl) ?_|refine os rfl rfl ?_|refine ot rfl (by first|omega|(simp only [wr_length];omega)) ?_|refine O_nil ?_)|refine wo rfl ?_|refine wc rfl ?_|refine wg rfl ?_|refine go rfl ?_|refine gc rfl ?_|refine gg rfl ?_)
        exact G_stop ⟨3, 0, fl3, fd3, by decide, by (repeat (first | exact trivial | refine ⟨rfl, ?_⟩)), .rfl⟩
    rintro E' M' ⟨fl, dm, hfl, hfd, hdm, hsub, hrk⟩
    refine G_code (W_weak hsub hrk ?_)
    exact partB T k hT hk5 fs hN fl true hfl dm hfd _ _ _ _ (by rw [List.length_take]; omega) List.length_replicate List.length_replicate fs (by rw [List.length_drop]; omega) _
      own bT oT lT cT bS oS lS cS bB 0 k k bC ⟨fun _ => rfl, fun h => absurd h (by decide), Nat.le_refl _⟩ (fun h => absurd h hdm) F hlT hlS hcS hne hneS hF hrec (Nat.le_refl _)
end Go.Proofs.Ytcibehgcibojnaa.Saii

namespace Go.Proofs.Ytcibehgcibojnaa.Sai
open Go Go.RowKit Go.Proofs.Ytcibehgcibojnaa.Vm Go.Proofs.Ytcibehgcibojnaa.Sais
theorem rec_all (n : Nat) : Rec n := Nat.strongRecOn n (motive := fun n => Rec n) fun n ih => by
  intro T k fs n' X own bT oT lT cT bS oS lS cS F hTl hn hT hk hX hN hlT hlS hcS hF
  exact Saii.csa_c T k hT hk fs n' hTl X hX hN own bT oT lT cT bS oS lS cS F hlT hlS hcS hF (ih T.length (by omega))
theorem sa_byte (T : List Nat) (hT : Txt T 256) (hN : T.length ≤ 1000) (X : List Int) (hX : X.length = T.length) (own : Bool) (bT oT lT cT bS oS lS cS : Nat) (F : Mem) (hlT : T.length ≤ lT) (hlS : T.length ≤ lS) (hcS : lS ≤ cS) (hF : Ne F) :
    HC Try.prog 12 #[.slice (some ⟨bT, oT, none⟩) lT cT, .slice (some ⟨bS, oS, none⟩) lS cS, .int .i64 0, .int .i64 T.length, .int .i64 256]
      (⟨own, bT, oT, ints .u8 (T.map Nat.cast)⟩ :: ⟨true, bS, oS, ints .i64 X⟩ :: F)
      (fun v M' => v = .tuple #[] ∧ ∃ X' : List Int, X'.length = T.length ∧ SufA T X' ∧ Rk M' (⟨own, bT, oT, ints .u8 (T.map Nat.cast)⟩ :: ⟨true, bS, oS, ints .i64 X'⟩ :: F)) :=
  Saib.csa_c T 256 hT (by decide) 0 T.length rfl X (by omega) (by omega) own bT oT lT cT bS oS lS cS F hlT (by omega) hcS hF (rec_all _)
end Go.Proofs.Ytcibehgcibojnaa.Sai

namespace Go.Proofs.Ytcibehgcibojnaa.Sf
open Go Go.RowKit Go.Proofs.Ytcibehgcibojnaa.Vm
theorem catch_idle (p : Addr) (w : World) (hc : ∃ v, w.cell? p = some v) (hz : w.frozen? p = false) :
    CallsD Try.prog 11 #[.pointer (some p)] .returning w fun e u' w' => e = .returned (.tuple #[]) ∧ u' = .returning ∧ w' = w.setCell p (.bool true) := by
  obtain ⟨v, hc⟩ := hc
  refine callsD_of_wpS Try.func11 rfl fun c₀ cs hu => ?_
  apply wpS_region
  simp [wpOpsS, go_sem, recoverD, hu, Try.ntmps11, hc, hz]
  cases c₀
  simp_all [bodyPostS, results, Try.results11]
end Go.Proofs.Ytcibehgcibojnaa.Sf

namespace Go.Proofs.Ytcibehgcibojnaa.Sf
open Go Go.RowKit Go.Proofs.Ytcibehgcibojnaa.Vm
theorem catch_pan (p : Addr) (t : TypeId) (x : Value) (w : World) (hc : ∃ v, w.cell? p = some v) (hz : w.frozen? p = false) :
    CallsD Try.prog 11 #[.pointer (some p)] (.panicking [{ v := .iface t x, recovered := false }]) w fun e u' w' => e = .returned (.tuple #[]) ∧ u' = .panicking [{ v := .iface t x, recovered := true }] ∧ w' = w.setCell p (.bool false) := by
  obtain ⟨v, hc⟩ := hc
  refine callsD_of_wpS Try.func11 rfl fun c₀ cs hu => ?_
  apply wpS_region
  simp [wpOpsS, go_sem, recoverD, hu, Try.ntmps11, hc, hz]
  cases c₀
  simp_all [bodyPostS, results, Try.results11]
theorem safe_x {f : FuncId} {first captured : Array Value} {M : Mem} {R X : Mem → Prop} (hf : Callable Try.prog f)
    (h : ∀ b, HX Try.prog f (first ++ captured) (⟨true, b, 0, [.bool false]⟩ :: M) (fun _ M' => ∃ M1, Rk M' (⟨true, b, 0, [.bool false]⟩ :: M1) ∧ R M1) (fun M' => ∃ M1, Rk M' (⟨true, b, 0, [.bool false]⟩ :: M1) ∧ X M1)) :
    HC Try.prog 8 #[.func (.func f) first captured] M (fun v M' => (v = .bool true ∧ R M') ∨ (v = .bool false ∧ X M')) := by
  constructor
  intro base w0 w hS
  have hmf : ∀ (fn : Fn) (first cap : Array Value) (w : World), (Instr.makeFunc fn first cap).run Try.prog w = .ok (.func fn first cap) w := fun _ _ _ _ => rfl
  have hcf : ∀ (w : World) (args : Array Value), (callFunc f args).run Try.prog w = .ok (.enter f args) w := fun w args => run_callFunc hf
  have hS1 := hS.alloc #[.bool false] 4
  have hc := (h w.heap.size).out base w0 _ hS1
  go_enter_defers Try.func8, Try.ntmps8
  go_wp2_with fail
  refine hc.mono ?_
  rintro e w' (⟨v, M', rfl, hS', M1, hrk, hR⟩ | ⟨t, x, M', rfl, hS', M1, hrk, hX⟩)
  · have hSr := hS'.rk hrk
    have hcell : w'.cell? ⟨w.heap.size, 0, none⟩ = some (.bool false) := (hSr.seg _ (.head _)).cell (i := 0) rfl
    have hfree : w'.frozen? ⟨w.heap.size, 0, none⟩ = false := (hSr.seg _ (.head _)).free rfl (i := 0) (by simp)
    have hS2 : Sim false base w0 (w'.setCell ⟨w.heap.size, 0, none⟩ (.bool true)) (⟨true, w.heap.size, 0, [.bool true]⟩ :: M1) := hSr.set (s := ⟨true, w.heap.size, 0, [.bool false]⟩) (i := 0) rfl (by simp) .head
    have hc2 : (w'.setCell ⟨w.heap.size, 0, none⟩ (.bool true)).cell? ⟨w.heap.size, 0, none⟩ = some (.bool true) := (hS2.seg _ (.head _)).cell (i := 0) rfl
    have hf2 : (w'.setCell ⟨w.heap.size, 0, none⟩ (.bool true)).frozen? ⟨w.heap.size, 0, none⟩ = false := (hS2.seg _ (.head _)).free rfl (i := 0) (by simp)
    have hS3 : Sim false base w0 ((w'.setCell ⟨w.heap.size, 0, none⟩ (.bool true)).setCell ⟨w.heap.size, 0, none⟩ (.bool true)) (⟨true, w.heap.size, 0, [.bool true]⟩ :: M1) := hS2.set (s := ⟨true, w.heap.size, 0, [.bool true]⟩) (i := 0) rfl (by simp) .head
    have hS4 : Sim false base w0 _ M1 := hS3.drop
    have hc4 : ((w'.setCell ⟨w.heap.size, 0, none⟩ (.bool true)).setCell ⟨w.heap.size, 0, none⟩ (.bool true)).cell? ⟨w.heap.size, 0, none⟩ = some (.bool true) := (hS3.seg _ (.head _)).cell (i := 0) rfl
    clear hS' hS1 hS2 hS3 hSr hS hc h hmf
    go_wp2
    refine leaves_cons (f := 11) (args := #[.pointer (some ⟨w.heap.size, 0, none⟩)]) (by simp) (by simp [go_sem]) ?_
    refine (catch_idle ⟨w.heap.size, 0, none⟩ _ ⟨_, hc2⟩ hf2).mono ?_
    rintro e u' w'' ⟨rfl, rfl, rfl⟩
    refine ⟨.bool true, ?_, .bool true, M1, rfl, hS4, .inl ⟨rfl, hR⟩⟩
    simp [results, Try.results8, go_sem, hc4]
  · have hSr := hS'.rk hrk
    have hcell : w'.cell? ⟨w.heap.size, 0, none⟩ = some (.bool false) := (hSr.seg _ (.head _)).cell (i := 0) rfl
    have hfree : w'.frozen? ⟨w.heap.size, 0, none⟩ = false := (hSr.seg _ (.head _)).free rfl (i := 0) (by simp)
    have hS2 : Sim false base w0 (w'.setCell ⟨w.heap.size, 0, none⟩ (.bool false)) (⟨true, w.heap.size, 0, [.bool false]⟩ :: M1) := hSr.set (s := ⟨true, w.heap.size, 0, [.bool false]⟩) (i := 0) rfl (by simp) .head
    have hS4 : Sim false base w0 _ M1 := hS2.drop
    have hc4 : (w'.setCell ⟨w.heap.size, 0, none⟩ (.bool false)).cell? ⟨w.heap.size, 0, none⟩ = some (.bool false) := (hS2.seg _ (.head _)).cell (i := 0) rfl
    clear hS' hS1 hS2 hSr hS hc h hmf
    go_wp2
    refine leaves_cons (f := 11) (args := #[.pointer (some ⟨w.heap.size, 0, none⟩)]) (by simp) (by simp [go_sem]) ?_
    refine (catch_pan ⟨w.heap.size, 0, none⟩ t x _ ⟨_, hcell⟩ hfree).mono ?_
    rintro e u' w'' ⟨rfl, rfl, rfl⟩
    refine ⟨.bool false, ?_, .bool false, M1, rfl, hS4, .inr ⟨rfl, hX⟩⟩
    simp [results, Try.results8, go_sem, hc4]
end Go.Proofs.Ytcibehgcibojnaa.Sf

namespace Go.Proofs.Ytcibehgcibojnaa.Sai
open Go Go.RowKit Go.Proofs.Ytcibehgcibojnaa.Vm Go.Proofs.Ytcibehgcibojnaa.Sais Go.Proofs.Ytcibehgcibojnaa.Sf
theorem txt256 {T : List Nat} (h0 : 0 < T.length) (h1 : T.length ≤ 1000) (hT : ∀ x ∈ T, x < 256) : Txt T 256 := ⟨h0, h1, by decide, fun y => by
  unfold ch
  by_cases h : y < T.length
  · simp only [List.getD_eq_getElem?_getD, List.getElem?_eq_getElem h, Option.getD_some]
    exact hT _ (List.getElem_mem h)
  · simp [List.getElem?_eq_none (show T.length ≤ y by omega)]⟩
theorem compute_c (T : List Nat) (hT : Txt T 256) (X : List Int) (hX : X.length = T.length) (own : Bool) (bT oT cT bS oS cS : Nat) (F : Mem) (hcS : T.length ≤ cS) (hF : Ne F) :
    HC Try.prog 10 #[.slice (some ⟨bT, oT, none⟩) T.length cT, .slice (some ⟨bS, oS, none⟩) T.length cS]
      (⟨own, bT, oT, ints .u8 (T.map Nat.cast)⟩ :: ⟨true, bS, oS, ints .i64 X⟩ :: F)
      (fun v M' => v = .tuple #[] ∧ ∃ X' : List Int, X'.length = T.length ∧ SufA T X' ∧ Rk M' (⟨own, bT, oT, ints .u8 (T.map Nat.cast)⟩ :: ⟨true, bS, oS, ints .i64 X'⟩ :: F)) := by
  have hn1 := hT.n1
  refine HC_of_W (fn := Try.f10) Try.func10 rfl rfl rfl rfl ?_
  repeat' (first|(refine isO ?_;first|refine oo (Pc rfl) ?_|refine oo (Pa rfl (by omega) (by omega)) ?_|(refine ob rfl ?_ ?_<;>intro hq<;>try (exfalso;omega))|refine oo (Pi rfl (by first|omega|(simp only [wr_length];omega))) ?_|refine oo (Pz rfl (by omega) (by omega)) ?_|refine oo (Pl rfl) ?_|refine oo (Px rfl rfl) ?_|refine oo (Pj rfl (by omega) (by omega)) ?_|refine oo (Pk rfl (by omega) (by omega)) ?_|refine oo (Pf rfl) ?_|refine oo (Pv rfl (by omega) (by omega)) ?_|refine oo (Pn rfl) ?_|refine oo (Ph rfl) ?_|refine oo (Pg rfl (by omega) (by omega)) ?_|refine oo (Pe rfl (by omega) (by omega)) ?_|refine oo (Po rfl (by omega) (by omega)) ?_|refine oo (Pm rfl) ?_|refine os rfl rfl ?_|refine ot rfl (by first|omega|(simp only [wr_length];omega)) ?_|refine O_nil ?_)|refine wo rfl ?_|refine wc rfl ?_|refine wg rfl ?_|refine go rfl ?_|refine gc rfl ?_|refine gg rfl ?_)
  refine O_call rfl rfl Tb.k12 trivial rfl (sa_byte T hT hn1 X hX own bT oT T.length cT bS oS T.length cS F (Nat.le_refl _) (Nat.le_refl _) hcS hF) ?_
  rintro _ M' ⟨rfl, X', h1, h2, hrk⟩
  refine O_weak hrk ?_
  repeat' (first|(refine isO ?_;first|refine oo (Pc rfl) ?_|refine oo (Pa rfl (by omega) (by omega)) ?_|(refine ob rfl ?_ ?_<;>intro hq<;>try (exfalso;omega))|refine oo (Pi rfl (by first|omega|(simp only [wr_length];omega))) ?_|refine oo (Pz rfl (by omega) (by omega)) ?_|refine oo (Pl rfl) ?_|refine oo (Px rfl rfl) ?_|refine oo (Pj rfl (by omega) (by omega)) ?_|refine oo (Pk rfl (by omega) (by omega)) ?_|refine oo (Pf rfl) ?_|refine oo (Pv rfl (by omega) (by omega)) ?_|refine oo (Pn rfl) ?_|refine oo (Ph rfl) ?_|refine oo (Pg rfl (by omega) (by omega)) ?_|refine oo (Pe rfl (by omega) (by omega)) ?_|refine oo (Po rfl (by omega) (by omega)) ?_|refine oo (Pm rfl) ?_|refine os rfl rfl ?_|refine ot rfl (by first|omega|(simp only [wr_length];omega)) ?_|refine O_nil ?_)|refine wo rfl ?_|refine wc rfl ?_|refine wg rfl ?_|refine go rfl ?_|refine gc rfl ?_|refine gg rfl ?_)
  exact G_fin ⟨_, rfl, rfl, X', h1, h2, .rfl⟩
theorem info5 : (Try.prog.info? 5).map (fun i => (i.size, i.bytes, i.zero)) = some (1, 1, some (.int .u8 0)) := by kernel_rfl
theorem info5' : ∃ I, Try.prog.info? 5 = some I ∧ I.size = 1 ∧ I.bytes = 1 ∧ I.zero = some (.int .u8 0) := by
  have h := info5
  cases hI : Try.prog.info? 5 with
  | none => simp [hI] at h
  | some I => simp [hI] at h; exact ⟨I, rfl, h⟩
theorem empty22 (w : World) : (Instr.buildSlice 22 0 #[]).run Try.prog w = .ok (.slice (some ⟨w.heap.size, 0, none⟩) 0 0) (w.alloc (.cells #[] 5)) := by
  kernel_rfl
theorem take_ints {T : List Nat} {sp : List Value} : (ints .u8 (T.map Nat.cast) ++ sp).take (T.length * 1) = ints .u8 (T.map Nat.cast) := by
  rw [Nat.mul_one, List.take_append_of_le_length (by rw [ints_length, List.length_map]; exact Nat.le_refl _), List.take_of_length_le (by rw [ints_length, List.length_map]; exact Nat.le_refl _)]
theorem closure_c (T : List Nat) (hT : Txt T 256) (own : Bool) (bb ob cap b1 b2 : Nat) (sp : List Value) (M : Mem) (hm : (⟨own, bb, ob, ints .u8 (T.map Nat.cast) ++ sp⟩ : Sg) ∈ M) (hM : Ne M) :
    HC Try.prog 9 #[.pointer (some ⟨b1, 0, none⟩), .pointer (some ⟨b2, 0, none⟩)] (⟨true, b1, 0, [.slice (some ⟨bb, ob, none⟩) T.length cap]⟩ :: ⟨true, b2, 0, [.slice none 0 0]⟩ :: M)
      (fun v M' => v = .tuple #[] ∧ ∃ (bl : Nat) (X : List Int), X.length = T.length ∧ SufA T X ∧ Rk M' (⟨true, b2, 0, [.slice (some ⟨bl, 0, none⟩) T.length T.length]⟩ :: ⟨true, bl, 0, ints .i64 X⟩ :: M)) := by
  have hn0 := hT.n0
  have hn1 := hT.n1
  obtain ⟨I, hI, hI1, hI2, hI3⟩ := info5'
  refine HC_of_W (fn := Try.f9) Try.func9 rfl rfl rfl rfl ?_
  repeat' (first|(refine isO ?_;first|refine oo (Pc rfl) ?_|refine oo (Pa rfl (by omega) (by omega)) ?_|(refine ob rfl ?_ ?_<;>intro hq<;>try (exfalso;omega))|refine oo (Pi rfl (by first|omega|(simp only [wr_length];omega))) ?_|refine oo (Pz rfl (by omega) (by omega)) ?_|refine oo (Pl rfl) ?_|refine oo (Px rfl rfl) ?_|refine oo (Pj rfl (by omega) (by omega)) ?_|refine oo (Pk rfl (by omega) (by omega)) ?_|refine oo (Pf rfl) ?_|refine oo (Pv rfl (by omega) (by omega)) ?_|refine oo (Pn rfl) ?_|refine oo (Ph rfl) ?_|refine oo (Pg rfl (by omega) (by omega)) ?_|refine oo (Pe rfl (by omega) (by omega)) ?_|refine oo (Po rfl (by omega) (by omega)) ?_|refine oo (Pm rfl) ?_|refine os rfl rfl ?_|refine ot rfl (by first|omega|(simp only [wr_length];omega)) ?_|refine O_nil ?_)|refine wo rfl ?_|refine wc rfl ?_|refine wg rfl ?_|refine go rfl ?_|refine gc rfl ?_|refine gg rfl ?_)
  refine O_make25 (n := T.length) rfl (by omega) trivial rfl fun bl _ => ?_
  repeat' (first|(refine isO ?_;first|refine oo (Pc rfl) ?_|refine oo (Pa rfl (by omega) (by omega)) ?_|(refine ob rfl ?_ ?_<;>intro hq<;>try (exfalso;omega))|refine oo (Pi rfl (by first|omega|(simp only [wr_length];omega))) ?_|refine oo (Pz rfl (by omega) (by omega)) ?_|refine oo (Pl rfl) ?_|refine oo (Px rfl rfl) ?_|refine oo (Pj rfl (by omega) (by omega)) ?_|refine oo (Pk rfl (by omega) (by omega)) ?_|refine oo (Pf rfl) ?_|refine oo (Pv rfl (by omega) (by omega)) ?_|refine oo (Pn rfl) ?_|refine oo (Ph rfl) ?_|refine oo (Pg rfl (by omega) (by omega)) ?_|refine oo (Pe rfl (by omega) (by omega)) ?_|refine oo (Po rfl (by omega) (by omega)) ?_|refine oo (Pm rfl) ?_|refine os rfl rfl ?_|refine ot rfl (by first|omega|(simp only [wr_length];omega)) ?_|refine O_nil ?_)|refine wo rfl ?_|refine wc rfl ?_|refine wg rfl ?_|refine go rfl ?_|refine gc rfl ?_|refine gg rfl ?_)
  refine W_region_sp2 4 0 5 (fun v M' => ∃ b, v = .slice (some ⟨b, 0, none⟩) 0 0 ∧ M' = ⟨true, b, 0, []⟩ :: ⟨true, bl, 0, ints .i64 (List.replicate T.length 0)⟩ :: ⟨true, b1, 0, [.slice (some ⟨bb, ob, none⟩) T.length cap]⟩ :: ⟨true, b2, 0, [.slice (some ⟨bl, 0, none⟩) T.length T.length]⟩ :: M)
    2 7 (fun _ v2 M2 => ∃ b c s, v2 = .slice (some ⟨b, 0, none⟩) T.length c ∧ M2 = ⟨true, b, 0, ints .u8 (T.map Nat.cast) ++ s⟩ :: ⟨true, bl, 0, ints .i64 (List.replicate T.length 0)⟩ :: ⟨true, b1, 0, [.slice (some ⟨bb, ob, none⟩) T.length cap]⟩ :: ⟨true, b2, 0, [.slice (some ⟨bl, 0, none⟩) T.length T.length]⟩ :: M)
    (by decide) (by decide) (by decide) Tb.mixed [[], [], [0, 1], [], [2, 3]] (by kernel_rfl) (by kernel_rfl) (by kernel_rfl) (by kernel_rfl) (by kernel_rfl) (by decide) (fun v M' ⟨b, _, h⟩ => by rw [h]; exact .drop .rfl) (fun v M' _ v2 M2 ⟨b, c, s, _, h⟩ => by rw [h]; exact .drop .rfl) ?_
  simp only [List.take_succ_cons, List.take_zero, List.drop_succ_cons, List.drop_zero]
  repeat' (first | (refine isQE ?_; first | refine hh rfl rfl (Pc rfl) ?_ | refine hh rfl rfl (Pa rfl (by omega) (by omega)) ?_ | (refine hb rfl rfl rfl ?_ ?_ <;> intro hq <;> try (exfalso; omega)) | refine hh rfl rfl (Pi rfl (by omega)) ?_ | refine hh rfl rfl (Pl rfl) ?_ | refine hh rfl rfl (Px rfl rfl) ?_  | refine hh rfl rfl (Pj rfl (by omega) (by omega)) ?_ | refine hh rfl rfl (Pk rfl (by omega) (by omega)) ?_ | refine hh rfl rfl (Pf rfl) ?_ | refine hh rfl rfl (Pv rfl (by omega) (by omega)) ?_ | refine hh rfl rfl (Pn rfl) ?_ | refine hh rfl rfl (Pm rfl) ?_ | (refine QE_nil ⟨rfl, ?_⟩; simp only [List.reverse_cons, List.reverse_nil, List.nil_append, List.cons_append, somes])))
  refine hsp1 rfl (s_build rfl (fun w => empty22 w) trivial rfl) ?_
  repeat' (first | (refine isQE ?_; first | refine hh rfl rfl (Pc rfl) ?_ | refine hh rfl rfl (Pa rfl (by omega) (by omega)) ?_ | (refine hb rfl rfl rfl ?_ ?_ <;> intro hq <;> try (exfalso; omega)) | refine hh rfl rfl (Pi rfl (by omega)) ?_ | refine hh rfl rfl (Pl rfl) ?_ | refine hh rfl rfl (Px rfl rfl) ?_  | refine hh rfl rfl (Pj rfl (by omega) (by omega)) ?_ | refine hh rfl rfl (Pk rfl (by omega) (by omega)) ?_ | refine hh rfl rfl (Pf rfl) ?_ | refine hh rfl rfl (Pv rfl (by omega) (by omega)) ?_ | refine hh rfl rfl (Pn rfl) ?_ | refine hh rfl rfl (Pm rfl) ?_ | (refine QE_nil ⟨rfl, ?_⟩; simp only [List.reverse_cons, List.reverse_nil, List.nil_append, List.cons_append, somes])))
  refine hsp2 rfl rfl (fun v M2 h => by
    obtain ⟨b', rfl, rfl⟩ := h
    refine SpAt.mono (s_appendAt (xs := []) (m := [⟨true, b', 0, []⟩]) (M0 := ⟨true, bl, 0, ints .i64 (List.replicate T.length 0)⟩ :: ⟨true, b1, 0, [.slice (some ⟨bb, ob, none⟩) T.length cap]⟩ :: ⟨true, b2, 0, [.slice (some ⟨bl, 0, none⟩) T.length T.length]⟩ :: M) (len := 0) (size := 1) (l0 := ints .u8 (T.map Nat.cast) ++ sp) (o0 := ob) (ii := 0) (lx := ints .u8 (T.map Nat.cast) ++ sp) (ownx := own) (n := T.length) Tb.u22 Tb.u22 hI hI1 (by decide) (by rw [hI2]; decide) hI3 rfl rfl rfl
      (Own.of_new (len := 0) rfl) .rfl rfl (.tail _ (.tail _ (.tail _ hm))) rfl rfl (by rw [List.length_append, ints_length, List.length_map]; omega) (fun v hv => by
        rw [take_ints] at hv
        unfold ints at hv
        obtain ⟨z, _, rfl⟩ := List.mem_map.1 hv
        rfl) (.inl hn0) (by rw [hI2]; omega) trivial rfl) ?_
    rintro v M' ⟨b, c, s, _, rfl, rfl⟩
    refine ⟨b, c, s, by rw [Nat.zero_add], ?_⟩
    rw [take_ints]
    rfl) ?_
  repeat' (first | (refine isQE ?_; first | refine hh rfl rfl (Pc rfl) ?_ | refine hh rfl rfl (Pa rfl (by omega) (by omega)) ?_ | (refine hb rfl rfl rfl ?_ ?_ <;> intro hq <;> try (exfalso; omega)) | refine hh rfl rfl (Pi rfl (by omega)) ?_ | refine hh rfl rfl (Pl rfl) ?_ | refine hh rfl rfl (Px rfl rfl) ?_  | refine hh rfl rfl (Pj rfl (by omega) (by omega)) ?_ | refine hh rfl rfl (Pk rfl (by omega) (by omega)) ?_ | refine hh rfl rfl (Pf rfl) ?_ | refine hh rfl rfl (Pv rfl (by omega) (by omega)) ?_ | refine hh rfl rfl (Pn rfl) ?_ | refine hh rfl rfl (Pm rfl) ?_ | (refine QE_nil ⟨rfl, ?_⟩; simp only [List.reverse_cons, List.reverse_nil, List.nil_append, List.cons_append, somes])))
  rintro v1 M1 ⟨b5, rfl, rfl⟩ v2 M2 ⟨b7, c7, s7, rfl, rfl⟩
  refine O_re (.trans (Rs.split (o2 := 0 + T.length) (xs := ints .u8 (T.map Nat.cast)) (ys := s7) rfl (by rw [ints_length, List.length_map])) (.of (L := ⟨true, b7, 0, ints .u8 (T.map Nat.cast)⟩ :: ⟨true, bl, 0, ints .i64 (List.replicate T.length 0)⟩ :: ⟨true, b1, 0, [.slice (some ⟨bb, ob, none⟩) T.length cap]⟩ :: ⟨true, b2, 0, [.slice (some ⟨bl, 0, none⟩) T.length T.length]⟩ :: M) (.cons .head (.drop .rfl)))) ?_
  refine O_call rfl rfl Tb.k10 trivial rfl (compute_c T hT _ List.length_replicate true b7 0 c7 bl 0 T.length _ (Nat.le_refl _) (Ne.cons (by simp) (Ne.cons (by simp) hM))) ?_
  rintro _ M' ⟨rfl, X', h1, h2, hrk⟩
  refine O_weak hrk ?_
  repeat' (first|(refine isO ?_;first|refine oo (Pc rfl) ?_|refine oo (Pa rfl (by omega) (by omega)) ?_|(refine ob rfl ?_ ?_<;>intro hq<;>try (exfalso;omega))|refine oo (Pi rfl (by first|omega|(simp only [wr_length];omega))) ?_|refine oo (Pz rfl (by omega) (by omega)) ?_|refine oo (Pl rfl) ?_|refine oo (Px rfl rfl) ?_|refine oo (Pj rfl (by omega) (by omega)) ?_|refine oo (Pk rfl (by omega) (by omega)) ?_|refine oo (Pf rfl) ?_|refine oo (Pv rfl (by omega) (by omega)) ?_|refine oo (Pn rfl) ?_|refine oo (Ph rfl) ?_|refine oo (Pg rfl (by omega) (by omega)) ?_|refine oo (Pe rfl (by omega) (by omega)) ?_|refine oo (Po rfl (by omega) (by omega)) ?_|refine oo (Pm rfl) ?_|refine os rfl rfl ?_|refine ot rfl (by first|omega|(simp only [wr_length];omega)) ?_|refine O_nil ?_)|refine wo rfl ?_|refine wc rfl ?_|refine wg rfl ?_|refine go rfl ?_|refine gc rfl ?_|refine gg rfl ?_)
  exact G_fin ⟨_, rfl, rfl, bl, X', h1, h2, .drop (.cons (.tail (.tail .head)) (.cons .head (.drop .rfl)))⟩
theorem zero25 : zeroOf Try.prog 25 = some [.slice none 0 0] := by kernel_rfl
theorem suffixes_c (T : List Nat) (hT : Txt T 256) (own : Bool) (bb ob cap : Nat) (sp : List Value) (M : Mem) (hm : (⟨own, bb, ob, ints .u8 (T.map Nat.cast) ++ sp⟩ : Sg) ∈ M) (hM : Ne M) :
    HC Try.prog 7 #[.slice (some ⟨bb, ob, none⟩) T.length cap] M
      (fun v M' => ∃ (bl : Nat) (X : List Int), X.length = T.length ∧ SufA T X ∧ v = .slice (some ⟨bl, 0, none⟩) T.length T.length ∧ Rk M' (⟨true, bl, 0, ints .i64 X⟩ :: M)) := by
  refine HC_of_WM (fn := Try.f7) Try.func7 rfl rfl rfl rfl ?_
  repeat' (first|(refine isO ?_;first|refine oo (Pc rfl) ?_|refine oo (Pa rfl (by omega) (by omega)) ?_|(refine ob rfl ?_ ?_<;>intro hq<;>try (exfalso;omega))|refine oo (Pi rfl (by first|omega|(simp only [wr_length];omega))) ?_|refine oo (Pz rfl (by omega) (by omega)) ?_|refine oo (Pl rfl) ?_|refine oo (Px rfl rfl) ?_|refine oo (Pj rfl (by omega) (by omega)) ?_|refine oo (Pk rfl (by omega) (by omega)) ?_|refine oo (Pf rfl) ?_|refine oo (Pv rfl (by omega) (by omega)) ?_|refine oo (Pn rfl) ?_|refine oo (Ph rfl) ?_|refine oo (Pg rfl (by omega) (by omega)) ?_|refine oo (Pe rfl (by omega) (by omega)) ?_|refine oo (Po rfl (by omega) (by omega)) ?_|refine oo (Pm rfl) ?_|refine os rfl rfl ?_|refine ot rfl (by first|omega|(simp only [wr_length];omega)) ?_|refine O_nil ?_)|refine wo rfl ?_|refine wc rfl ?_|refine wg rfl ?_|refine go rfl ?_|refine gc rfl ?_|refine gg rfl ?_)
  refine O_box rfl trivial rfl fun b1 => ?_
  refine O_alloc zero25 trivial rfl fun b2 => ?_
  repeat' (first|(refine isO ?_;first|refine oo (Pc rfl) ?_|refine oo (Pa rfl (by omega) (by omega)) ?_|(refine ob rfl ?_ ?_<;>intro hq<;>try (exfalso;omega))|refine oo (Pi rfl (by first|omega|(simp only [wr_length];omega))) ?_|refine oo (Pz rfl (by omega) (by omega)) ?_|refine oo (Pl rfl) ?_|refine oo (Px rfl rfl) ?_|refine oo (Pj rfl (by omega) (by omega)) ?_|refine oo (Pk rfl (by omega) (by omega)) ?_|refine oo (Pf rfl) ?_|refine oo (Pv rfl (by omega) (by omega)) ?_|refine oo (Pn rfl) ?_|refine oo (Ph rfl) ?_|refine oo (Pg rfl (by omega) (by omega)) ?_|refine oo (Pe rfl (by omega) (by omega)) ?_|refine oo (Po rfl (by omega) (by omega)) ?_|refine oo (Pm rfl) ?_|refine os rfl rfl ?_|refine ot rfl (by first|omega|(simp only [wr_length];omega)) ?_|refine O_nil ?_)|refine wo rfl ?_|refine wc rfl ?_|refine wg rfl ?_|refine go rfl ?_|refine gc rfl ?_|refine gg rfl ?_)
  refine O_call rfl rfl Tb.k8 trivial rfl (safe_x (f := 9) (R := fun M' => ∃ (bl : Nat) (X : List Int), X.length = T.length ∧ SufA T X ∧ Rk M' (⟨true, b2, 0, [.slice (some ⟨bl, 0, none⟩) T.length T.length]⟩ :: ⟨true, bl, 0, ints .i64 X⟩ :: M)) (X := fun _ => False) Tb.k9 fun bs => ?_) ?_
  · refine (HX.take (L := ⟨true, b1, 0, [.slice (some ⟨bb, ob, none⟩) T.length cap]⟩ :: ⟨true, b2, 0, [.slice none 0 0]⟩ :: ⟨true, bs, 0, [.bool false]⟩ :: M) (.cons (.tail (.tail .head)) (.cons (.tail .head) .rfl)) (HX_of_HC (X := fun _ => False) (closure_c T hT own bb ob cap b1 b2 sp _ (.tail _ hm) (Ne.cons (by simp) hM)))).mono ?_ (fun _ h => h.elim)
    rintro v M' ⟨rfl, bl, X, h1, h2, hrk⟩
    exact ⟨_, .trans hrk (.cons (.tail (.tail .head)) .rfl), bl, X, h1, h2, .rfl⟩
  rintro v M' (⟨rfl, bl, X, h1, h2, hrk⟩ | ⟨_, h⟩)
  · refine O_weak hrk ?_
    repeat' (first|(refine isO ?_;first|refine oo (Pc rfl) ?_|refine oo (Pa rfl (by omega) (by omega)) ?_|(refine ob rfl ?_ ?_<;>intro hq<;>try (exfalso;omega))|refine oo (Pi rfl (by first|omega|(simp only [wr_length];omega))) ?_|refine oo (Pz rfl (by omega) (by omega)) ?_|refine oo (Pl rfl) ?_|refine oo (Px rfl rfl) ?_|refine oo (Pj rfl (by omega) (by omega)) ?_|refine oo (Pk rfl (by omega) (by omega)) ?_|refine oo (Pf rfl) ?_|refine oo (Pv rfl (by omega) (by omega)) ?_|refine oo (Pn rfl) ?_|refine oo (Ph rfl) ?_|refine oo (Pg rfl (by omega) (by omega)) ?_|refine oo (Pe rfl (by omega) (by omega)) ?_|refine oo (Po rfl (by omega) (by omega)) ?_|refine oo (Pm rfl) ?_|refine os rfl rfl ?_|refine ot rfl (by first|omega|(simp only [wr_length];omega)) ?_|refine O_nil ?_)|refine wo rfl ?_|refine wc rfl ?_|refine wg rfl ?_|refine go rfl ?_|refine gc rfl ?_|refine gg rfl ?_)
    exact G_fin ⟨[.slice (some ⟨bl, 0, none⟩) T.length T.length], ⟨⟨_, _, _, _, _, rfl, TakeI.out.mem, Try.underlying25, rfl⟩, trivial⟩, bl, X, h1, h2, rfl, .drop .rfl⟩
  · exact h.elim
end Go.Proofs.Ytcibehgcibojnaa.Sai
