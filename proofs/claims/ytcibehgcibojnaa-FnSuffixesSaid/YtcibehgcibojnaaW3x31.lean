/- computeSA: the suffixes in their order. Conditions: at most 1000 cells, letters less than 512; the same of shorter texts. The suffixes of a text, whatever its length: by the same of shorter texts. No condition. impl.safe carries a function out and tells that it did not panic: for every function that returns. impl.safe tells whether what it carries out panicked: for every function that returns or panics with an error. -/
import Derived.Test.YtcibehgcibojnaaW3x30
import Derived.Test.YtcibehgcibojnaaW3x21
import Derived.Test.YtcibehgcibojnaaW3x03
import Derived.Test.YtcibehgcibojnaaProg
import Derived.WalkKit
import Derived.Recover
import Derived.Laws.Pointers
import Derived.Test.YtcibehgcibojnaaW3x05
import Derived.WalkSmall

namespace Go.Proofs.Ytcibehgcibojnaa.Saii
open Go Go.RowKit Go.Proofs.Ytcibehgcibojnaa.Vm Go.Proofs.Ytcibehgcibojnaa.Sais Go.Proofs.Ytcibehgcibojnaa.Sai
theorem fl1 : Fl 1 false := ⟨by decide, by decide, by decide, by decide⟩
theorem fl17 : Fl 17 false := ⟨by decide, by decide, by decide, by decide⟩
theorem fl33 : Fl 33 false := ⟨by decide, by decide, by decide, by decide⟩
theorem fl3 : Fl 3 true := ⟨by decide, by decide, by decide, by decide⟩
theorem fl19 : Fl 19 true := ⟨by decide, by decide, by decide, by decide⟩
theorem fd1 : FlD 1 0 := ⟨fun _ => by decide, fun h => absurd h (by decide), fun h => absurd h (by decide), by decide⟩
theorem fd3 : FlD 3 0 := ⟨fun _ => by decide, fun h => absurd h (by decide), fun h => absurd h (by decide), by decide⟩
theorem fd17 : FlD 17 1 := ⟨fun h => absurd h (by decide), fun _ => ⟨by decide, by decide⟩, fun h => absurd h (by decide), by decide⟩
theorem fd19 : FlD 19 1 := ⟨fun h => absurd h (by decide), fun _ => ⟨by decide, by decide⟩, fun h => absurd h (by decide), by decide⟩
theorem fd33 : FlD 33 2 := ⟨fun h => absurd h (by decide), fun h => absurd h (by decide), fun _ => ⟨by decide, by decide⟩, by decide⟩
set_option maxHeartbeats 16000000 in
theorem csa_c (T : List Nat) (k : Nat) (hT : Txt T k) (hk5 : k ≤ 512) (fs n' : Nat) (hn' : T.length = n') (X : List Int) (hXl : X.length = n' + fs) (hN : n' + fs ≤ 1000)
    (own : Bool) (bT oT lT cT bS oS lS cS : Nat) (F : Mem) (hlT : n' ≤ lT) (hlS : n' + fs ≤ lS) (hcS : lS ≤ cS) (hF : Ne F) (hrec : Rec T.length) :
    HC Try.prog 19 #[.slice (some ⟨bT, oT, none⟩) lT cT, .slice (some ⟨bS, oS, none⟩) lS cS, .int .i64 fs, .int .i64 n', .int .i64 k]
      (⟨own, bT, oT, ints .i64 (T.map Nat.cast)⟩ :: ⟨true, bS, oS, ints .i64 X⟩ :: F)
      (fun v M' => v = .tuple #[] ∧ ∃ X' : List Int, X'.length = n' + fs ∧ SufA T X' ∧ Rk M' (⟨own, bT, oT, ints .i64 (T.map Nat.cast)⟩ :: ⟨true, bS, oS, ints .i64 X'⟩ :: F)) := by
  subst hn'
  have hn0 := hT.n0
  have hk0 := hT.k0
  refine HC_of_W (fn := Try.f19) Try.func19 rfl rfl rfl rfl ?_
  repeat' (first | (refine isO ?_; first | refine oo (Pc rfl) ?_ | refine oo (Pa rfl (by omega) (by omega)) ?_ | (refine ob rfl ?_ ?_ <;> intro hq <;> try (exfalso; omega)) | refine oo (Pi rfl (by first | omega | (simp only [wr_length]; omega))) ?_ | refine oo (Pz rfl (by omega) (by omega)) ?_ | refine oo (Pl rfl) ?_ | refine oo (Px rfl rfl) ?_ | refine oo (Pj rfl (by omega) (by omega)) ?_ | refine oo (Pk rfl (by omega) (by omega)) ?_ | refine oo (Pf rfl) ?_ | refine oo (Pv rfl (by omega) (by omega)) ?_ | refine oo (Pn rfl) ?_ | refine oo (Ph rfl) ?_ | refine oo (Pg rfl (by omega) (by omega)) ?_ | refine oo (Pe rfl (by omega) (by omega)) ?_ | refine oo (Po rfl (by omega) (by omega)) ?_ | refine oo (Pm rfl) ?_ | refine os rfl rfl ?_ | refine ot rfl (by first | omega | (simp only [wr_length]; omega)) ?_ | refine O_nil ?_) | refine wo rfl ?_ | refine wc rfl ?_ | refine wg rfl ?_ | refine go rfl ?_ | refine gc rfl ?_ | refine gg rfl ?_)
  refine O_make25 (n := k) rfl (by omega) trivial rfl fun bC hbC => ?_
  have hneS : bC ≠ bS := fun e => hbC _ (.tail _ (.head _)) e.symm
  have hQ : 2 ≤ T.length / k ∨ ¬ 2 ≤ T.length / k := Decidable.em _
  have hqc : ((T.length / k : Nat) : Int) = (T.length : Int) / (k : Int) := rfl
  have hstop : Stop [27] := ⟨⟩
  by_cases hkf : k ≤ fs
  · obtain ⟨oB, hoB⟩ : ∃ oB, oB = oS + (T.length + (fs - k)) := ⟨_, rfl⟩
    repeat' (first | (refine isO ?_; first | refine oo (Pc rfl) ?_ | refine oo (Pa rfl (by omega) (by omega)) ?_ | (refine ob rfl ?_ ?_ <;> intro hq <;> try (exfalso; omega)) | refine oo (Pi rfl (by first | omega | (simp only [wr_length]; omega))) ?_ | refine oo (Pz rfl (by omega) (by omega)) ?_ | refine oo (Pl rfl) ?_ | refine oo (Px rfl rfl) ?_ | refine oo (Pj rfl (by omega) (by omega)) ?_ | refine oo (Pk rfl (by omega) (by omega)) ?_ | refine oo (Pf rfl) ?_ | refine oo (Pv rfl (by omega) (by omega)) ?_ | refine oo (Pn rfl) ?_ | refine oo (Ph rfl) ?_ | refine oo (Pg rfl (by omega) (by omega)) ?_ | refine oo (Pe rfl (by omega) (by omega)) ?_ | refine oo (Po rfl (by omega) (by omega)) ?_ | refine oo (Pm rfl) ?_ | refine os rfl rfl ?_ | refine ot rfl (by first | omega | (simp only [wr_length]; omega)) ?_ | refine O_nil ?_) | refine wu hstop rfl rfl ?_ | refine gu hstop rfl rfl ?_ | refine wc rfl ?_ | refine wg rfl ?_ | refine gc rfl ?_ | refine gg rfl ?_)
    refine O_pure (P_slice1E (o' := oB) (len' := lS - (T.length + (fs - k))) (cap' := cS - (T.length + (fs - k))) Tb.u25 Tb.c3 rfl ⟨_, rfl⟩ rfl (by omega) (by omega) (by omega) (by omega) (by omega) (by omega) (by omega)) trivial rfl ?_
    repeat' (first | (refine isO ?_; first | refine oo (Pc rfl) ?_ | refine oo (Pa rfl (by omega) (by omega)) ?_ | (refine ob rfl ?_ ?_ <;> intro hq <;> try (exfalso; omega)) | refine oo (Pi rfl (by first | omega | (simp only [wr_length]; omega))) ?_ | refine oo (Pz rfl (by omega) (by omega)) ?_ | refine oo (Pl rfl) ?_ | refine oo (Px rfl rfl) ?_ | refine oo (Pj rfl (by omega) (by omega)) ?_ | refine oo (Pk rfl (by omega) (by omega)) ?_ | refine oo (Pf rfl) ?_ | refine oo (Pv rfl (by omega) (by omega)) ?_ | refine oo (Pn rfl) ?_ | refine oo (Ph rfl) ?_ | refine oo (Pg rfl (by omega) (by omega)) ?_ | refine oo (Pe rfl (by omega) (by omega)) ?_ | refine oo (Po rfl (by omega) (by omega)) ?_ | refine oo (Pm rfl) ?_ | refine os rfl rfl ?_ | refine ot rfl (by first | omega | (simp only [wr_length]; omega)) ?_ | refine O_nil ?_) | refine wu hstop rfl rfl ?_ | refine gu hstop rfl rfl ?_ | refine wc rfl ?_ | refine wg rfl ?_ | refine gc rfl ?_ | refine gg rfl ?_)
    clear hstop
    have hsp : Rs (⟨true, bC, 0, ints .i64 (List.replicate k 0)⟩ :: ⟨own, bT, oT, ints .i64 (T.map Nat.cast)⟩ :: ⟨true, bS, oS, ints .i64 X⟩ :: F) (⟨own, bT, oT, ints .i64 (T.map Nat.cast)⟩ :: ⟨true, bS, oS, ints .i64 (X.take T.length)⟩ :: ⟨true, bC, 0, ints .i64 (List.replicate k 0)⟩ :: ⟨true, bS, oB, ints .i64 ((X.drop T.length).drop (fs - k))⟩ :: ⟨true, bS, oS + T.length, ints .i64 ((X.drop T.length).take (fs - k))⟩ :: F) :=
      .trans (.of (L := ⟨true, bS, oS, ints .i64 X⟩ :: ⟨own, bT, oT, ints .i64 (T.map Nat.cast)⟩ :: ⟨true, bC, 0, ints .i64 (List.replicate k 0)⟩ :: F) (.cons (.tail (.tail .head)) (.cons (.tail .head) .rfl)))
        (.trans (Rs.split (o2 := oS + T.length) (xs := ints .i64 (X.take T.length)) (ys := ints .i64 (X.drop T.length)) (by rw [← ints_append, List.take_append_drop]) (by rw [ints_length, List.length_take]; omega))
          (.trans (.of (L := ⟨true, bS, oS + T.length, ints .i64 (X.drop T.length)⟩ :: ⟨true, bS, oS, ints .i64 (X.take T.length)⟩ :: ⟨own, bT, oT, ints .i64 (T.map Nat.cast)⟩ :: ⟨true, bC, 0, ints .i64 (List.replicate k 0)⟩ :: F) (.cons (.tail .head) (.cons .head .rfl)))
            (.trans (Rs.split (o2 := oB) (xs := ints .i64 ((X.drop T.length).take (fs - k))) (ys := ints .i64 ((X.drop T.length).drop (fs - k))) (by rw [← ints_append, List.take_append_drop]) (by rw [ints_length, List.length_take, List.length_drop]; omega))
              (.of (.cons (.tail (.tail (.tail .head))) (.cons (.tail (.tail .head)) (.cons (.tail (.tail .head)) (.cons (.tail .head) .rfl))))))))
    refine W_re hsp ?_
    refine W_join1 (fun E' M' => ∃ (fl : Int) (dm : Nat), Fl fl false ∧ FlD fl dm ∧ (dm = 2 → 2 * k ≤ fs - k) ∧ Sub E' [(0, .slice (some ⟨bT, oT, none⟩) lT cT), (1, .slice (some ⟨bS, oS, none⟩) lS cS), (2, .int .i64 (fs : Nat)), (3, .int .i64 T.length), (4, .int .i64 k), (10, .slice (some ⟨bC, 0, none⟩) k k), (11, .slice (some ⟨bS, oB, none⟩) (lS - (T.length + (fs - k))) (cS - (T.length + (fs - k)))), (14, .int .i64 ((T.length : Int) + (fs : Int) - (k : Int))), (25, .int .u64 fl)] ∧
      Rk M' (⟨own, bT, oT, ints .i64 (T.map Nat.cast)⟩ :: ⟨true, bS, oS, ints .i64 (X.take T.length)⟩ :: ⟨true, bC, 0, ints .i64 (List.replicate k 0)⟩ :: ⟨true, bS, oB, ints .i64 ((X.drop T.length).drop (fs - k))⟩ :: ⟨true, bS, oS + T.length, ints .i64 ((X.drop T.length).take (fs - k))⟩ :: F)) ?_ ?_
    · repeat' (first | (refine isO ?_; first | refine oo (Pc rfl) ?_ | refine oo (Pa rfl (by omega) (by omega)) ?_ | (refine ob rfl ?_ ?_ <;> intro hq <;> try (exfalso; omega)) | refine oo (Pi rfl (by first | omega | (simp only [wr_length]; omega))) ?_ | refine oo (Pz rfl (by omega) (by omega)) ?_ | refine oo (Pl rfl) ?_ | refine oo (Px rfl rfl) ?_ | refine oo (Pj rfl (by omega) (by omega)) ?_ | refine oo (Pk rfl (by omega) (by omega)) ?_ | refine oo (Pf rfl) ?_ | refine oo (Pv rfl (by omega) (by omega)) ?_ | refine oo (Pn rfl) ?_ | refine oo (Ph rfl) ?_ | refine oo (Pg rfl (by omega) (by omega)) ?_ | refine oo (Pe rfl (by omega) (by omega)) ?_ | refine oo (Po rfl (by omega) (by omega)) ?_ | refine oo (Pm rfl) ?_ | refine os rfl rfl ?_ | refine ot rfl (by first | omega | (simp only [wr_length]; omega)) ?_ | refine O_nil ?_) | refine wo rfl ?_ | refine wc rfl ?_ | refine wg rfl ?_ | refine go rfl ?_ | refine gc rfl ?_ | refine gg rfl ?_)
      refine O_pure (P_quo rfl rfl (by omega) (by omega) (inK_i64 (by omega) (by omega))) ⟨_, rfl, rfl⟩ rfl ?_
      rcases hQ with h2 | h2
      · repeat' (first | (refine isO ?_; first | refine oo (Pc rfl) ?_ | refine oo (Pa rfl (by omega) (by omega)) ?_ | (refine ob rfl ?_ ?_ <;> intro hq <;> try (exfalso; omega)) | refine oo (Pi rfl (by first | omega | (simp only [wr_length]; omega))) ?_ | refine oo (Pz rfl (by omega) (by omega)) ?_ | refine oo (Pl rfl) ?_ | refine oo (Px rfl rfl) ?_ | refine oo (Pj rfl (by omega) (by omega)) ?_ | refine oo (Pk rfl (by omega) (by omega)) ?_ | refine oo (Pf rfl) ?_ | refine oo (Pv rfl (by omega) (by omega)) ?_ | refine oo (Pn rfl) ?_ | refine oo (Ph rfl) ?_ | refine oo (Pg rfl (by omega) (by omega)) ?_ | refine oo (Pe rfl (by omega) (by omega)) ?_ | refine oo (Po rfl (by omega) (by omega)) ?_ | refine oo (Pm rfl) ?_ | refine os rfl rfl ?_ | refine ot rfl (by first | omega | (simp only [wr_length]; omega)) ?_ | refine O_nil ?_) | refine wo rfl ?_ | refine wc rfl ?_ | refine wg rfl ?_ | refine go rfl ?_ | refine gc rfl ?_ | refine gg rfl ?_)
        refine oo (Pfl (r := 1) rfl (by decide)) ?_
        by_cases h3 : 2 * k ≤ fs - k
        · repeat' (first | (refine isO ?_; first | refine oo (Pc rfl) ?_ | refine oo (Pa rfl (by omega) (by omega)) ?_ | (refine ob rfl ?_ ?_ <;> intro hq <;> try (exfalso; omega)) | refine oo (Pi rfl (by first | omega | (simp only [wr_length]; omega))) ?_ | refine oo (Pz rfl (by omega) (by omega)) ?_ | refine oo (Pl rfl) ?_ | refine oo (Px rfl rfl) ?_ | refine oo (Pj rfl (by omega) (by omega)) ?_ | refine oo (Pk rfl (by omega) (by omega)) ?_ | refine oo (Pf rfl) ?_ | refine oo (Pv rfl (by omega) (by omega)) ?_ | refine oo (Pn rfl) ?_ | refine oo (Ph rfl) ?_ | refine oo (Pg rfl (by omega) (by omega)) ?_ | refine oo (Pe rfl (by omega) (by omega)) ?_ | refine oo (Po rfl (by omega) (by omega)) ?_ | refine oo (Pm rfl) ?_ | refine os rfl rfl ?_ | refine ot rfl (by first | omega | (simp only [wr_length]; omega)) ?_ | refine O_nil ?_) | refine wo rfl ?_ | refine wc rfl ?_ | refine wg rfl ?_ | refine go rfl ?_ | refine gc rfl ?_ | refine gg rfl ?_)
          refine oo (Pfo (r := 33) rfl (by decide)) ?_
          repeat' (first | (refine isO ?_; first | refine oo (Pc rfl) ?_ | refine oo (Pa rfl (by omega) (by omega)) ?_ | (refine ob rfl ?_ ?_ <;> intro hq <;> try (exfalso; omega)) | refine oo (Pi rfl (by first | omega | (simp only [wr_length]; omega))) ?_ | refine oo (Pz rfl (by omega) (by omega)) ?_ | refine oo (Pl rfl) ?_ | refine oo (Px rfl rfl) ?_ | refine oo (Pj rfl (by omega) (by omega)) ?_ | refine oo (Pk rfl (by omega) (by omega)) ?_ | refine oo (Pf rfl) ?_ | refine oo (Pv rfl (by omega) (by omega)) ?_ | refine oo (Pn rfl) ?_ | refine oo (Ph rfl) ?_ | refine oo (Pg rfl (by omega) (by omega)) ?_ | refine oo (Pe rfl (by omega) (by omega)) ?_ | refine oo (Po rfl (by omega) (by omega)) ?_ | refine oo (Pm rfl) ?_ | refine os rfl rfl ?_ | refine ot rfl (by first | omega | (simp only [wr_length]; omega)) ?_ | refine O_nil ?_) | refine wo rfl ?_ | refine wc rfl ?_ | refine wg rfl ?_ | refine go rfl ?_ | refine gc rfl ?_ | refine gg rfl ?_)
          exact G_stop ⟨33, 2, fl33, fd33, fun _ => h3, by (repeat (first | exact trivial | refine ⟨rfl, ?_⟩)), .rfl⟩
        · repeat' (first | (refine isO ?_; first | refine oo (Pc rfl) ?_ | refine oo (Pa rfl (by omega) (by omega)) ?_ | (refine ob rfl ?_ ?_ <;> intro hq <;> try (exfalso; omega)) | refine oo (Pi rfl (by first | omega | (simp only [wr_length]; omega))) ?_ | refine oo (Pz rfl (by omega) (by omega)) ?_ | refine oo (Pl rfl) ?_ | refine oo (Px rfl rfl) ?_ | refine oo (Pj rfl (by omega) (by omega)) ?_ | refine oo (Pk rfl (by omega) (by omega)) ?_ | refine oo (Pf rfl) ?_ | refine oo (Pv rfl (by omega) (by omega)) ?_ | refine oo (Pn rfl) ?_ | refine oo (Ph rfl) ?_ | refine oo (Pg rfl (by omega) (by omega)) ?_ | refine oo (Pe rfl (by omega) (by omega)) ?_ | refine oo (Po rfl (by omega) (by omega)) ?_ | refine oo (Pm rfl) ?_ | refine os rfl rfl ?_ | refine ot rfl (by first | omega | (simp only [wr_length]; omega)) ?_ | refine O_nil ?_) | refine wo rfl ?_ | refine wc rfl ?_ | refine wg rfl ?_ | refine go rfl ?_ | refine gc rfl ?_ | refine gg rfl ?_)
          refine oo (Pfo (r := 17) rfl (by decide)) ?_
          repeat' (first | (refine isO ?_; first | refine oo (Pc rfl) ?_ | refine oo (Pa rfl (by omega) (by omega)) ?_ | (refine ob rfl ?_ ?_ <;> intro hq <;> try (exfalso; omega)) | refine oo (Pi rfl (by first | omega | (simp only [wr_length]; omega))) ?_ | refine oo (Pz rfl (by omega) (by omega)) ?_ | refine oo (Pl rfl) ?_ | refine oo (Px rfl rfl) ?_ | refine oo (Pj rfl (by omega) (by omega)) ?_ | refine oo (Pk rfl (by omega) (by omega)) ?_ | refine oo (Pf rfl) ?_ | refine oo (Pv rfl (by omega) (by omega)) ?_ | refine oo (Pn rfl) ?_ | refine oo (Ph rfl) ?_ | refine oo (Pg rfl (by omega) (by omega)) ?_ | refine oo (Pe rfl (by omega) (by omega)) ?_ | refine oo (Po rfl (by omega) (by omega)) ?_ | refine oo (Pm rfl) ?_ | refine os rfl rfl ?_ | refine ot rfl (by first | omega | (simp only [wr_length]; omega)) ?_ | refine O_nil ?_) | refine wo rfl ?_ | refine wc rfl ?_ | refine wg rfl ?_ | refine go rfl ?_ | refine gc rfl ?_ | refine gg rfl ?_)
          exact G_stop ⟨17, 1, fl17, fd17, fun h => absurd h (by decide), by (repeat (first | exact trivial | refine ⟨rfl, ?_⟩)), .rfl⟩
      · repeat' (first | (refine isO ?_; first | refine oo (Pc rfl) ?_ | refine oo (Pa rfl (by omega) (by omega)) ?_ | (refine ob rfl ?_ ?_ <;> intro hq <;> try (exfalso; omega)) | refine oo (Pi rfl (by first | omega | (simp only [wr_length]; omega))) ?_ | refine oo (Pz rfl (by omega) (by omega)) ?_ | refine oo (Pl rfl) ?_ | refine oo (Px rfl rfl) ?_ | refine oo (Pj rfl (by omega) (by omega)) ?_ | refine oo (Pk rfl (by omega) (by omega)) ?_ | refine oo (Pf rfl) ?_ | refine oo (Pv rfl (by omega) (by omega)) ?_ | refine oo (Pn rfl) ?_ | refine oo (Ph rfl) ?_ | refine oo (Pg rfl (by omega) (by omega)) ?_ | refine oo (Pe rfl (by omega) (by omega)) ?_ | refine oo (Po rfl (by omega) (by omega)) ?_ | refine oo (Pm rfl) ?_ | refine os rfl rfl ?_ | refine ot rfl (by first | omega | (simp only [wr_length]; omega)) ?_ | refine O_nil ?_) | refine wo rfl ?_ | refine wc rfl ?_ | refine wg rfl ?_ | refine go rfl ?_ | refine gc rfl ?_ | refine gg rfl ?_)
        exact G_stop ⟨1, 0, fl1, fd1, fun h => absurd h (by decide), by (repeat (first | exact trivial | refine ⟨rfl, ?_⟩)), .rfl⟩
    rintro E' M' ⟨fl, dm, hfl, hfd, hdm, hsub, hrk⟩
    refine G_code (W_weak hsub hrk ?_)
    exact partB T k hT hk5 fs hN fl false hfl dm hfd _ _ _ _ (by rw [List.length_take]; omega) List.length_replicate (by rw [List.length_drop, List.length_drop]; omega) (fs - k) (by rw [List.length_take, List.length_drop]; omega) _
      own bT oT lT cT bS oS lS cS bS oB _ _ bC ⟨fun h => absurd h (by decide), fun _ => ⟨by omega, rfl, hoB⟩, by omega⟩ (fun h => ⟨by omega, hdm h⟩) F hlT hlS hcS hneS hneS hF hrec (by omega)
  · repeat' (first | (refine isO ?_; first | refine oo (Pc rfl) ?_ | refine oo (Pa rfl (by omega) (by omega)) ?_ | (refine ob rfl ?_ ?_ <;> intro hq <;> try (exfalso; omega)) | refine oo (Pi rfl (by first | omega | (simp only [wr_length]; omega))) ?_ | refine oo (Pz rfl (by omega) (by omega)) ?_ | refine oo (Pl rfl) ?_ | refine oo (Px rfl rfl) ?_ | refine oo (Pj rfl (by omega) (by omega)) ?_ | refine oo (Pk rfl (by omega) (by omega)) ?_ | refine oo (Pf rfl) ?_ | refine oo (Pv rfl (by omega) (by omega)) ?_ | refine oo (Pn rfl) ?_ | refine oo (Ph rfl) ?_ | refine oo (Pg rfl (by omega) (by omega)) ?_ | refine oo (Pe rfl (by omega) (by omega)) ?_ | refine oo (Po rfl (by omega) (by omega)) ?_ | refine oo (Pm rfl) ?_ | refine os rfl rfl ?_ | refine ot rfl (by first | omega | (simp only [wr_length]; omega)) ?_ | refine O_nil ?_) | refine wu hstop rfl rfl ?_ | refine gu hstop rfl rfl ?_ | refine wc rfl ?_ | refine wg rfl ?_ | refine gc rfl ?_ | refine gg rfl ?_)
    refine O_make25 (n := k) rfl (by omega) trivial rfl fun bB hbB => ?_
    have hne : bC ≠ bB := hbB _ (.head _)
    repeat' (first | (refine isO ?_; first | refine oo (Pc rfl) ?_ | refine oo (Pa rfl (by omega) (by omega)) ?_ | (refine ob rfl ?_ ?_ <;> intro hq <;> try (exfalso; omega)) | refine oo (Pi rfl (by first | omega | (simp only [wr_length]; omega))) ?_ | refine oo (Pz rfl (by omega) (by omega)) ?_ | refine oo (Pl rfl) ?_ | refine oo (Px rfl rfl) ?_ | refine oo (Pj rfl (by omega) (by omega)) ?_ | refine oo (Pk rfl (by omega) (by omega)) ?_ | refine oo (Pf rfl) ?_ | refine oo (Pv rfl (by omega) (by omega)) ?_ | refine oo (Pn rfl) ?_ | refine oo (Ph rfl) ?_ | refine oo (Pg rfl (by omega) (by omega)) ?_ | refine oo (Pe rfl (by omega) (by omega)) ?_ | refine oo (Po rfl (by omega) (by omega)) ?_ | refine oo (Pm rfl) ?_ | refine os rfl rfl ?_ | refine ot rfl (by first | omega | (simp only [wr_length]; omega)) ?_ | refine O_nil ?_) | refine wu hstop rfl rfl ?_ | refine gu hstop rfl rfl ?_ | refine wc rfl ?_ | refine wg rfl ?_ | refine gc rfl ?_ | refine gg rfl ?_)
    clear hstop
    have hsp : Rs (⟨true, bB, 0, ints .i64 (List.replicate k 0)⟩ :: ⟨true, bC, 0, ints .i64 (List.replicate k 0)⟩ :: ⟨own, bT, oT, ints .i64 (T.map Nat.cast)⟩ :: ⟨true, bS, oS, ints .i64 X⟩ :: F) (⟨own, bT, oT, ints .i64 (T.map Nat.cast)⟩ :: ⟨true, bS, oS, ints .i64 (X.take T.length)⟩ :: ⟨true, bC, 0, ints .i64 (List.replicate k 0)⟩ :: ⟨true, bB, 0, ints .i64 (List.replicate k 0)⟩ :: ⟨true, bS, oS + T.length, ints .i64 (X.drop T.length)⟩ :: F) :=
      .trans (.of (L := ⟨true, bS, oS, ints .i64 X⟩ :: ⟨own, bT, oT, ints .i64 (T.map Nat.cast)⟩ :: ⟨true, bC, 0, ints .i64 (List.replicate k 0)⟩ :: ⟨true, bB, 0, ints .i64 (List.replicate k 0)⟩ :: F) (.cons (.tail (.tail (.tail .head))) (.cons (.tail (.tail .head)) (.cons (.tail .head) .rfl))))
        (.trans (Rs.split (o2 := oS + T.length) (xs := ints .i64 (X.take T.length)) (ys := ints .i64 (X.drop T.length)) (by rw [← ints_append, List.take_append_drop]) (by rw [ints_length, List.length_take]; omega))
          (.of (.cons (.tail (.tail .head)) (.cons .head (.cons (.tail .head) (.cons (.tail .head) .rfl))))))
    refine W_re hsp ?_
    refine W_join1 (fun E' M' => ∃ (fl : Int) (dm : Nat), Fl fl true ∧ FlD fl dm ∧ (dm ≠ 2) ∧ Sub E' [(0, .slice (some ⟨bT, oT, none⟩) lT cT), (1, .slice (some ⟨bS, oS, none⟩) lS cS), (2, .int .i64 (fs : Nat)), (3, .int .i64 T.length), (4, .int .i64 k), (10, .slice (some ⟨bC, 0, none⟩) k k), (11, .slice (some ⟨bB, 0, none⟩) k k), (14, .int .i64 0), (25, .int .u64 fl)] ∧
      Rk M' (⟨own, bT, oT, ints .i64 (T.map Nat.cast)⟩ :: ⟨true, bS, oS, ints .i64 (X.take T.length)⟩ :: ⟨true, bC, 0, ints .i64 (List.replicate k 0)⟩ :: ⟨true, bB, 0, ints .i64 (List.replicate k 0)⟩ :: ⟨true, bS, oS + T.length, ints .i64 (X.drop T.length)⟩ :: F)) ?_ ?_
    · repeat' (first | (refine isO ?_; first | refine oo (Pc rfl) ?_ | refine oo (Pa rfl (by omega) (by omega)) ?_ | (refine ob rfl ?_ ?_ <;> intro hq <;> try (exfalso; omega)) | refine oo (Pi rfl (by first | omega | (simp only [wr_length]; omega))) ?_ | refine oo (Pz rfl (by omega) (by omega)) ?_ | refine oo (Pl rfl) ?_ | refine oo (Px rfl rfl) ?_ | refine oo (Pj rfl (by omega) (by omega)) ?_ | refine oo (Pk rfl (by omega) (by omega)) ?_ | refine oo (Pf rfl) ?_ | refine oo (Pv rfl (by omega) (by omega)) ?_ | refine oo (Pn rfl) ?_ | refine oo (Ph rfl) ?_ | refine oo (Pg rfl (by omega) (by omega)) ?_ | refine oo (Pe rfl (by omega) (by omega)) ?_ | refine oo (Po rfl (by omega) (by omega)) ?_ | refine oo (Pm rfl) ?_ | refine os rfl rfl ?_ | refine ot rfl (by first | omega | (simp only [wr_length]; omega)) ?_ | refine O_nil ?_) | refine wo rfl ?_ | refine wc rfl ?_ | refine wg rfl ?_ | refine go rfl ?_ | refine gc rfl ?_ | refine gg rfl ?_)
      refine O_pure (P_quo rfl rfl (by omega) (by omega) (inK_i64 (by omega) (by omega))) ⟨_, rfl, rfl⟩ rfl ?_
      rcases hQ with h2 | h2
      · repeat' (first | (refine isO ?_; first | refine oo (Pc rfl) ?_ | refine oo (Pa rfl (by omega) (by omega)) ?_ | (refine ob rfl ?_ ?_ <;> intro hq <;> try (exfalso; omega)) | refine oo (Pi rfl (by first | omega | (simp only [wr_length]; omega))) ?_ | refine oo (Pz rfl (by omega) (by omega)) ?_ | refine oo (Pl rfl) ?_ | refine oo (Px rfl rfl) ?_ | refine oo (Pj rfl (by omega) (by omega)) ?_ | refine oo (Pk rfl (by omega) (by omega)) ?_ | refine oo (Pf rfl) ?_ | refine oo (Pv rfl (by omega) (by omega)) ?_ | refine oo (Pn rfl) ?_ | refine oo (Ph rfl) ?_ | refine oo (Pg rfl (by omega) (by omega)) ?_ | refine oo (Pe rfl (by omega) (by omega)) ?_ | refine oo (Po rfl (by omega) (by omega)) ?_ | refine oo (Pm rfl) ?_ | refine os rfl rfl ?_ | refine ot rfl (by first | omega | (simp only [wr_length]; omega)) ?_ | refine O_nil ?_) | refine wo rfl ?_ | refine wc rfl ?_ | refine wg rfl ?_ | refine go rfl ?_ | refine gc rfl ?_ | refine gg rfl ?_)
        refine oo (Pfl (r := 1) rfl (by decide)) ?_
        repeat' (first | (refine isO ?_; first | refine oo (Pc rfl) ?_ | refine oo (Pa rfl (by omega) (by omega)) ?_ | (refine ob rfl ?_ ?_ <;> intro hq <;> try (exfalso; omega)) | refine oo (Pi rfl (by first | omega | (simp only [wr_length]; omega))) ?_ | refine oo (Pz rfl (by omega) (by omega)) ?_ | refine oo (Pl rfl) ?_ | refine oo (Px rfl rfl) ?_ | refine oo (Pj rfl (by omega) (by omega)) ?_ | refine oo (Pk rfl (by omega) (by omega)) ?_ | refine oo (Pf rfl) ?_ | refine oo (Pv rfl (by omega) (by omega)) ?_ | refine oo (Pn rfl) ?_ | refine oo (Ph rfl) ?_ | refine oo (Pg rfl (by omega) (by omega)) ?_ | refine oo (Pe rfl (by omega) (by omega)) ?_ | refine oo (Po rfl (by omega) (by omega)) ?_ | refine oo (Pm rfl) ?_ | refine os rfl rfl ?_ | refine ot rfl (by first | omega | (simp only [wr_length]; omega)) ?_ | refine O_nil ?_) | refine wo rfl ?_ | refine wc rfl ?_ | refine wg rfl ?_ | refine go rfl ?_ | refine gc rfl ?_ | refine gg rfl ?_)
        refine oo (Pfo (r := 19) rfl (by decide)) ?_
        repeat' (first | (refine isO ?_; first | refine oo (Pc rfl) ?_ | refine oo (Pa rfl (by omega) (by omega)) ?_ | (refine ob rfl ?_ ?_ <;> intro hq <;> try (exfalso; omega)) | refine oo (Pi rfl (by first | omega | (simp only [wr_length]; omega))) ?_ | refine oo (Pz rfl (by omega) (by omega)) ?_ | refine oo (Pl rfl) ?_ | refine oo (Px rfl rfl) ?_ | refine oo (Pj rfl (by omega) (by omega)) ?_ | refine oo (Pk rfl (by omega) (by omega)) ?_ | refine oo (Pf rfl) ?_ | refine oo (Pv rfl (by omega) (by omega)) ?_ | refine oo (Pn rfl) ?_ | refine oo (Ph rfl) ?_ | refine oo (Pg rfl (by omega) (by omega)) ?_ | refine oo (Pe rfl (by omega) (by omega)) ?_ | refine oo (Po rfl (by omega) (by omega)) ?_ | refine oo (Pm rfl) ?_ | refine os rfl rfl ?_ | refine ot rfl (by first | omega | (simp only [wr_length]; omega)) ?_ | refine O_nil ?_) | refine wo rfl ?_ | refine wc rfl ?_ | refine wg rfl ?_ | refine go rfl ?_ | refine gc rfl ?_ | refine gg rfl ?_)
        exact G_stop ⟨19, 1, fl19, fd19, by decide, by (repeat (first | exact trivial | refine ⟨rfl, ?_⟩)), .rfl⟩
      · repeat' (first | (refine isO ?_; first | refine oo (Pc rfl) ?_ | refine oo (Pa rfl (by omega) (by omega)) ?_ | (refine ob rfl ?_ ?_ <;> intro hq <;> try (exfalso; omega)) | refine oo (Pi rfl (by first | omega | (simp only [wr_length]; omega))) ?_ | refine oo (Pz rfl (by omega) (by omega)) ?_ | refine oo (Pl rfl) ?_ | refine oo (Px rfl rfl) ?_ | refine oo (Pj rfl (by omega) (by omega)) ?_ | refine oo (Pk rfl (by omega) (by omega)) ?_ | refine oo (Pf rfl) ?_ | refine oo (Pv rfl (by omega) (by omega)) ?_ | refine oo (Pn rfl) ?_ | refine oo (Ph rfl) ?_ | refine oo (Pg rfl (by omega) (by omega)) ?_ | refine oo (Pe rfl (by omega) (by omega)) ?_ | refine oo (Po rfl (by omega) (by omega)) ?_ | refine oo (Pm rfl) ?_ | refine os rfl rfl ?_ | refine ot rfl (by first | omega | (simp only [wr_length]; omega)) ?_ | refine O_nil ?_) | refine wo rfl ?_ | refine wc rfl ?_ | refine wg rfl ?_ | refine go rfl ?_ | refine gc rfl ?_ | refine gg rfl ?_)
        exact G_stop ⟨3, 0, fl3, fd3, by decide, by (repeat (first | exact trivial | refine ⟨rfl, ?_⟩)), .rfl⟩
    rintro E' M' ⟨fl, dm, hfl, hfd, hdm, hsub, hrk⟩
    refine G_code (W_weak hsub hrk ?_)
    exact partB T k hT hk5 fs hN fl true hfl dm hfd _ _ _ _ (by rw [List.length_take]; omega) List.length_replicate List.length_replicate fs (by rw [List.length_drop]; omega) _
      own bT oT lT cT bS oS lS cS bB 0 k k bC ⟨fun _ => rfl, fun h => absurd h (by decide), Nat.le_refl _⟩ (fun h => absurd h hdm) F hlT hlS hcS hne hneS hF hrec (Nat.le_refl _)
end Go.Proofs.Ytcibehgcibojnaa.Saii

namespace Go.Proofs.Ytcibehgcibojnaa.Sai
open Go Go.RowKit Go.Proofs.Ytcibehgcibojnaa.Vm Go.Proofs.Ytcibehgcibojnaa.Sais
theorem rec_all (n : Nat) : Rec n := Nat.strongRecOn n (motive := fun n => Rec n) fun n ih => by
  intro T k fs n' X own bT oT lT cT bS oS lS cS F hTl hn hT hk hX hN hlT hlS hcS hF
  exact Saii.csa_c T k hT hk fs n' hTl X hX hN own bT oT lT cT bS oS lS cS F hlT hlS hcS hF (ih T.length (by omega))
theorem sa_byte (T : List Nat) (hT : Txt T 256) (hN : T.length ≤ 1000) (X : List Int) (hX : X.length = T.length) (own : Bool) (bT oT lT cT bS oS lS cS : Nat) (F : Mem) (hlT : T.length ≤ lT) (hlS : T.length ≤ lS) (hcS : lS ≤ cS) (hF : Ne F) :
    HC Try.prog 12 #[.slice (some ⟨bT, oT, none⟩) lT cT, .slice (some ⟨bS, oS, none⟩) lS cS, .int .i64 0, .int .i64 T.length, .int .i64 256]
      (⟨own, bT, oT, ints .u8 (T.map Nat.cast)⟩ :: ⟨true, bS, oS, ints .i64 X⟩ :: F)
      (fun v M' => v = .tuple #[] ∧ ∃ X' : List Int, X'.length = T.length ∧ SufA T X' ∧ Rk M' (⟨own, bT, oT, ints .u8 (T.map Nat.cast)⟩ :: ⟨true, bS, oS, ints .i64 X'⟩ :: F)) :=
  Saib.csa_c T 256 hT (by decide) 0 T.length rfl X (by omega) (by omega) own bT oT lT cT bS oS lS cS F hlT (by omega) hcS hF (rec_all _)
end Go.Proofs.Ytcibehgcibojnaa.Sai

namespace Go.Proofs.Ytcibehgcibojnaa.Sf
open Go Go.RowKit Go.Proofs.Ytcibehgcibojnaa.Vm
theorem catch_idle (p : Addr) (w : World) (hc : ∃ v, w.cell? p = some v) (hz : w.frozen? p = false) :
    CallsD Try.prog 11 #[.pointer (some p)] .returning w fun e u' w' => e = .returned (.tuple #[]) ∧ u' = .returning ∧ w' = w.setCell p (.bool true) := by
  obtain ⟨v, hc⟩ := hc
  refine callsD_of_wpS Try.func11 rfl fun c₀ cs hu => ?_
  apply wpS_region
  simp [wpOpsS, go_sem, recoverD, hu, Try.ntmps11, hc, hz]
  cases c₀
  simp_all [bodyPostS, results, Try.results11]
end Go.Proofs.Ytcibehgcibojnaa.Sf

namespace Go.Proofs.Ytcibehgcibojnaa.Sf
open Go Go.RowKit Go.Proofs.Ytcibehgcibojnaa.Vm
theorem catch_pan (p : Addr) (t : TypeId) (x : Value) (w : World) (hc : ∃ v, w.cell? p = some v) (hz : w.frozen? p = false) :
    CallsD Try.prog 11 #[.pointer (some p)] (.panicking [{ v := .iface t x, recovered := false }]) w fun e u' w' => e = .returned (.tuple #[]) ∧ u' = .panicking [{ v := .iface t x, recovered := true }] ∧ w' = w.setCell p (.bool false) := by
  obtain ⟨v, hc⟩ := hc
  refine callsD_of_wpS Try.func11 rfl fun c₀ cs hu => ?_
  apply wpS_region
  simp [wpOpsS, go_sem, recoverD, hu, Try.ntmps11, hc, hz]
  cases c₀
  simp_all [bodyPostS, results, Try.results11]
theorem safe_x {f : FuncId} {first captured : Array Value} {M : Mem} {R X : Mem → Prop} (hf : Callable Try.prog f)
    (h : ∀ b, HX Try.prog f (first ++ captured) (⟨true, b, 0, [.bool false]⟩ :: M) (fun _ M' => ∃ M1, Rk M' (⟨true, b, 0, [.bool false]⟩ :: M1) ∧ R M1) (fun M' => ∃ M1, Rk M' (⟨true, b, 0, [.bool false]⟩ :: M1) ∧ X M1)) :
    HC Try.prog 8 #[.func (.func f) first captured] M (fun v M' => (v = .bool true ∧ R M') ∨ (v = .bool false ∧ X M')) := by
  constructor
  intro base w0 w hS
  have hmf : ∀ (fn : Fn) (first cap : Array Value) (w : World), (Instr.makeFunc fn first cap).run Try.prog w = .ok (.func fn first cap) w := fun _ _ _ _ => rfl
  have hcf : ∀ (w : World) (args : Array Value), (callFunc f args).run Try.prog w = .ok (.enter f args) w := fun w args => run_callFunc hf
  have hS1 := hS.alloc #[.bool false] 4
  have hc := (h w.heap.size).out base w0 _ hS1
  go_enter_defers Try.func8, Try.ntmps8
  go_wp2_with fail
  refine hc.mono ?_
  rintro e w' (⟨v, M', rfl, hS', M1, hrk, hR⟩ | ⟨t, x, M', rfl, hS', M1, hrk, hX⟩)
  · have hSr := hS'.rk hrk
    have hcell : w'.cell? ⟨w.heap.size, 0, none⟩ = some (.bool false) := (hSr.seg _ (.head _)).cell (i := 0) rfl
    have hfree : w'.frozen? ⟨w.heap.size, 0, none⟩ = false := (hSr.seg _ (.head _)).free rfl (i := 0) (by simp)
    have hS2 : Sim false base w0 (w'.setCell ⟨w.heap.size, 0, none⟩ (.bool true)) (⟨true, w.heap.size, 0, [.bool true]⟩ :: M1) := hSr.set (s := ⟨true, w.heap.size, 0, [.bool false]⟩) (i := 0) rfl (by simp) .head
    have hc2 : (w'.setCell ⟨w.heap.size, 0, none⟩ (.bool true)).cell? ⟨w.heap.size, 0, none⟩ = some (.bool true) := (hS2.seg _ (.head _)).cell (i := 0) rfl
    have hf2 : (w'.setCell ⟨w.heap.size, 0, none⟩ (.bool true)).frozen? ⟨w.heap.size, 0, none⟩ = false := (hS2.seg _ (.head _)).free rfl (i := 0) (by simp)
    have hS3 : Sim false base w0 ((w'.setCell ⟨w.heap.size, 0, none⟩ (.bool true)).setCell ⟨w.heap.size, 0, none⟩ (.bool true)) (⟨true, w.heap.size, 0, [.bool true]⟩ :: M1) := hS2.set (s := ⟨true, w.heap.size, 0, [.bool true]⟩) (i := 0) rfl (by simp) .head
    have hS4 : Sim false base w0 _ M1 := hS3.drop
    have hc4 : ((w'.setCell ⟨w.heap.size, 0, none⟩ (.bool true)).setCell ⟨w.heap.size, 0, none⟩ (.bool true)).cell? ⟨w.heap.size, 0, none⟩ = some (.bool true) := (hS3.seg _ (.head _)).cell (i := 0) rfl
    clear hS' hS1 hS2 hS3 hSr hS hc h hmf
    go_wp2
    refine leaves_cons (f := 11) (args := #[.pointer (some ⟨w.heap.size, 0, none⟩)]) (by simp) (by simp [go_sem]) ?_
    refine (catch_idle ⟨w.heap.size, 0, none⟩ _ ⟨_, hc2⟩ hf2).mono ?_
    rintro e u' w'' ⟨rfl, rfl, rfl⟩
    refine ⟨.bool true, ?_, .bool true, M1, rfl, hS4, .inl ⟨rfl, hR⟩⟩
    simp [results, Try.results8, go_sem, hc4]
  · have hSr := hS'.rk hrk
    have hcell : w'.cell? ⟨w.heap.size, 0, none⟩ = some (.bool false) := (hSr.seg _ (.head _)).cell (i := 0) rfl
    have hfree : w'.frozen? ⟨w.heap.size, 0, none⟩ = false := (hSr.seg _ (.head _)).free rfl (i := 0) (by simp)
    have hS2 : Sim false base w0 (w'.setCell ⟨w.heap.size, 0, none⟩ (.bool false)) (⟨true, w.heap.size, 0, [.bool false]⟩ :: M1) := hSr.set (s := ⟨true, w.heap.size, 0, [.bool false]⟩) (i := 0) rfl (by simp) .head
    have hS4 : Sim false base w0 _ M1 := hS2.drop
    have hc4 : (w'.setCell ⟨w.heap.size, 0, none⟩ (.bool false)).cell? ⟨w.heap.size, 0, none⟩ = some (.bool false) := (hS2.seg _ (.head _)).cell (i := 0) rfl
    clear hS' hS1 hS2 hSr hS hc h hmf
    go_wp2
    refine leaves_cons (f := 11) (args := #[.pointer (some ⟨w.heap.size, 0, none⟩)]) (by simp) (by simp [go_sem]) ?_
    refine (catch_pan ⟨w.heap.size, 0, none⟩ t x _ ⟨_, hcell⟩ hfree).mono ?_
    rintro e u' w'' ⟨rfl, rfl, rfl⟩
    refine ⟨.bool false, ?_, .bool false, M1, rfl, hS4, .inr ⟨rfl, hX⟩⟩
    simp [results, Try.results8, go_sem, hc4]
end Go.Proofs.Ytcibehgcibojnaa.Sf
