/- laws.FnWritten, walked: it is true, for any parts and bytes. laws.FnWriteTry, walked: it is true, for any parts and bytes. Handed bytes, as the engine has them. No condition. Handed parts, as the engine has them. No condition. -/
import Derived.Test.YtjkpfliaflmppaaW11x31
import Derived.Test.YtjkpfliaflmppaaW11x26
import Derived.Test.YtjkpfliaflmppaaW11x20
import Derived.Test.YtjkpfliaflmppaaW11x16
import Derived.Test.YtjkpfliaflmppaaW11x25
import Derived.Test.YtjkpfliaflmppaaW11x17
import Derived.Test.YtjkpfliaflmppaaRows
import Derived.WalkKit
import Derived.ProofKit
import Derived.OpenShut
import Derived.Carry
import Derived.JoinedCond
import Derived.Test.YtjkpfliaflmppaaW11x22

namespace Go.Proofs.Ytjkpfliaflmppaa.Pc
open Go Go.RowKit Go.Proofs.Ytjkpfliaflmppaa.Vm Go.Proofs.Ytjkpfliaflmppaa.Sf

theorem u9 : Und Try.prog 9 .string := ⟨Try.underlying9⟩
set_option maxHeartbeats 2000000 in
open Classical in
theorem law4_c (s0 s1 s2 : Value) (l : List Pt) (ls xs : List Nat) (big : Bool) (M : Mem) (hs : Ps s0 l M) (hmax : ∀ i, i < l.length → (l.getD i Pt.zero).s.length ≤ 9223372036854775807) (h1 : Bs s1 ls M) (h2 : Bs s2 xs M) :
    HC Try.prog 4 #[s0, s1, s2, .bool big] M (fun r M' => r = .bool true ∧ Rk M' M) := by
  obtain ⟨a0, c0, e⟩ : ∃ a c, s0 = .slice a l.length c := ⟨_, _, hs.1.choose_spec.choose_spec.1⟩
  subst e
  obtain ⟨a1, c1, e⟩ : ∃ a c, s1 = .slice a ls.length c := ⟨_, _, h1.2.choose_spec.choose_spec.1⟩
  subst e
  obtain ⟨a2, c2, e⟩ : ∃ a c, s2 = .slice a xs.length c := ⟨_, _, h2.2.choose_spec.choose_spec.1⟩
  subst e
  refine HC_of_W (fn := Try.f4) Try.func4 rfl rfl rfl rfl ?_
  repeat' (first | (refine isO ?_; first | refine oo (Pc rfl) ?_ | refine oo (Pa rfl (by omega) (by omega)) ?_ | (refine ob rfl ?_ ?_ <;> intro hq <;> try (exfalso; omega)) | refine oo (Pi rfl (by omega)) ?_ | refine oo (Pl rfl) ?_ | refine oo (Px rfl rfl) ?_ | refine oo (Pj rfl (by omega) (by omega)) ?_ | refine oo (Pk rfl (by omega) (by omega)) ?_ | refine oo (Pf rfl) ?_ | refine oo (Pv rfl (by omega) (by omega)) ?_ | refine oo (Pn rfl) ?_ | refine oo (Pm rfl) ?_ | refine os rfl rfl ?_ | refine ot rfl (by omega) ?_ | refine O_nil ?_) | refine wo rfl ?_ | refine wc rfl ?_ | refine wg rfl ?_ | refine go rfl ?_ | refine gc rfl ?_ | refine gg rfl ?_)
  refine O_call rfl rfl Tb.k18 trivial rfl (fits18_c _ l M hs hmax) ?_
  rintro _ M' ⟨rfl, hrk⟩
  refine O_weak hrk ?_
  clear hrk
  by_cases hfit : FitsP l
  · rw [decide_eq_true hfit]
    repeat' (first | (refine isO ?_; first | refine oo (Pc rfl) ?_ | refine oo (Pa rfl (by omega) (by omega)) ?_ | (refine ob rfl ?_ ?_ <;> intro hq <;> try (exfalso; omega)) | refine oo (Pi rfl (by omega)) ?_ | refine oo (Pl rfl) ?_ | refine oo (Px rfl rfl) ?_ | refine oo (Pj rfl (by omega) (by omega)) ?_ | refine oo (Pk rfl (by omega) (by omega)) ?_ | refine oo (Pf rfl) ?_ | refine oo (Pv rfl (by omega) (by omega)) ?_ | refine oo (Pn rfl) ?_ | refine oo (Pm rfl) ?_ | refine os rfl rfl ?_ | refine ot rfl (by omega) ?_ | refine O_nil ?_) | refine wo rfl ?_ | refine wc rfl ?_ | refine wg rfl ?_ | refine go rfl ?_ | refine gc rfl ?_ | refine gg rfl ?_)
    · exact G_fin ⟨_, rfl, rfl, .rfl⟩
    · exact G_fin ⟨_, rfl, rfl, .rfl⟩
    refine O_call rfl rfl Tb.k19 trivial rfl (given_c _ _ ls xs M h1 h2) ?_
    rintro v M' (⟨hok, b, c, sp, sv, m, rfl, hown, hrk⟩ | ⟨hno, rfl, hrk⟩)
    · refine O_weak hrk ?_
      clear hrk
      obtain ⟨hN, hlen, hget⟩ := canon_numbered ls hok.1
      have hV : ∀ i, i < (canon (linedL 0 [] ls)).length → ((canon (linedL 0 [] ls)).getD i Cd.zero).val < 2 ^ ((canon (linedL 0 [] ls)).getD i Cd.zero).len := by
        intro i hi
        rw [hlen] at hi
        rw [(hget i hi).1]
        exact (hget i hi).2
      generalize canon (linedL 0 [] ls) = cs at *
      have hr : Rs sv (mkR 0 xs) (m ++ M) := (Rs.of_own hown).mono fun x hx => List.mem_append_left _ hx
      have hsm : Ps (.slice a0 l.length c0) l (m ++ M) := hs.mono fun x hx => List.mem_append_right _ hx
      rw [← hlen]
      repeat' (first | (refine isO ?_; first | refine oo (Pc rfl) ?_ | refine oo (Pa rfl (by omega) (by omega)) ?_ | (refine ob rfl ?_ ?_ <;> intro hq <;> try (exfalso; omega)) | refine oo (Pi rfl (by omega)) ?_ | refine oo (Pl rfl) ?_ | refine oo (Px rfl rfl) ?_ | refine oo (Pj rfl (by omega) (by omega)) ?_ | refine oo (Pk rfl (by omega) (by omega)) ?_ | refine oo (Pf rfl) ?_ | refine oo (Pv rfl (by omega) (by omega)) ?_ | refine oo (Pn rfl) ?_ | refine oo (Pm rfl) ?_ | refine os rfl rfl ?_ | refine ot rfl (by omega) ?_ | refine O_nil ?_) | refine wo rfl ?_ | refine wc rfl ?_ | refine wg rfl ?_ | refine go rfl ?_ | refine gc rfl ?_ | refine gg rfl ?_)
      refine O_call rfl rfl Tb.k20 ?_ rfl (light20_c _ l _ (hsm.mono fun x hx => .tail _ hx) hfit) ?_
      · first | exact trivial | exact ⟨_, rfl, rfl⟩
      rintro _ M' ⟨rfl, hrk⟩
      refine O_weak hrk ?_
      clear hrk
      by_cases hL : LightP l
      · rw [decide_eq_true hL]
        repeat' (first | (refine isO ?_; first | refine oo (Pc rfl) ?_ | refine oo (Pa rfl (by omega) (by omega)) ?_ | (refine ob rfl ?_ ?_ <;> intro hq <;> try (exfalso; omega)) | refine oo (Pi rfl (by omega)) ?_ | refine oo (Pl rfl) ?_ | refine oo (Px rfl rfl) ?_ | refine oo (Pj rfl (by omega) (by omega)) ?_ | refine oo (Pk rfl (by omega) (by omega)) ?_ | refine oo (Pf rfl) ?_ | refine oo (Pv rfl (by omega) (by omega)) ?_ | refine oo (Pn rfl) ?_ | refine oo (Pm rfl) ?_ | refine os rfl rfl ?_ | refine ot rfl (by omega) ?_ | refine O_nil ?_) | refine wo rfl ?_ | refine wc rfl ?_ | refine wg rfl ?_ | refine go rfl ?_ | refine gc rfl ?_ | refine gg rfl ?_)
        refine O_call rfl rfl Tb.k21 trivial rfl (writeAll21_c l cs xs big _ sv b c true sp _ (hsm.mono fun x hx => .tail _ hx) hL hN (.head _) (hr.mono fun x hx => .tail _ hx) hok.2.2) ?_
        rintro _ M' (⟨bits, b9, hall, hbits, rfl, hrk⟩ | ⟨hno, rfl, hrk⟩)
        · refine O_weak hrk ?_
          clear hrk
          repeat' (first | (refine isO ?_; first | refine oo (Pc rfl) ?_ | refine oo (Pa rfl (by omega) (by omega)) ?_ | (refine ob rfl ?_ ?_ <;> intro hq <;> try (exfalso; omega)) | refine oo (Pi rfl (by omega)) ?_ | refine oo (Pl rfl) ?_ | refine oo (Px rfl rfl) ?_ | refine oo (Pj rfl (by omega) (by omega)) ?_ | refine oo (Pk rfl (by omega) (by omega)) ?_ | refine oo (Pf rfl) ?_ | refine oo (Pv rfl (by omega) (by omega)) ?_ | refine oo (Pn rfl) ?_ | refine oo (Pm rfl) ?_ | refine os rfl rfl ?_ | refine ot rfl (by omega) ?_ | refine O_nil ?_) | refine wo rfl ?_ | refine wc rfl ?_ | refine wg rfl ?_ | refine go rfl ?_ | refine gc rfl ?_ | refine gg rfl ?_)
          refine O_call rfl rfl Tb.k22 trivial rfl (HCp.take (.perm (.swap _ _ _)) (writeAll22_c l cs xs big _ sv b c true sp (⟨true, b9, 0, ib (pkL big bits ((bits.length + 7) / 8) bits.length)⟩ :: (m ++ M)) (hsm.mono fun x hx => .tail _ hx) hL hN hV (hr.mono fun x hx => .tail _ hx) hok.2.2 bits hall hbits)) ?_
          rintro _ M' ⟨b10, c10, sp10, rfl, hrk⟩
          refine O_weak hrk ?_
          clear hrk
          have hpl := pkL_length big bits ((bits.length + 7) / 8) bits.length
          generalize (bits.length + 7) / 8 = L at *
          repeat' (first | (refine isO ?_; first | refine oo (Pc rfl) ?_ | refine oo (Pa rfl (by omega) (by omega)) ?_ | (refine ob rfl ?_ ?_ <;> intro hq <;> try (exfalso; omega)) | refine oo (Pi rfl (by omega)) ?_ | refine oo (Pl rfl) ?_ | refine oo (Px rfl rfl) ?_ | refine oo (Pj rfl (by omega) (by omega)) ?_ | refine oo (Pk rfl (by omega) (by omega)) ?_ | refine oo (Pf rfl) ?_ | refine oo (Pv rfl (by omega) (by omega)) ?_ | refine oo (Pn rfl) ?_ | refine oo (Pm rfl) ?_ | refine os rfl rfl ?_ | refine ot rfl (by omega) ?_ | refine O_nil ?_) | refine wo rfl ?_ | refine wc rfl ?_ | refine wg rfl ?_ | refine go rfl ?_ | refine gc rfl ?_ | refine gg rfl ?_)
          (refine O_call rfl rfl Tb.k13 trivial rfl (awake_c _) ?_; rintro v M' ⟨rfl, hrk⟩; refine O_weak hrk ?_; clear hrk; (repeat' (first | (refine isO ?_; first | refine oo (Pc rfl) ?_ | refine oo (Pa rfl (by omega) (by omega)) ?_ | (refine ob rfl ?_ ?_ <;> intro hq <;> try (exfalso; omega)) | refine oo (Pi rfl (by omega)) ?_ | refine oo (Pl rfl) ?_ | refine oo (Px rfl rfl) ?_ | refine oo (Pj rfl (by omega) (by omega)) ?_ | refine oo (Pk rfl (by omega) (by omega)) ?_ | refine oo (Pf rfl) ?_ | refine oo (Pv rfl (by omega) (by omega)) ?_ | refine oo (Pn rfl) ?_ | refine oo (Pm rfl) ?_ | refine os rfl rfl ?_ | refine ot rfl (by omega) ?_ | refine O_nil ?_) | refine wo rfl ?_ | refine wc rfl ?_ | refine wg rfl ?_ | refine go rfl ?_ | refine gc rfl ?_ | refine gg rfl ?_)))
          refine O_pure (P_toStr Tb.u22 Tb.u5 u9 rfl (.head _) (ys := (pkL big bits L bits.length).map Nat.cast) (List.take_left' (by rw [ib_length, hpl])) (by rw [List.length_append, ib_length, hpl]; omega)) (by first | exact trivial | exact ⟨_, rfl, rfl⟩) rfl ?_
          repeat' (first | (refine isO ?_; first | refine oo (Pc rfl) ?_ | refine oo (Pa rfl (by omega) (by omega)) ?_ | (refine ob rfl ?_ ?_ <;> intro hq <;> try (exfalso; omega)) | refine oo (Pi rfl (by omega)) ?_ | refine oo (Pl rfl) ?_ | refine oo (Px rfl rfl) ?_ | refine oo (Pj rfl (by omega) (by omega)) ?_ | refine oo (Pk rfl (by omega) (by omega)) ?_ | refine oo (Pf rfl) ?_ | refine oo (Pv rfl (by omega) (by omega)) ?_ | refine oo (Pn rfl) ?_ | refine oo (Pm rfl) ?_ | refine os rfl rfl ?_ | refine ot rfl (by omega) ?_ | refine O_nil ?_) | refine wo rfl ?_ | refine wc rfl ?_ | refine wg rfl ?_ | refine go rfl ?_ | refine gc rfl ?_ | refine gg rfl ?_)
          refine O_pure (P_toStr Tb.u22 Tb.u5 u9 rfl (.tail _ (.head _)) (ys := (pkL big bits L bits.length).map Nat.cast) (List.take_of_length_le (by rw [ib_length, hpl]; omega)) (by rw [ib_length, hpl]; omega)) (by first | exact trivial | exact ⟨_, rfl, rfl⟩) rfl ?_
          repeat' (first | (refine isO ?_; first | refine oo (Pc rfl) ?_ | refine oo (Pa rfl (by omega) (by omega)) ?_ | (refine ob rfl ?_ ?_ <;> intro hq <;> try (exfalso; omega)) | refine oo (Pi rfl (by omega)) ?_ | refine oo (Pl rfl) ?_ | refine oo (Px rfl rfl) ?_ | refine oo (Pj rfl (by omega) (by omega)) ?_ | refine oo (Pk rfl (by omega) (by omega)) ?_ | refine oo (Pf rfl) ?_ | refine oo (Pv rfl (by omega) (by omega)) ?_ | refine oo (Pn rfl) ?_ | refine oo (Pm rfl) ?_ | refine os rfl rfl ?_ | refine ot rfl (by omega) ?_ | refine O_nil ?_) | refine wo rfl ?_ | refine wc rfl ?_ | refine wg rfl ?_ | refine go rfl ?_ | refine gc rfl ?_ | refine gg rfl ?_)
          refine O_pure (P_eqStr u9 rfl rfl) (by first | exact trivial | exact ⟨_, rfl, rfl⟩) rfl ?_
          repeat' (first | (refine isO ?_; first | refine oo (Pc rfl) ?_ | refine oo (Pa rfl (by omega) (by omega)) ?_ | (refine ob rfl ?_ ?_ <;> intro hq <;> try (exfalso; omega)) | refine oo (Pi rfl (by omega)) ?_ | refine oo (Pl rfl) ?_ | refine oo (Px rfl rfl) ?_ | refine oo (Pj rfl (by omega) (by omega)) ?_ | refine oo (Pk rfl (by omega) (by omega)) ?_ | refine oo (Pf rfl) ?_ | refine oo (Pv rfl (by omega) (by omega)) ?_ | refine oo (Pn rfl) ?_ | refine oo (Pm rfl) ?_ | refine os rfl rfl ?_ | refine ot rfl (by omega) ?_ | refine O_nil ?_) | refine wo rfl ?_ | refine wc rfl ?_ | refine wg rfl ?_ | refine go rfl ?_ | refine gc rfl ?_ | refine gg rfl ?_)
          exact G_fin ⟨_, rfl, rfl, .drop (.drop (Rk.right m M))⟩
        · refine O_weak hrk ?_
          clear hrk
          repeat' (first | (refine isO ?_; first | refine oo (Pc rfl) ?_ | refine oo (Pa rfl (by omega) (by omega)) ?_ | (refine ob rfl ?_ ?_ <;> intro hq <;> try (exfalso; omega)) | refine oo (Pi rfl (by omega)) ?_ | refine oo (Pl rfl) ?_ | refine oo (Px rfl rfl) ?_ | refine oo (Pj rfl (by omega) (by omega)) ?_ | refine oo (Pk rfl (by omega) (by omega)) ?_ | refine oo (Pf rfl) ?_ | refine oo (Pv rfl (by omega) (by omega)) ?_ | refine oo (Pn rfl) ?_ | refine oo (Pm rfl) ?_ | refine os rfl rfl ?_ | refine ot rfl (by omega) ?_ | refine O_nil ?_) | refine wo rfl ?_ | refine wc rfl ?_ | refine wg rfl ?_ | refine go rfl ?_ | refine gc rfl ?_ | refine gg rfl ?_)
          (refine O_call rfl rfl Tb.k13 trivial rfl (awake_c _) ?_; rintro v M' ⟨rfl, hrk⟩; refine O_weak hrk ?_; clear hrk; (repeat' (first | (refine isO ?_; first | refine oo (Pc rfl) ?_ | refine oo (Pa rfl (by omega) (by omega)) ?_ | (refine ob rfl ?_ ?_ <;> intro hq <;> try (exfalso; omega)) | refine oo (Pi rfl (by omega)) ?_ | refine oo (Pl rfl) ?_ | refine oo (Px rfl rfl) ?_ | refine oo (Pj rfl (by omega) (by omega)) ?_ | refine oo (Pk rfl (by omega) (by omega)) ?_ | refine oo (Pf rfl) ?_ | refine oo (Pv rfl (by omega) (by omega)) ?_ | refine oo (Pn rfl) ?_ | refine oo (Pm rfl) ?_ | refine os rfl rfl ?_ | refine ot rfl (by omega) ?_ | refine O_nil ?_) | refine wo rfl ?_ | refine wc rfl ?_ | refine wg rfl ?_ | refine go rfl ?_ | refine gc rfl ?_ | refine gg rfl ?_)))
          exact G_fin ⟨_, rfl, rfl, .drop (Rk.right m M)⟩
      · rw [decide_eq_false hL]
        repeat' (first | (refine isO ?_; first | refine oo (Pc rfl) ?_ | refine oo (Pa rfl (by omega) (by omega)) ?_ | (refine ob rfl ?_ ?_ <;> intro hq <;> try (exfalso; omega)) | refine oo (Pi rfl (by omega)) ?_ | refine oo (Pl rfl) ?_ | refine oo (Px rfl rfl) ?_ | refine oo (Pj rfl (by omega) (by omega)) ?_ | refine oo (Pk rfl (by omega) (by omega)) ?_ | refine oo (Pf rfl) ?_ | refine oo (Pv rfl (by omega) (by omega)) ?_ | refine oo (Pn rfl) ?_ | refine oo (Pm rfl) ?_ | refine os rfl rfl ?_ | refine ot rfl (by omega) ?_ | refine O_nil ?_) | refine wo rfl ?_ | refine wc rfl ?_ | refine wg rfl ?_ | refine go rfl ?_ | refine gc rfl ?_ | refine gg rfl ?_)
        (refine O_call rfl rfl Tb.k13 trivial rfl (awake_c _) ?_; rintro v M' ⟨rfl, hrk⟩; refine O_weak hrk ?_; clear hrk; (repeat' (first | (refine isO ?_; first | refine oo (Pc rfl) ?_ | refine oo (Pa rfl (by omega) (by omega)) ?_ | (refine ob rfl ?_ ?_ <;> intro hq <;> try (exfalso; omega)) | refine oo (Pi rfl (by omega)) ?_ | refine oo (Pl rfl) ?_ | refine oo (Px rfl rfl) ?_ | refine oo (Pj rfl (by omega) (by omega)) ?_ | refine oo (Pk rfl (by omega) (by omega)) ?_ | refine oo (Pf rfl) ?_ | refine oo (Pv rfl (by omega) (by omega)) ?_ | refine oo (Pn rfl) ?_ | refine oo (Pm rfl) ?_ | refine os rfl rfl ?_ | refine ot rfl (by omega) ?_ | refine O_nil ?_) | refine wo rfl ?_ | refine wc rfl ?_ | refine wg rfl ?_ | refine go rfl ?_ | refine gc rfl ?_ | refine gg rfl ?_)))
        exact G_fin ⟨_, rfl, rfl, .drop (Rk.right m M)⟩
    · refine O_weak hrk ?_
      clear hrk
      repeat' (first | (refine isO ?_; first | refine oo (Pc rfl) ?_ | refine oo (Pa rfl (by omega) (by omega)) ?_ | (refine ob rfl ?_ ?_ <;> intro hq <;> try (exfalso; omega)) | refine oo (Pi rfl (by omega)) ?_ | refine oo (Pl rfl) ?_ | refine oo (Px rfl rfl) ?_ | refine oo (Pj rfl (by omega) (by omega)) ?_ | refine oo (Pk rfl (by omega) (by omega)) ?_ | refine oo (Pf rfl) ?_ | refine oo (Pv rfl (by omega) (by omega)) ?_ | refine oo (Pn rfl) ?_ | refine oo (Pm rfl) ?_ | refine os rfl rfl ?_ | refine ot rfl (by omega) ?_ | refine O_nil ?_) | refine wo rfl ?_ | refine wc rfl ?_ | refine wg rfl ?_ | refine go rfl ?_ | refine gc rfl ?_ | refine gg rfl ?_)
      (refine O_call rfl rfl Tb.k13 trivial rfl (awake_c _) ?_; rintro v M' ⟨rfl, hrk⟩; refine O_weak hrk ?_; clear hrk; (repeat' (first | (refine isO ?_; first | refine oo (Pc rfl) ?_ | refine oo (Pa rfl (by omega) (by omega)) ?_ | (refine ob rfl ?_ ?_ <;> intro hq <;> try (exfalso; omega)) | refine oo (Pi rfl (by omega)) ?_ | refine oo (Pl rfl) ?_ | refine oo (Px rfl rfl) ?_ | refine oo (Pj rfl (by omega) (by omega)) ?_ | refine oo (Pk rfl (by omega) (by omega)) ?_ | refine oo (Pf rfl) ?_ | refine oo (Pv rfl (by omega) (by omega)) ?_ | refine oo (Pn rfl) ?_ | refine oo (Pm rfl) ?_ | refine os rfl rfl ?_ | refine ot rfl (by omega) ?_ | refine O_nil ?_) | refine wo rfl ?_ | refine wc rfl ?_ | refine wg rfl ?_ | refine go rfl ?_ | refine gc rfl ?_ | refine gg rfl ?_)))
      exact G_fin ⟨_, rfl, rfl, .rfl⟩
  · rw [decide_eq_false hfit]
    repeat' (first | (refine isO ?_; first | refine oo (Pc rfl) ?_ | refine oo (Pa rfl (by omega) (by omega)) ?_ | (refine ob rfl ?_ ?_ <;> intro hq <;> try (exfalso; omega)) | refine oo (Pi rfl (by omega)) ?_ | refine oo (Pl rfl) ?_ | refine oo (Px rfl rfl) ?_ | refine oo (Pj rfl (by omega) (by omega)) ?_ | refine oo (Pk rfl (by omega) (by omega)) ?_ | refine oo (Pf rfl) ?_ | refine oo (Pv rfl (by omega) (by omega)) ?_ | refine oo (Pn rfl) ?_ | refine oo (Pm rfl) ?_ | refine os rfl rfl ?_ | refine ot rfl (by omega) ?_ | refine O_nil ?_) | refine wo rfl ?_ | refine wc rfl ?_ | refine wg rfl ?_ | refine go rfl ?_ | refine gc rfl ?_ | refine gg rfl ?_)
    exact G_fin ⟨_, rfl, rfl, .rfl⟩
end Go.Proofs.Ytjkpfliaflmppaa.Pc

namespace Go.Proofs.Ytjkpfliaflmppaa.Pc
open Go Go.RowKit Go.Proofs.Ytjkpfliaflmppaa.Vm Go.Proofs.Ytjkpfliaflmppaa.Sf

set_option maxHeartbeats 2000000 in
open Classical in
theorem law11_c (s0 s1 s2 : Value) (fl : Nat) (hf8 : fl < 256) (l : List Pt) (ls xs : List Nat) (big : Bool) (M : Mem) (hs : Ps s0 l M) (hmax : ∀ i, i < l.length → (l.getD i Pt.zero).s.length ≤ 9223372036854775807) (h1 : Bs s1 ls M) (h2 : Bs s2 xs M) :
    HC Try.prog 11 #[s0, s1, s2, .bool big, .int .u8 fl] M (fun r M' => r = .bool true ∧ Rk M' M) := by
  obtain ⟨a0, c0, e⟩ : ∃ a c, s0 = .slice a l.length c := ⟨_, _, hs.1.choose_spec.choose_spec.1⟩
  subst e
  obtain ⟨a1, c1, e⟩ : ∃ a c, s1 = .slice a ls.length c := ⟨_, _, h1.2.choose_spec.choose_spec.1⟩
  subst e
  obtain ⟨a2, c2, e⟩ : ∃ a c, s2 = .slice a xs.length c := ⟨_, _, h2.2.choose_spec.choose_spec.1⟩
  subst e
  refine HC_of_W (fn := Try.f11) Try.func11 rfl rfl rfl rfl ?_
  repeat' (first | (refine isO ?_; first | refine oo (Pc rfl) ?_ | refine oo (Pa rfl (by omega) (by omega)) ?_ | (refine ob rfl ?_ ?_ <;> intro hq <;> try (exfalso; omega)) | refine oo (Pi rfl (by omega)) ?_ | refine oo (Pl rfl) ?_ | refine oo (Px rfl rfl) ?_ | refine oo (Pj rfl (by omega) (by omega)) ?_ | refine oo (Pk rfl (by omega) (by omega)) ?_ | refine oo (Pf rfl) ?_ | refine oo (Pv rfl (by omega) (by omega)) ?_ | refine oo (Pn rfl) ?_ | refine oo (Pm rfl) ?_ | refine os rfl rfl ?_ | refine ot rfl (by omega) ?_ | refine O_nil ?_) | refine wo rfl ?_ | refine wc rfl ?_ | refine wg rfl ?_ | refine go rfl ?_ | refine gc rfl ?_ | refine gg rfl ?_)
  refine O_call rfl rfl Tb.k18 trivial rfl (fits18_c _ l M hs hmax) ?_
  rintro _ M' ⟨rfl, hrk⟩
  refine O_weak hrk ?_
  clear hrk
  by_cases hfit : FitsP l
  · rw [decide_eq_true hfit]
    repeat' (first | (refine isO ?_; first | refine oo (Pc rfl) ?_ | refine oo (Pa rfl (by omega) (by omega)) ?_ | (refine ob rfl ?_ ?_ <;> intro hq <;> try (exfalso; omega)) | refine oo (Pi rfl (by omega)) ?_ | refine oo (Pl rfl) ?_ | refine oo (Px rfl rfl) ?_ | refine oo (Pj rfl (by omega) (by omega)) ?_ | refine oo (Pk rfl (by omega) (by omega)) ?_ | refine oo (Pf rfl) ?_ | refine oo (Pv rfl (by omega) (by omega)) ?_ | refine oo (Pn rfl) ?_ | refine oo (Pm rfl) ?_ | refine os rfl rfl ?_ | refine ot rfl (by omega) ?_ | refine O_nil ?_) | refine wo rfl ?_ | refine wc rfl ?_ | refine wg rfl ?_ | refine go rfl ?_ | refine gc rfl ?_ | refine gg rfl ?_)
    · exact G_fin ⟨_, rfl, rfl, .rfl⟩
    · exact G_fin ⟨_, rfl, rfl, .rfl⟩
    refine O_call rfl rfl Tb.k19 trivial rfl (given_c _ _ ls xs M h1 h2) ?_
    rintro v M' (⟨hok, b, c, sp, sv, m, rfl, hown, hrk⟩ | ⟨hno, rfl, hrk⟩)
    · refine O_weak hrk ?_
      clear hrk
      obtain ⟨hN, hlen, hget⟩ := canon_numbered ls hok.1
      have hV : ∀ i, i < (canon (linedL 0 [] ls)).length → ((canon (linedL 0 [] ls)).getD i Cd.zero).val < 2 ^ ((canon (linedL 0 [] ls)).getD i Cd.zero).len := by
        intro i hi
        rw [hlen] at hi
        rw [(hget i hi).1]
        exact (hget i hi).2
      generalize canon (linedL 0 [] ls) = cs at *
      have hr : Rs sv (mkR 0 xs) (m ++ M) := (Rs.of_own hown).mono fun x hx => List.mem_append_left _ hx
      have hsm : Ps (.slice a0 l.length c0) l (m ++ M) := hs.mono fun x hx => List.mem_append_right _ hx
      rw [← hlen]
      repeat' (first | (refine isO ?_; first | refine oo (Pc rfl) ?_ | refine oo (Pa rfl (by omega) (by omega)) ?_ | (refine ob rfl ?_ ?_ <;> intro hq <;> try (exfalso; omega)) | refine oo (Pi rfl (by omega)) ?_ | refine oo (Pl rfl) ?_ | refine oo (Px rfl rfl) ?_ | refine oo (Pj rfl (by omega) (by omega)) ?_ | refine oo (Pk rfl (by omega) (by omega)) ?_ | refine oo (Pf rfl) ?_ | refine oo (Pv rfl (by omega) (by omega)) ?_ | refine oo (Pn rfl) ?_ | refine oo (Pm rfl) ?_ | refine os rfl rfl ?_ | refine ot rfl (by omega) ?_ | refine O_nil ?_) | refine wo rfl ?_ | refine wc rfl ?_ | refine wg rfl ?_ | refine go rfl ?_ | refine gc rfl ?_ | refine gg rfl ?_)
      refine O_call rfl rfl Tb.k20 ?_ rfl (light20_c _ l _ (hsm.mono fun x hx => .tail _ hx) hfit) ?_
      · first | exact trivial | exact ⟨_, rfl, rfl⟩
      rintro _ M' ⟨rfl, hrk⟩
      refine O_weak hrk ?_
      clear hrk
      by_cases hL : LightP l
      · rw [decide_eq_true hL]
        repeat' (first | (refine isO ?_; first | refine oo (Pc rfl) ?_ | refine oo (Pa rfl (by omega) (by omega)) ?_ | (refine ob rfl ?_ ?_ <;> intro hq <;> try (exfalso; omega)) | refine oo (Pi rfl (by omega)) ?_ | refine oo (Pl rfl) ?_ | refine oo (Px rfl rfl) ?_ | refine oo (Pj rfl (by omega) (by omega)) ?_ | refine oo (Pk rfl (by omega) (by omega)) ?_ | refine oo (Pf rfl) ?_ | refine oo (Pv rfl (by omega) (by omega)) ?_ | refine oo (Pn rfl) ?_ | refine oo (Pm rfl) ?_ | refine os rfl rfl ?_ | refine ot rfl (by omega) ?_ | refine O_nil ?_) | refine wo rfl ?_ | refine wc rfl ?_ | refine wg rfl ?_ | refine go rfl ?_ | refine gc rfl ?_ | refine gg rfl ?_)
        · (refine O_call rfl rfl Tb.k13 trivial rfl (awake_c _) ?_; rintro v M' ⟨rfl, hrk⟩; refine O_weak hrk ?_; clear hrk; (repeat' (first | (refine isO ?_; first | refine oo (Pc rfl) ?_ | refine oo (Pa rfl (by omega) (by omega)) ?_ | (refine ob rfl ?_ ?_ <;> intro hq <;> try (exfalso; omega)) | refine oo (Pi rfl (by omega)) ?_ | refine oo (Pl rfl) ?_ | refine oo (Px rfl rfl) ?_ | refine oo (Pj rfl (by omega) (by omega)) ?_ | refine oo (Pk rfl (by omega) (by omega)) ?_ | refine oo (Pf rfl) ?_ | refine oo (Pv rfl (by omega) (by omega)) ?_ | refine oo (Pn rfl) ?_ | refine oo (Pm rfl) ?_ | refine os rfl rfl ?_ | refine ot rfl (by omega) ?_ | refine O_nil ?_) | refine wo rfl ?_ | refine wc rfl ?_ | refine wg rfl ?_ | refine go rfl ?_ | refine gc rfl ?_ | refine gg rfl ?_)))
          exact G_fin ⟨_, rfl, rfl, .drop (Rk.right m M)⟩
        refine O_call rfl rfl Tb.k21 trivial rfl (writeAll21_c l cs xs big _ sv b c true sp _ (hsm.mono fun x hx => .tail _ hx) hL hN (.head _) (hr.mono fun x hx => .tail _ hx) hok.2.2) ?_
        rintro _ M' (⟨bits, b9, hall, hbits, rfl, hrk⟩ | ⟨hno, rfl, hrk⟩)
        · refine O_weak hrk ?_
          clear hrk
          repeat' (first | (refine isO ?_; first | refine oo (Pc rfl) ?_ | refine oo (Pa rfl (by omega) (by omega)) ?_ | (refine ob rfl ?_ ?_ <;> intro hq <;> try (exfalso; omega)) | refine oo (Pi rfl (by omega)) ?_ | refine oo (Pl rfl) ?_ | refine oo (Px rfl rfl) ?_ | refine oo (Pj rfl (by omega) (by omega)) ?_ | refine oo (Pk rfl (by omega) (by omega)) ?_ | refine oo (Pf rfl) ?_ | refine oo (Pv rfl (by omega) (by omega)) ?_ | refine oo (Pn rfl) ?_ | refine oo (Pm rfl) ?_ | refine os rfl rfl ?_ | refine ot rfl (by omega) ?_ | refine O_nil ?_) | refine wo rfl ?_ | refine wc rfl ?_ | refine wg rfl ?_ | refine go rfl ?_ | refine gc rfl ?_ | refine gg rfl ?_)
          refine O_call rfl rfl Tb.k38 trivial rfl (HCp.take (.perm (.swap _ _ _)) (writeTry38_c l cs xs big fl (by omega) _ sv b c true sp (⟨true, b9, 0, ib (pkL big bits ((bits.length + 7) / 8) bits.length)⟩ :: (m ++ M)) (hsm.mono fun x hx => .tail _ hx) hL hN hV (hr.mono fun x hx => .tail _ hx) hok.2.2 bits hall hbits)) ?_
          rintro _ M' ⟨b10, c10, sp10, rfl, hrk⟩
          refine O_weak hrk ?_
          clear hrk
          have hpl := pkL_length big bits ((bits.length + 7) / 8) bits.length
          generalize (bits.length + 7) / 8 = L at *
          repeat' (first | (refine isO ?_; first | refine oo (Pc rfl) ?_ | refine oo (Pa rfl (by omega) (by omega)) ?_ | (refine ob rfl ?_ ?_ <;> intro hq <;> try (exfalso; omega)) | refine oo (Pi rfl (by omega)) ?_ | refine oo (Pl rfl) ?_ | refine oo (Px rfl rfl) ?_ | refine oo (Pj rfl (by omega) (by omega)) ?_ | refine oo (Pk rfl (by omega) (by omega)) ?_ | refine oo (Pf rfl) ?_ | refine oo (Pv rfl (by omega) (by omega)) ?_ | refine oo (Pn rfl) ?_ | refine oo (Pm rfl) ?_ | refine os rfl rfl ?_ | refine ot rfl (by omega) ?_ | refine O_nil ?_) | refine wo rfl ?_ | refine wc rfl ?_ | refine wg rfl ?_ | refine go rfl ?_ | refine gc rfl ?_ | refine gg rfl ?_)
          (refine O_call rfl rfl Tb.k13 trivial rfl (awake_c _) ?_; rintro v M' ⟨rfl, hrk⟩; refine O_weak hrk ?_; clear hrk; (repeat' (first | (refine isO ?_; first | refine oo (Pc rfl) ?_ | refine oo (Pa rfl (by omega) (by omega)) ?_ | (refine ob rfl ?_ ?_ <;> intro hq <;> try (exfalso; omega)) | refine oo (Pi rfl (by omega)) ?_ | refine oo (Pl rfl) ?_ | refine oo (Px rfl rfl) ?_ | refine oo (Pj rfl (by omega) (by omega)) ?_ | refine oo (Pk rfl (by omega) (by omega)) ?_ | refine oo (Pf rfl) ?_ | refine oo (Pv rfl (by omega) (by omega)) ?_ | refine oo (Pn rfl) ?_ | refine oo (Pm rfl) ?_ | refine os rfl rfl ?_ | refine ot rfl (by omega) ?_ | refine O_nil ?_) | refine wo rfl ?_ | refine wc rfl ?_ | refine wg rfl ?_ | refine go rfl ?_ | refine gc rfl ?_ | refine gg rfl ?_)))
          refine O_pure (P_toStr Tb.u22 Tb.u5 u9 rfl (.head _) (ys := (pkL big bits L bits.length).map Nat.cast) (List.take_left' (by rw [ib_length, hpl])) (by rw [List.length_append, ib_length, hpl]; omega)) (by first | exact trivial | exact ⟨_, rfl, rfl⟩) rfl ?_
          repeat' (first | (refine isO ?_; first | refine oo (Pc rfl) ?_ | refine oo (Pa rfl (by omega) (by omega)) ?_ | (refine ob rfl ?_ ?_ <;> intro hq <;> try (exfalso; omega)) | refine oo (Pi rfl (by omega)) ?_ | refine oo (Pl rfl) ?_ | refine oo (Px rfl rfl) ?_ | refine oo (Pj rfl (by omega) (by omega)) ?_ | refine oo (Pk rfl (by omega) (by omega)) ?_ | refine oo (Pf rfl) ?_ | refine oo (Pv rfl (by omega) (by omega)) ?_ | refine oo (Pn rfl) ?_ | refine oo (Pm rfl) ?_ | refine os rfl rfl ?_ | refine ot rfl (by omega) ?_ | refine O_nil ?_) | refine wo rfl ?_ | refine wc rfl ?_ | refine wg rfl ?_ | refine go rfl ?_ | refine gc rfl ?_ | refine gg rfl ?_)
          refine O_pure (P_toStr Tb.u22 Tb.u5 u9 rfl (.tail _ (.head _)) (ys := (pkL big bits L bits.length).map Nat.cast) (List.take_of_length_le (by rw [ib_length, hpl]; omega)) (by rw [ib_length, hpl]; omega)) (by first | exact trivial | exact ⟨_, rfl, rfl⟩) rfl ?_
          repeat' (first | (refine isO ?_; first | refine oo (Pc rfl) ?_ | refine oo (Pa rfl (by omega) (by omega)) ?_ | (refine ob rfl ?_ ?_ <;> intro hq <;> try (exfalso; omega)) | refine oo (Pi rfl (by omega)) ?_ | refine oo (Pl rfl) ?_ | refine oo (Px rfl rfl) ?_ | refine oo (Pj rfl (by omega) (by omega)) ?_ | refine oo (Pk rfl (by omega) (by omega)) ?_ | refine oo (Pf rfl) ?_ | refine oo (Pv rfl (by omega) (by omega)) ?_ | refine oo (Pn rfl) ?_ | refine oo (Pm rfl) ?_ | refine os rfl rfl ?_ | refine ot rfl (by omega) ?_ | refine O_nil ?_) | refine wo rfl ?_ | refine wc rfl ?_ | refine wg rfl ?_ | refine go rfl ?_ | refine gc rfl ?_ | refine gg rfl ?_)
          refine O_pure (P_eqStr u9 rfl rfl) (by first | exact trivial | exact ⟨_, rfl, rfl⟩) rfl ?_
          repeat' (first | (refine isO ?_; first | refine oo (Pc rfl) ?_ | refine oo (Pa rfl (by omega) (by omega)) ?_ | (refine ob rfl ?_ ?_ <;> intro hq <;> try (exfalso; omega)) | refine oo (Pi rfl (by omega)) ?_ | refine oo (Pl rfl) ?_ | refine oo (Px rfl rfl) ?_ | refine oo (Pj rfl (by omega) (by omega)) ?_ | refine oo (Pk rfl (by omega) (by omega)) ?_ | refine oo (Pf rfl) ?_ | refine oo (Pv rfl (by omega) (by omega)) ?_ | refine oo (Pn rfl) ?_ | refine oo (Pm rfl) ?_ | refine os rfl rfl ?_ | refine ot rfl (by omega) ?_ | refine O_nil ?_) | refine wo rfl ?_ | refine wc rfl ?_ | refine wg rfl ?_ | refine go rfl ?_ | refine gc rfl ?_ | refine gg rfl ?_)
          exact G_fin ⟨_, rfl, rfl, .drop (.drop (Rk.right m M))⟩
        · refine O_weak hrk ?_
          clear hrk
          repeat' (first | (refine isO ?_; first | refine oo (Pc rfl) ?_ | refine oo (Pa rfl (by omega) (by omega)) ?_ | (refine ob rfl ?_ ?_ <;> intro hq <;> try (exfalso; omega)) | refine oo (Pi rfl (by omega)) ?_ | refine oo (Pl rfl) ?_ | refine oo (Px rfl rfl) ?_ | refine oo (Pj rfl (by omega) (by omega)) ?_ | refine oo (Pk rfl (by omega) (by omega)) ?_ | refine oo (Pf rfl) ?_ | refine oo (Pv rfl (by omega) (by omega)) ?_ | refine oo (Pn rfl) ?_ | refine oo (Pm rfl) ?_ | refine os rfl rfl ?_ | refine ot rfl (by omega) ?_ | refine O_nil ?_) | refine wo rfl ?_ | refine wc rfl ?_ | refine wg rfl ?_ | refine go rfl ?_ | refine gc rfl ?_ | refine gg rfl ?_)
          (refine O_call rfl rfl Tb.k13 trivial rfl (awake_c _) ?_; rintro v M' ⟨rfl, hrk⟩; refine O_weak hrk ?_; clear hrk; (repeat' (first | (refine isO ?_; first | refine oo (Pc rfl) ?_ | refine oo (Pa rfl (by omega) (by omega)) ?_ | (refine ob rfl ?_ ?_ <;> intro hq <;> try (exfalso; omega)) | refine oo (Pi rfl (by omega)) ?_ | refine oo (Pl rfl) ?_ | refine oo (Px rfl rfl) ?_ | refine oo (Pj rfl (by omega) (by omega)) ?_ | refine oo (Pk rfl (by omega) (by omega)) ?_ | refine oo (Pf rfl) ?_ | refine oo (Pv rfl (by omega) (by omega)) ?_ | refine oo (Pn rfl) ?_ | refine oo (Pm rfl) ?_ | refine os rfl rfl ?_ | refine ot rfl (by omega) ?_ | refine O_nil ?_) | refine wo rfl ?_ | refine wc rfl ?_ | refine wg rfl ?_ | refine go rfl ?_ | refine gc rfl ?_ | refine gg rfl ?_)))
          exact G_fin ⟨_, rfl, rfl, .drop (Rk.right m M)⟩
      · rw [decide_eq_false hL]
        repeat' (first | (refine isO ?_; first | refine oo (Pc rfl) ?_ | refine oo (Pa rfl (by omega) (by omega)) ?_ | (refine ob rfl ?_ ?_ <;> intro hq <;> try (exfalso; omega)) | refine oo (Pi rfl (by omega)) ?_ | refine oo (Pl rfl) ?_ | refine oo (Px rfl rfl) ?_ | refine oo (Pj rfl (by omega) (by omega)) ?_ | refine oo (Pk rfl (by omega) (by omega)) ?_ | refine oo (Pf rfl) ?_ | refine oo (Pv rfl (by omega) (by omega)) ?_ | refine oo (Pn rfl) ?_ | refine oo (Pm rfl) ?_ | refine os rfl rfl ?_ | refine ot rfl (by omega) ?_ | refine O_nil ?_) | refine wo rfl ?_ | refine wc rfl ?_ | refine wg rfl ?_ | refine go rfl ?_ | refine gc rfl ?_ | refine gg rfl ?_)
        (refine O_call rfl rfl Tb.k13 trivial rfl (awake_c _) ?_; rintro v M' ⟨rfl, hrk⟩; refine O_weak hrk ?_; clear hrk; (repeat' (first | (refine isO ?_; first | refine oo (Pc rfl) ?_ | refine oo (Pa rfl (by omega) (by omega)) ?_ | (refine ob rfl ?_ ?_ <;> intro hq <;> try (exfalso; omega)) | refine oo (Pi rfl (by omega)) ?_ | refine oo (Pl rfl) ?_ | refine oo (Px rfl rfl) ?_ | refine oo (Pj rfl (by omega) (by omega)) ?_ | refine oo (Pk rfl (by omega) (by omega)) ?_ | refine oo (Pf rfl) ?_ | refine oo (Pv rfl (by omega) (by omega)) ?_ | refine oo (Pn rfl) ?_ | refine oo (Pm rfl) ?_ | refine os rfl rfl ?_ | refine ot rfl (by omega) ?_ | refine O_nil ?_) | refine wo rfl ?_ | refine wc rfl ?_ | refine wg rfl ?_ | refine go rfl ?_ | refine gc rfl ?_ | refine gg rfl ?_)))
        exact G_fin ⟨_, rfl, rfl, .drop (Rk.right m M)⟩
    · refine O_weak hrk ?_
      clear hrk
      repeat' (first | (refine isO ?_; first | refine oo (Pc rfl) ?_ | refine oo (Pa rfl (by omega) (by omega)) ?_ | (refine ob rfl ?_ ?_ <;> intro hq <;> try (exfalso; omega)) | refine oo (Pi rfl (by omega)) ?_ | refine oo (Pl rfl) ?_ | refine oo (Px rfl rfl) ?_ | refine oo (Pj rfl (by omega) (by omega)) ?_ | refine oo (Pk rfl (by omega) (by omega)) ?_ | refine oo (Pf rfl) ?_ | refine oo (Pv rfl (by omega) (by omega)) ?_ | refine oo (Pn rfl) ?_ | refine oo (Pm rfl) ?_ | refine os rfl rfl ?_ | refine ot rfl (by omega) ?_ | refine O_nil ?_) | refine wo rfl ?_ | refine wc rfl ?_ | refine wg rfl ?_ | refine go rfl ?_ | refine gc rfl ?_ | refine gg rfl ?_)
      (refine O_call rfl rfl Tb.k13 trivial rfl (awake_c _) ?_; rintro v M' ⟨rfl, hrk⟩; refine O_weak hrk ?_; clear hrk; (repeat' (first | (refine isO ?_; first | refine oo (Pc rfl) ?_ | refine oo (Pa rfl (by omega) (by omega)) ?_ | (refine ob rfl ?_ ?_ <;> intro hq <;> try (exfalso; omega)) | refine oo (Pi rfl (by omega)) ?_ | refine oo (Pl rfl) ?_ | refine oo (Px rfl rfl) ?_ | refine oo (Pj rfl (by omega) (by omega)) ?_ | refine oo (Pk rfl (by omega) (by omega)) ?_ | refine oo (Pf rfl) ?_ | refine oo (Pv rfl (by omega) (by omega)) ?_ | refine oo (Pn rfl) ?_ | refine oo (Pm rfl) ?_ | refine os rfl rfl ?_ | refine ot rfl (by omega) ?_ | refine O_nil ?_) | refine wo rfl ?_ | refine wc rfl ?_ | refine wg rfl ?_ | refine go rfl ?_ | refine gc rfl ?_ | refine gg rfl ?_)))
      exact G_fin ⟨_, rfl, rfl, .rfl⟩
  · rw [decide_eq_false hfit]
    repeat' (first | (refine isO ?_; first | refine oo (Pc rfl) ?_ | refine oo (Pa rfl (by omega) (by omega)) ?_ | (refine ob rfl ?_ ?_ <;> intro hq <;> try (exfalso; omega)) | refine oo (Pi rfl (by omega)) ?_ | refine oo (Pl rfl) ?_ | refine oo (Px rfl rfl) ?_ | refine oo (Pj rfl (by omega) (by omega)) ?_ | refine oo (Pk rfl (by omega) (by omega)) ?_ | refine oo (Pf rfl) ?_ | refine oo (Pv rfl (by omega) (by omega)) ?_ | refine oo (Pn rfl) ?_ | refine oo (Pm rfl) ?_ | refine os rfl rfl ?_ | refine ot rfl (by omega) ?_ | refine O_nil ?_) | refine wo rfl ?_ | refine wc rfl ?_ | refine wg rfl ?_ | refine go rfl ?_ | refine gc rfl ?_ | refine gg rfl ?_)
    exact G_fin ⟨_, rfl, rfl, .rfl⟩
end Go.Proofs.Ytjkpfliaflmppaa.Pc

namespace Go.Proofs.Ytjkpfliaflmppaa.Sh
open Go.ChangeShapes Go.WideShapes Go.ChangeAt Go.RowKit Go.Proofs.Ytjkpfliaflmppaa.Vm Go.Proofs.Ytjkpfliaflmppaa.Pc
set_option linter.unusedVariables false

theorem own : ownKnob Try.prog.godebug = none := by kernel_rfl
theorem cells5 : Try.prog.cellsOf 5 = 1 := by kernel_rfl

theorem laid : laidOutB Try.prog = true := by kernel_rfl
theorem Bs.mono {s : Value} {xs : List Nat} {M M' : Mem} (h : Bs s xs M) (hm : ∀ x ∈ M, x ∈ M') : Bs s xs M' := by
  obtain ⟨h1, ad, cap, h2, h3⟩ := h
  exact ⟨h1, ad, cap, h2, h3.imp id fun ⟨b, o, h4, h5⟩ => ⟨b, o, h4, hm _ h5⟩⟩

/-- A handed slice of bytes, as the engine has it. -/
theorem bytes_open {H : Type} {enc : TypeId × Value → H} {W : World} {ad : Option Addr} {len cap : Nat} {d : DataW H} {ps : List MemPlace} (h : DataW.Trod enc Try.prog W 0 (fun _ => true) true 22 (.slice ad len cap) d ps) :
    ∃ (xs : List Nat) (m : Mem), Bs (.slice ad len cap) xs m ∧ (∀ s ∈ m, s.own = false ∧ s.lies W.heap.size W) := by
  obtain ⟨fuel, hf⟩ := h
  rcases open_ints Try.underlying22 Try.underlying5 cells5 hf with ⟨hcs, hx⟩ | ⟨a, len', cap', zs, hcs, _, hl, hm, hz, hx, hcell, hwz⟩
  · simp [Value.cells] at hcs
    obtain ⟨rfl, rfl, rfl⟩ := hcs
    exact ⟨[], [], ⟨by simp, none, 0, rfl, .inl rfl⟩, by simp⟩
  · simp [Value.cells] at hcs
    obtain ⟨rfl, rfl, rfl⟩ := hcs
    simp only [if_true] at hz
    have hbyte : ∀ z ∈ zs, 0 ≤ z ∧ z ≤ 255 := fun z hz => by
      have := hwz z hz
      simpa [Lit.wf, IntKind.min, IntKind.max, IntKind.signed, IntKind.bits] using this
    have hlen : ((zs.take len).map Int.toNat).length = len := by simp; omega
    have hback : ((zs.take len).map Int.toNat).map (Nat.cast : Nat → Int) = zs.take len := by
      rw [List.map_map]
      conv => rhs; rw [← List.map_id (zs.take len)]
      apply List.map_congr_left
      intro z hz
      have := hbyte z (List.mem_of_mem_take hz)
      simp; omega
    have hlt : ∀ x ∈ (zs.take len).map Int.toNat, x < 256 := by
      intro x hx
      obtain ⟨z, hz, rfl⟩ := List.mem_map.1 hx
      have := hbyte z (List.mem_of_mem_take hz)
      omega
    by_cases h0 : len = 0
    · subst h0
      exact ⟨[], [], ⟨by simp, some a, cap, rfl, .inl rfl⟩, by simp⟩
    · obtain ⟨b, off, spot⟩ := a
      have hc0 := hcell 0 (by omega)
      have hsp : spot = none := by
        cases spot with
        | none => rfl
        | some s =>
          exfalso
          simp only [World.cell?, Addr.add] at hc0
          split at hc0 <;> (try split at hc0) <;> simp_all
      subst hsp
      refine ⟨_, [⟨false, b, off, ints .u8 (((zs.take len).map Int.toNat).map Nat.cast)⟩], ⟨hlt, some ⟨b, off, none⟩, cap, by rw [hlen], .inr ⟨b, off, rfl, .head _⟩⟩, ?_⟩
      intro s hs
      obtain rfl := List.mem_singleton.1 hs
      refine ⟨rfl, ?_⟩
      rw [hback]
      have hcell' : ∀ i, i < zs.length → W.cell? ⟨b, off + i, none⟩ = some (.int .u8 (zs.getD i 0)) := fun i hi => by rw [← add_place]; exact hcell i hi
      cases hh : W.heap[b]? with
      | none => have := hcell' 0 (by omega); simp [World.cell?, hh] at this
      | some o =>
        cases o with
        | cells c T f =>
          obtain ⟨lo, hi⟩ := f
          have hget : ∀ i, i < zs.length → c[off + i]? = some (.int .u8 (zs.getD i 0)) := fun i hi => by
            have := hcell' i hi
            simpa [World.cell?, hh] using this
          refine ⟨c, T, lo, hi, hh, ?_, fun i hi => ?_, fun h => by cases h⟩
          · have h1 := hget (len - 1) (by omega)
            have h2 := (Array.getElem?_eq_some_iff.1 h1).1
            simp only [ints_length, List.length_take]
            omega
          · simp only [ints_length, List.length_take] at hi
            rw [hget i (by omega), ints_get (by simp; omega)]
            simp [show i < len by omega, show i < zs.length by omega]
        | _ => have := hcell' 0 (by omega); simp [World.cell?, hh] at this

end Go.Proofs.Ytjkpfliaflmppaa.Sh

namespace Go.Proofs.Ytjkpfliaflmppaa.Sh
open Go.ChangeShapes Go.WideShapes Go.ChangeAt Go.RowKit Go.Proofs.Ytjkpfliaflmppaa.Vm Go.Proofs.Ytjkpfliaflmppaa.Pc
set_option linter.unusedVariables false

theorem cells76 : Try.prog.cellsOf 76 = 4 := by kernel_rfl
theorem cells3 : Try.prog.cellsOf 3 = 1 := by kernel_rfl
theorem cells49 : Try.prog.cellsOf 49 = 1 := by kernel_rfl
theorem cells22 : Try.prog.cellsOf 22 = 1 := by kernel_rfl
theorem fields76 : ∃ fs : Array Field, Try.prog.underlying 76 = some (.struct fs) ∧ (∃ f, fs[0]? = some f ∧ f.type = 3 ∧ f.offset = 0) ∧ (∃ f, fs[1]? = some f ∧ f.type = 49 ∧ f.offset = 1) ∧ (∃ f, fs[2]? = some f ∧ f.type = 49 ∧ f.offset = 2) ∧ (∃ f, fs[3]? = some f ∧ f.type = 22 ∧ f.offset = 3) :=
  ⟨_, Try.underlying76, ⟨_, rfl, rfl, rfl⟩, ⟨_, rfl, rfl, rfl⟩, ⟨_, rfl, rfl, rfl⟩, ⟨_, rfl, rfl, rfl⟩⟩

theorem four {cs : List Value} (h : cs.length = 4) : ∃ a b c d, cs = [a, b, c, d] := by
  rcases cs with _ | ⟨a, _ | ⟨b, _ | ⟨c, _ | ⟨d, _ | ⟨e, t⟩⟩⟩⟩⟩ <;> simp at h
  exact ⟨a, b, c, d, rfl⟩
theorem put_open {H : Type} {enc : TypeId × Value → H} {W : World} {n : Nat} {cs : List Value} {y : DataW H × List MemPlace} (h : DataW.trod enc Try.prog W 0 (fun _ => true) true n 76 cs = some y) :
    ∃ (p : Pt) (m : Mem), cs = p.cells ∧ OkP p m ∧ (∀ s ∈ m, s.own = false ∧ s.lies W.heap.size W) ∧ p.s.length ≤ 9223372036854775807 := by
  obtain ⟨fs, hu, ⟨f0, h0, t0, o0⟩, ⟨f1, h1, t1, o1⟩, ⟨f2, h2, t2, o2⟩, ⟨f3, h3, t3, o3⟩⟩ := fields76
  obtain ⟨xs, n', _, rfl, hlen, hxl, hf⟩ := DataW.trod_struct hu h
  rw [cells76] at hlen
  obtain ⟨c0, c1, c2, c3, rfl⟩ : ∃ a b c d, cs = [a, b, c, d] := by
    exact four hlen
  have k0 := hf 0 f0 h0
  have k1 := hf 1 f1 h1
  have k2 := hf 2 f2 h2
  have k3 := hf 3 f3 h3
  rw [t0, o0, cells3] at k0
  rw [t1, o1, cells49] at k1
  rw [t2, o2, cells49] at k2
  rw [t3, o3, cells22] at k3
  have hfs : fs.size = xs.length := hxl.symm
  have h4 : 3 < xs.length := by rw [← hfs]; exact (Array.getElem?_eq_some_iff.1 h3).1
  simp only [List.drop_succ_cons, List.drop_zero, List.take_succ_cons, List.take_zero] at k0 k1 k2 k3
  rw [List.getElem?_eq_getElem (by omega)] at k0 k1 k2 k3
  obtain ⟨a0, e0, _, w0⟩ := DataW.trod_int Try.underlying3 k0
  obtain ⟨a1, e1, _, w1⟩ := DataW.trod_int Try.underlying49 k1
  obtain ⟨a2, e2, _, w2⟩ := DataW.trod_int Try.underlying49 k2
  cases e0; cases e1; cases e2
  have r0 : -9223372036854775808 ≤ a0 ∧ a0 ≤ 9223372036854775807 := by simpa [Lit.wf, IntKind.min, IntKind.max, IntKind.signed, IntKind.bits] using w0
  have r1 : 0 ≤ a1 ∧ a1 ≤ 18446744073709551615 := by simpa [Lit.wf, IntKind.min, IntKind.max, IntKind.signed, IntKind.bits] using w1
  have r2 : 0 ≤ a2 ∧ a2 ≤ 18446744073709551615 := by simpa [Lit.wf, IntKind.min, IntKind.max, IntKind.signed, IntKind.bits] using w2
  obtain ⟨v, rfl⟩ : ∃ v : Nat, a1 = v := ⟨a1.toNat, by omega⟩
  obtain ⟨z, rfl⟩ : ∃ v : Nat, a2 = v := ⟨a2.toNat, by omega⟩
  have hsl : ∃ ad len cap, c3 = .slice ad len cap ∧ len ≤ 9223372036854775807 := by
    rcases DataW.trod_slice Try.underlying22 k3 with ⟨e, _⟩ | ⟨a, len, cap, _, _, _, _, e, _, _, hl, hm, _⟩
    · cases e; exact ⟨_, _, _, rfl, by omega⟩
    · cases e; exact ⟨_, _, _, rfl, by unfold maxLen at hm; omega⟩
  obtain ⟨ad, len, cap, rfl, hle⟩ := hsl
  obtain ⟨xs', m, hb, hm⟩ := bytes_open (enc := enc) (W := W) (ad := ad) (len := len) (cap := cap) (d := (xs[3]).1) (ps := (xs[3]).2) ⟨n', k3⟩
  have hxl' : xs'.length = len := by
    obtain ⟨_, ad', cap', e, _⟩ := hb
    cases e; rfl
  exact ⟨⟨a0, v, z, xs', .slice ad len cap⟩, m, rfl, ⟨r0.1, r0.2, by simp only; omega, by simp only; omega, hb⟩, hm, by simp only; omega⟩

theorem puts_open {H : Type} {enc : TypeId × Value → H} {W : World} {ad : Option Addr} {len cap : Nat} {d : DataW H} {ps : List MemPlace} (h : DataW.Trod enc Try.prog W 0 (fun _ => true) true 32 (.slice ad len cap) d ps) :
    ∃ (l : List Pt) (m : Mem), Ps (.slice ad len cap) l m ∧ (∀ s ∈ m, s.own = false ∧ s.lies W.heap.size W) ∧ ∀ i, i < l.length → (l.getD i Pt.zero).s.length ≤ 9223372036854775807 := by
  obtain ⟨fuel, hf⟩ := h
  rcases DataW.trod_slice Try.underlying32 hf with ⟨hcs, hx⟩ | ⟨a, len', cap', elems, rest, n, _, hcs, _, _, hl, hmx, hel, hget, _, _⟩
  · simp [Value.cells] at hcs
    obtain ⟨rfl, rfl, rfl⟩ := hcs
    exact ⟨[], [], ⟨⟨none, 0, rfl, .inl rfl⟩, fun i hi => absurd hi (Nat.not_lt_zero _)⟩, by simp, fun i hi => absurd hi (Nat.not_lt_zero _)⟩
  · simp [Value.cells] at hcs
    obtain ⟨rfl, rfl, rfl⟩ := hcs
    rw [cells76] at hget
    have each : ∀ i, i < len → ∃ (p : Pt) (m : Mem), (∀ f, f < 4 → W.cell? ((a.add (i * 4)).add f) = p.cells[f]?) ∧ OkP p m ∧ (∀ s ∈ m, s.own = false ∧ s.lies W.heap.size W) ∧ p.s.length ≤ 9223372036854775807 := by
      intro i hi
      have h1 := hget i hi
      rw [List.getElem?_eq_getElem (by omega), Option.bind_eq_some_iff] at h1
      obtain ⟨cs, hcs, h2⟩ := h1
      obtain ⟨p, m, rfl, k1, k2, k3⟩ := put_open h2
      exact ⟨p, m, (World.cells?_some hcs).2.2, k1, k2, k3⟩
    have all : ∀ k, k ≤ len → ∃ (l : List Pt) (m : Mem), l.length = k ∧ (∀ i, i < k → (∀ f, f < 4 → W.cell? ((a.add (i * 4)).add f) = (l.getD i Pt.zero).cells[f]?) ∧ OkP (l.getD i Pt.zero) m ∧ (l.getD i Pt.zero).s.length ≤ 9223372036854775807) ∧
        (∀ s ∈ m, s.own = false ∧ s.lies W.heap.size W) := by
      intro k
      induction k with
      | zero => intro _; exact ⟨[], [], rfl, fun i hi => absurd hi (Nat.not_lt_zero _), by simp⟩
      | succ k ih =>
        intro hk
        obtain ⟨l, m, h1, h2, h3⟩ := ih (by omega)
        obtain ⟨p, m', k1, k2, k3, k4⟩ := each k (by omega)
        refine ⟨l ++ [p], m ++ m', by simp [h1], fun i hi => ?_, fun s hs => (List.mem_append.1 hs).elim (h3 s) (k3 s)⟩
        by_cases hik : i < k
        · have e : (l ++ [p]).getD i Pt.zero = l.getD i Pt.zero := by simp [List.getElem?_append_left (show i < l.length by omega)]
          rw [e]
          obtain ⟨q1, q2, q3⟩ := h2 i hik
          exact ⟨q1, q2.mono fun x hx => List.mem_append_left _ hx, q3⟩
        · obtain rfl : i = k := by omega
          have e : (l ++ [p]).getD i Pt.zero = p := by simp [← h1]
          rw [e]
          exact ⟨k1, k2.mono fun x hx => List.mem_append_right _ hx, k4⟩
    obtain ⟨l, m, h1, h2, h3⟩ := all len (Nat.le_refl _)
    by_cases h0 : len = 0
    · subst h0
      obtain rfl : l = [] := List.eq_nil_of_length_eq_zero h1
      exact ⟨[], m, ⟨⟨some a, cap, rfl, .inl rfl⟩, fun i hi => absurd hi (Nat.not_lt_zero _)⟩, h3, fun i hi => absurd hi (Nat.not_lt_zero _)⟩
    · obtain ⟨b, off, spot⟩ := a
      have hc0 := (h2 0 (by omega)).1 0 (by omega)
      have hsp : spot = none := by
        cases spot with
        | none => rfl
        | some s =>
          exfalso
          simp only [World.cell?, Addr.add, Pt.cells] at hc0
          split at hc0 <;> (try split at hc0) <;> simp_all
      subst hsp
      have hcell : ∀ i f, i < len → f < 4 → W.cell? ⟨b, off + (i * 4 + f), none⟩ = (putsV l)[i * 4 + f]? := by
        intro i f hi hf
        have := (h2 i hi).1 f hf
        rw [add_place, add_place, Nat.add_assoc] at this
        rw [this]
        generalize hp : l.getD i Pt.zero = p
        obtain ⟨k, v, n, s, sv⟩ := p
        rw [putsV_get l i f (by omega) hf hp]
        rfl
      refine ⟨l, ⟨false, b, off, putsV l⟩ :: m, ⟨⟨some ⟨b, off, none⟩, cap, by rw [h1], .inr ⟨b, off, rfl, .head _⟩⟩, fun i hi => ((h2 i (by omega)).2.1).mono fun x hx => .tail _ hx⟩, ?_, fun i hi => (h2 i (by omega)).2.2⟩
      intro s hs
      cases hs with
      | tail _ hs => exact h3 s hs
      | head =>
        refine ⟨rfl, ?_⟩
        have hcell' : ∀ j, j < len * 4 → W.cell? ⟨b, off + j, none⟩ = (putsV l)[j]? := by
          intro j hj
          have := hcell (j / 4) (j % 4) (by omega) (Nat.mod_lt _ (by omega))
          rw [show j / 4 * 4 + j % 4 = j by omega] at this
          exact this
        have hsome : ∀ j, j < len * 4 → ∃ v, (putsV l)[j]? = some v := fun j hj => ⟨_, List.getElem?_eq_getElem (by rw [putsV_length]; omega)⟩
        cases hh : W.heap[b]? with
        | none => have := hcell' 0 (by omega); obtain ⟨v, hv⟩ := hsome 0 (by omega); rw [hv] at this; simp [World.cell?, hh] at this
        | some o =>
          cases o with
          | cells c T f =>
            obtain ⟨lo, hi⟩ := f
            have hget : ∀ j, j < len * 4 → c[off + j]? = (putsV l)[j]? := fun j hj => by
              have := hcell' j hj
              simpa [World.cell?, hh] using this
            refine ⟨c, T, lo, hi, hh, ?_, fun i hi => ?_, fun h => by cases h⟩
            · have h1' := hget (len * 4 - 1) (by omega)
              obtain ⟨v, hv⟩ := hsome (len * 4 - 1) (by omega)
              rw [hv] at h1'
              have h2 := (Array.getElem?_eq_some_iff.1 h1').1
              simp only [putsV_length]
              omega
            · simp only [putsV_length] at hi
              exact hget i (by omega)
          | _ => have := hcell' 0 (by omega); obtain ⟨v, hv⟩ := hsome 0 (by omega); rw [hv] at this; simp [World.cell?, hh] at this
end Go.Proofs.Ytjkpfliaflmppaa.Sh
