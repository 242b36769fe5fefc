/- impl.Prefixes, walked: whole codes get canonical values, all others are an error. -/
import Derived.Test.YtjkpfliaflmppaaW6x18
import Derived.Test.YtjkpfliaflmppaaW6x14
import Derived.Test.YtjkpfliaflmppaaW6x19
import Derived.Test.YtjkpfliaflmppaaW6x07

namespace Go.Proofs.Ytjkpfliaflmppaa.Pc
open Go Go.RowKit Go.Proofs.Ytjkpfliaflmppaa.Vm Go.Proofs.Ytjkpfliaflmppaa.Rev Go.Proofs.Ytjkpfliaflmppaa.Rv Go.Proofs.Ytjkpfliaflmppaa.Sf

theorem own_one {s : Value} {size : Nat} {xs : List Value} {m : Mem} (h : Own s size xs m) : s.oneCell' = true := by
  rcases h with ⟨rfl, _⟩ | ⟨b, len, cap, sp, rfl, _⟩ <;> rfl

/-- What comes of codes. -/
def Made (cs : List Cd) (r : Bool) (out : List Cd) : Prop := (whole cs ∧ r = true ∧ out = canon cs) ∨ (¬ whole cs ∧ r = false ∧ out = cs)

theorem pfin_c (cs : List Cd) (hG : Good cs) (b1 b2 b3 : Nat) (own : Bool) (b cap : Nat) (sp : List Value) (F : Mem) :
    HC Try.prog 40 #[.pointer (some ⟨b1, 0, none⟩), .pointer (some ⟨b3, 0, none⟩), .pointer (some ⟨b2, 0, none⟩)]
      (⟨own, b, 0, codesV cs ++ sp⟩ :: ⟨true, b3, 0, [.bool false]⟩ :: ⟨true, b2, 0, [.slice none 0 0]⟩ :: ⟨true, b1, 0, [.slice (some ⟨b, 0, none⟩) cs.length cap]⟩ :: F)
      (fun _ M' => ∃ r out sv m, Made cs r out ∧ Own sv 4 (codesV out) m ∧ Rk M' (⟨true, b3, 0, [.bool r]⟩ :: ⟨true, b2, 0, [sv]⟩ :: (m ++ (⟨own, b, 0, codesV cs ++ sp⟩ :: F)))) := by
  have h60 := hG.most
  refine HC_of_W (fn := Try.f40) Try.func40 rfl rfl rfl rfl ?_
  repeat' (first | (refine isO ?_; first | refine oo (Pc rfl) ?_ | refine oo (Pa rfl (by omega) (by omega)) ?_ | (refine ob rfl ?_ ?_ <;> intro hq <;> try (exfalso; omega)) | refine oo (Pi rfl (by omega)) ?_ | refine oo (Pl rfl) ?_ | refine oo (Px rfl rfl) ?_ | refine oo (Pj rfl (by omega) (by omega)) ?_ | refine oo (Pk rfl (by omega) (by omega)) ?_ | refine oo (Pf rfl) ?_ | refine oo (Pv rfl (by omega) (by omega)) ?_ | refine oo (Pn rfl) ?_ | refine oo (Pm rfl) ?_ | refine os rfl rfl ?_ | refine ot rfl (by omega) ?_ | refine O_nil ?_) | refine wo rfl ?_ | refine wc rfl ?_ | refine wg rfl ?_ | refine go rfl ?_ | refine gc rfl ?_ | refine gg rfl ?_)
  refine O_call rfl rfl Tb.k41 trivial rfl (codes_c cs own b cap sp _ (by omega)) ?_
  rintro v M' ⟨b', cap', sp', rfl, hcap', rfl⟩
  repeat' (first | (refine isO ?_; first | refine oo (Pc rfl) ?_ | refine oo (Pa rfl (by omega) (by omega)) ?_ | (refine ob rfl ?_ ?_ <;> intro hq <;> try (exfalso; omega)) | refine oo (Pi rfl (by omega)) ?_ | refine oo (Pl rfl) ?_ | refine oo (Px rfl rfl) ?_ | refine oo (Pj rfl (by omega) (by omega)) ?_ | refine oo (Pk rfl (by omega) (by omega)) ?_ | refine oo (Pf rfl) ?_ | refine oo (Pv rfl (by omega) (by omega)) ?_ | refine oo (Pn rfl) ?_ | refine oo (Pm rfl) ?_ | refine os rfl rfl ?_ | refine ot rfl (by omega) ?_ | refine O_nil ?_) | refine wo rfl ?_ | refine wc rfl ?_ | refine wg rfl ?_ | refine go rfl ?_ | refine gc rfl ?_ | refine gg rfl ?_)
  refine O_call rfl rfl Tb.k42 trivial rfl (gp_c cs hG b' cap' sp' _ hcap') ?_
  rintro v M' (⟨hw, rfl, hrk⟩ | ⟨hw, ⟨t, x, rfl⟩, hrk⟩)
  · refine O_weak hrk ?_
    refine O_pure (P_err_eq Tb.i82 rfl rfl) trivial rfl ?_
    repeat' (first | (refine isO ?_; first | refine oo (Pc rfl) ?_ | refine oo (Pa rfl (by omega) (by omega)) ?_ | (refine ob rfl ?_ ?_ <;> intro hq <;> try (exfalso; omega)) | refine oo (Pi rfl (by omega)) ?_ | refine oo (Pl rfl) ?_ | refine oo (Px rfl rfl) ?_ | refine oo (Pj rfl (by omega) (by omega)) ?_ | refine oo (Pk rfl (by omega) (by omega)) ?_ | refine oo (Pf rfl) ?_ | refine oo (Pv rfl (by omega) (by omega)) ?_ | refine oo (Pn rfl) ?_ | refine oo (Pm rfl) ?_ | refine os rfl rfl ?_ | refine ot rfl (by omega) ?_ | refine O_nil ?_) | refine wo rfl ?_ | refine wc rfl ?_ | refine wg rfl ?_ | refine go rfl ?_ | refine gc rfl ?_ | refine gg rfl ?_)
    have hcl : (canon cs).length = cs.length := canon_length cs
    have := uncodes_c (canon cs) true b' cap' sp' (⟨own, b, 0, codesV cs ++ sp⟩ :: ⟨true, b3, 0, [.bool true]⟩ :: ⟨true, b2, 0, [.slice none 0 0]⟩ :: ⟨true, b1, 0, [.slice (some ⟨b, 0, none⟩) cs.length cap]⟩ :: F) (by omega)
    rw [hcl] at this
    refine O_call rfl rfl Tb.k43 trivial rfl this ?_
    rintro v M' ⟨m, hown, hrk2⟩
    have hrk3 : Rk M' (⟨true, b3, 0, [.bool true]⟩ :: ⟨true, b2, 0, [.slice none 0 0]⟩ :: (m ++ (⟨own, b, 0, codesV cs ++ sp⟩ :: F))) := by
      refine .trans hrk2 (.drop (.trans (.perm (List.perm_append_comm)) ?_))
      refine .cons (s := ⟨true, b3, 0, [.bool true]⟩) (by exact TakeI.out) (.cons (s := ⟨true, b2, 0, [.slice none 0 0]⟩) (by exact TakeI.out) ?_)
      show Rk ((⟨own, b, 0, codesV cs ++ sp⟩ :: ⟨true, b1, 0, [.slice (some ⟨b, 0, none⟩) cs.length cap]⟩ :: F) ++ m) _
      exact .trans (.perm List.perm_append_comm) (Rk.app m (.cons .head (.drop .rfl)))
    refine O_weak hrk3 ?_
    have h1 := own_one hown
    repeat' (first | (refine isO ?_; first | refine oo (Pc rfl) ?_ | refine oo (Pa rfl (by omega) (by omega)) ?_ | (refine ob rfl ?_ ?_ <;> intro hq <;> try (exfalso; omega)) | refine oo (Pi rfl (by omega)) ?_ | refine oo (Pl rfl) ?_ | refine oo (Px rfl rfl) ?_ | refine oo (Pj rfl (by omega) (by omega)) ?_ | refine oo (Pk rfl (by omega) (by omega)) ?_ | refine oo (Pf rfl) ?_ | refine oo (Pv rfl (by omega) (by omega)) ?_ | refine oo (Pn rfl) ?_ | refine oo (Pm rfl) ?_ | refine os rfl rfl ?_ | refine ot rfl (by omega) ?_ | refine O_nil ?_) | refine wo rfl ?_ | refine wc rfl ?_ | refine wg rfl ?_ | refine go rfl ?_ | refine gc rfl ?_ | refine gg rfl ?_)
    refine O_store0 Tb.c23 rfl rfl h1 trivial (by first | exact .head | exact .tail .head | exact .tail (.tail .head) | exact .tail (.tail (.tail .head)) | exact .tail (.tail (.tail (.tail .head)))) ?_
    repeat' (first | (refine isO ?_; first | refine oo (Pc rfl) ?_ | refine oo (Pa rfl (by omega) (by omega)) ?_ | (refine ob rfl ?_ ?_ <;> intro hq <;> try (exfalso; omega)) | refine oo (Pi rfl (by omega)) ?_ | refine oo (Pl rfl) ?_ | refine oo (Px rfl rfl) ?_ | refine oo (Pj rfl (by omega) (by omega)) ?_ | refine oo (Pk rfl (by omega) (by omega)) ?_ | refine oo (Pf rfl) ?_ | refine oo (Pv rfl (by omega) (by omega)) ?_ | refine oo (Pn rfl) ?_ | refine oo (Pm rfl) ?_ | refine os rfl rfl ?_ | refine ot rfl (by omega) ?_ | refine O_nil ?_) | refine wo rfl ?_ | refine wc rfl ?_ | refine wg rfl ?_ | refine go rfl ?_ | refine gc rfl ?_ | refine gg rfl ?_)
    exact G_fin ⟨_, rfl, true, _, _, m, .inl ⟨hw, rfl, rfl⟩, hown, .rfl⟩
  · refine O_weak hrk ?_
    refine O_pure (P_err_eq Tb.i82 rfl rfl) trivial rfl ?_
    repeat' (first | (refine isO ?_; first | refine oo (Pc rfl) ?_ | refine oo (Pa rfl (by omega) (by omega)) ?_ | (refine ob rfl ?_ ?_ <;> intro hq <;> try (exfalso; omega)) | refine oo (Pi rfl (by omega)) ?_ | refine oo (Pl rfl) ?_ | refine oo (Px rfl rfl) ?_ | refine oo (Pj rfl (by omega) (by omega)) ?_ | refine oo (Pk rfl (by omega) (by omega)) ?_ | refine oo (Pf rfl) ?_ | refine oo (Pv rfl (by omega) (by omega)) ?_ | refine oo (Pn rfl) ?_ | refine oo (Pm rfl) ?_ | refine os rfl rfl ?_ | refine ot rfl (by omega) ?_ | refine O_nil ?_) | refine wo rfl ?_ | refine wc rfl ?_ | refine wg rfl ?_ | refine go rfl ?_ | refine gc rfl ?_ | refine gg rfl ?_)
    refine O_call rfl rfl Tb.k43 trivial rfl (uncodes_c cs true b' cap' sp' _ (by omega)) ?_
    rintro v M' ⟨m, hown, hrk2⟩
    have hrk3 : Rk M' (⟨true, b3, 0, [.bool false]⟩ :: ⟨true, b2, 0, [.slice none 0 0]⟩ :: (m ++ (⟨own, b, 0, codesV cs ++ sp⟩ :: F))) := by
      refine .trans hrk2 (.drop (.trans (.perm (List.perm_append_comm)) ?_))
      refine .cons (s := ⟨true, b3, 0, [.bool false]⟩) (by exact TakeI.out) (.cons (s := ⟨true, b2, 0, [.slice none 0 0]⟩) (by exact TakeI.out) ?_)
      show Rk ((⟨own, b, 0, codesV cs ++ sp⟩ :: ⟨true, b1, 0, [.slice (some ⟨b, 0, none⟩) cs.length cap]⟩ :: F) ++ m) _
      exact .trans (.perm List.perm_append_comm) (Rk.app m (.cons .head (.drop .rfl)))
    refine O_weak hrk3 ?_
    have h1 := own_one hown
    repeat' (first | (refine isO ?_; first | refine oo (Pc rfl) ?_ | refine oo (Pa rfl (by omega) (by omega)) ?_ | (refine ob rfl ?_ ?_ <;> intro hq <;> try (exfalso; omega)) | refine oo (Pi rfl (by omega)) ?_ | refine oo (Pl rfl) ?_ | refine oo (Px rfl rfl) ?_ | refine oo (Pj rfl (by omega) (by omega)) ?_ | refine oo (Pk rfl (by omega) (by omega)) ?_ | refine oo (Pf rfl) ?_ | refine oo (Pv rfl (by omega) (by omega)) ?_ | refine oo (Pn rfl) ?_ | refine oo (Pm rfl) ?_ | refine os rfl rfl ?_ | refine ot rfl (by omega) ?_ | refine O_nil ?_) | refine wo rfl ?_ | refine wc rfl ?_ | refine wg rfl ?_ | refine go rfl ?_ | refine gc rfl ?_ | refine gg rfl ?_)
    refine O_store0 Tb.c23 rfl rfl h1 trivial (by first | exact .head | exact .tail .head | exact .tail (.tail .head) | exact .tail (.tail (.tail .head)) | exact .tail (.tail (.tail (.tail .head)))) ?_
    repeat' (first | (refine isO ?_; first | refine oo (Pc rfl) ?_ | refine oo (Pa rfl (by omega) (by omega)) ?_ | (refine ob rfl ?_ ?_ <;> intro hq <;> try (exfalso; omega)) | refine oo (Pi rfl (by omega)) ?_ | refine oo (Pl rfl) ?_ | refine oo (Px rfl rfl) ?_ | refine oo (Pj rfl (by omega) (by omega)) ?_ | refine oo (Pk rfl (by omega) (by omega)) ?_ | refine oo (Pf rfl) ?_ | refine oo (Pv rfl (by omega) (by omega)) ?_ | refine oo (Pn rfl) ?_ | refine oo (Pm rfl) ?_ | refine os rfl rfl ?_ | refine ot rfl (by omega) ?_ | refine O_nil ?_) | refine wo rfl ?_ | refine wc rfl ?_ | refine wg rfl ?_ | refine go rfl ?_ | refine gc rfl ?_ | refine gg rfl ?_)
    exact G_fin ⟨_, rfl, false, _, _, m, .inr ⟨hw, rfl, rfl⟩, hown, .rfl⟩

theorem prefixes_c (cs : List Cd) (hG : Good cs) (own : Bool) (b cap : Nat) (sp : List Value) (F : Mem) :
    HC Try.prog 14 #[.slice (some ⟨b, 0, none⟩) cs.length cap] (⟨own, b, 0, codesV cs ++ sp⟩ :: F)
      (fun v M' => (whole cs ∧ ∃ sv m, Own sv 4 (codesV (canon cs)) m ∧ v = .tuple #[sv, .bool true] ∧ Rk M' (m ++ (⟨own, b, 0, codesV cs ++ sp⟩ :: F))) ∨
        (¬ whole cs ∧ v = .tuple #[.slice none 0 0, .bool false] ∧ Rk M' (⟨own, b, 0, codesV cs ++ sp⟩ :: F))) := by
  refine HC_of_WM (fn := Try.f14) Try.func14 rfl rfl rfl rfl ?_
  repeat' (first | (refine isO ?_; first | refine oo (Pc rfl) ?_ | refine oo (Pa rfl (by omega) (by omega)) ?_ | (refine ob rfl ?_ ?_ <;> intro hq <;> try (exfalso; omega)) | refine oo (Pi rfl (by omega)) ?_ | refine oo (Pl rfl) ?_ | refine oo (Px rfl rfl) ?_ | refine oo (Pj rfl (by omega) (by omega)) ?_ | refine oo (Pk rfl (by omega) (by omega)) ?_ | refine oo (Pf rfl) ?_ | refine oo (Pv rfl (by omega) (by omega)) ?_ | refine oo (Pn rfl) ?_ | refine oo (Pm rfl) ?_ | refine os rfl rfl ?_ | refine ot rfl (by omega) ?_ | refine O_nil ?_) | refine wo rfl ?_ | refine wc rfl ?_ | refine wg rfl ?_ | refine go rfl ?_ | refine gc rfl ?_ | refine gg rfl ?_)
  refine O_box rfl trivial rfl fun b1 => ?_
  refine O_alloc zero23 trivial rfl fun b2 => ?_
  refine O_alloc zero4 trivial rfl fun b3 => ?_
  repeat' (first | (refine isO ?_; first | refine oo (Pc rfl) ?_ | refine oo (Pa rfl (by omega) (by omega)) ?_ | (refine ob rfl ?_ ?_ <;> intro hq <;> try (exfalso; omega)) | refine oo (Pi rfl (by omega)) ?_ | refine oo (Pl rfl) ?_ | refine oo (Px rfl rfl) ?_ | refine oo (Pj rfl (by omega) (by omega)) ?_ | refine oo (Pk rfl (by omega) (by omega)) ?_ | refine oo (Pf rfl) ?_ | refine oo (Pv rfl (by omega) (by omega)) ?_ | refine oo (Pn rfl) ?_ | refine oo (Pm rfl) ?_ | refine os rfl rfl ?_ | refine ot rfl (by omega) ?_ | refine O_nil ?_) | refine wo rfl ?_ | refine wc rfl ?_ | refine wg rfl ?_ | refine go rfl ?_ | refine gc rfl ?_ | refine gg rfl ?_)
  refine O_call rfl rfl Tb.k39 trivial rfl (safe_c (f := 40) (R := fun M' => ∃ r out sv m, Made cs r out ∧ Own sv 4 (codesV out) m ∧ Rk M' (⟨true, b3, 0, [.bool r]⟩ :: ⟨true, b2, 0, [sv]⟩ :: (m ++ (⟨own, b, 0, codesV cs ++ sp⟩ :: F)))) Tb.k40 fun bs => ?_) ?_
  · refine (HCp.take (L := ⟨own, b, 0, codesV cs ++ sp⟩ :: ⟨true, b3, 0, [.bool false]⟩ :: ⟨true, b2, 0, [.slice none 0 0]⟩ :: ⟨true, b1, 0, [.slice (some ⟨b, 0, none⟩) cs.length cap]⟩ :: ⟨true, bs, 0, [.bool false]⟩ :: F) (by repeat (first | exact .rfl | exact .nil | (apply Rk.cons; (· exact TakeI.out)) | refine .drop ?_)) (pfin_c cs hG b1 b2 b3 own b cap sp _)).mono ?_
    rintro v M' ⟨r, out, sv, m, h1, h2, h3⟩
    refine ⟨_, .trans h3 ?_, r, out, sv, m, h1, h2, .rfl⟩
    exact .perm (List.Perm.trans (.cons _ (.cons _ (List.Perm.trans (List.Perm.append_left m (.trans (.swap _ _ _) .rfl)) List.perm_middle))) (List.Perm.trans (.cons _ (.swap _ _ _)) (.swap _ _ _)))
  rintro v M' ⟨rfl, r, out, sv, m, h1, h2, h3⟩
  refine O_weak h3 ?_
  have hone := own_one h2
  rcases h1 with ⟨hw, rfl, rfl⟩ | ⟨hw, rfl, rfl⟩
  · repeat' (first | (refine isO ?_; first | refine oo (Pc rfl) ?_ | refine oo (Pa rfl (by omega) (by omega)) ?_ | (refine ob rfl ?_ ?_ <;> intro hq <;> try (exfalso; omega)) | refine oo (Pi rfl (by omega)) ?_ | refine oo (Pl rfl) ?_ | refine oo (Px rfl rfl) ?_ | refine oo (Pj rfl (by omega) (by omega)) ?_ | refine oo (Pk rfl (by omega) (by omega)) ?_ | refine oo (Pf rfl) ?_ | refine oo (Pv rfl (by omega) (by omega)) ?_ | refine oo (Pn rfl) ?_ | refine oo (Pm rfl) ?_ | refine os rfl rfl ?_ | refine ot rfl (by omega) ?_ | refine O_nil ?_) | refine wo rfl ?_ | refine wc rfl ?_ | refine wg rfl ?_ | refine go rfl ?_ | refine gc rfl ?_ | refine gg rfl ?_)
    refine O_store0 Tb.c23 rfl rfl hone trivial (by first | exact .head | exact .tail .head | exact .tail (.tail .head) | exact .tail (.tail (.tail .head)) | exact .tail (.tail (.tail (.tail .head)))) ?_
    repeat' (first | (refine isO ?_; first | refine oo (Pc rfl) ?_ | refine oo (Pa rfl (by omega) (by omega)) ?_ | (refine ob rfl ?_ ?_ <;> intro hq <;> try (exfalso; omega)) | refine oo (Pi rfl (by omega)) ?_ | refine oo (Pl rfl) ?_ | refine oo (Px rfl rfl) ?_ | refine oo (Pj rfl (by omega) (by omega)) ?_ | refine oo (Pk rfl (by omega) (by omega)) ?_ | refine oo (Pf rfl) ?_ | refine oo (Pv rfl (by omega) (by omega)) ?_ | refine oo (Pn rfl) ?_ | refine oo (Pm rfl) ?_ | refine os rfl rfl ?_ | refine ot rfl (by omega) ?_ | refine O_nil ?_) | refine wo rfl ?_ | refine wc rfl ?_ | refine wg rfl ?_ | refine go rfl ?_ | refine gc rfl ?_ | refine gg rfl ?_)
    refine G_fin ⟨[sv, .bool true], ⟨⟨_, _, _, _, _, rfl, by exact TakeI.out.mem, Try.underlying23, rfl⟩, ⟨_, _, _, _, _, rfl, by exact TakeI.out.mem, Try.underlying4, rfl⟩, trivial⟩, .inl ⟨hw, sv, m, h2, rfl, .drop (.drop .rfl)⟩⟩
  · repeat' (first | (refine isO ?_; first | refine oo (Pc rfl) ?_ | refine oo (Pa rfl (by omega) (by omega)) ?_ | (refine ob rfl ?_ ?_ <;> intro hq <;> try (exfalso; omega)) | refine oo (Pi rfl (by omega)) ?_ | refine oo (Pl rfl) ?_ | refine oo (Px rfl rfl) ?_ | refine oo (Pj rfl (by omega) (by omega)) ?_ | refine oo (Pk rfl (by omega) (by omega)) ?_ | refine oo (Pf rfl) ?_ | refine oo (Pv rfl (by omega) (by omega)) ?_ | refine oo (Pn rfl) ?_ | refine oo (Pm rfl) ?_ | refine os rfl rfl ?_ | refine ot rfl (by omega) ?_ | refine O_nil ?_) | refine wo rfl ?_ | refine wc rfl ?_ | refine wg rfl ?_ | refine go rfl ?_ | refine gc rfl ?_ | refine gg rfl ?_)
    refine G_fin ⟨[.slice none 0 0, .bool false], ⟨⟨_, _, _, _, _, rfl, by exact TakeI.out.mem, Try.underlying23, rfl⟩, ⟨_, _, _, _, _, rfl, by exact TakeI.out.mem, Try.underlying4, rfl⟩, trivial⟩, .inr ⟨hw, rfl, .drop (.drop ?_)⟩⟩
    exact .trans (.perm List.perm_append_comm) (Rk.left _ _)
end Go.Proofs.Ytjkpfliaflmppaa.Pc
