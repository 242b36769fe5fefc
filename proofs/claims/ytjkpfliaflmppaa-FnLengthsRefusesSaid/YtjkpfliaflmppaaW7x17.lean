/- impl.Lengths, walked. For 2 to 60 codes with counts below 2^24, limits from 1 to 20. Handed slices of 32-bit numbers; a slice of one's own; small facts. bytes.growSlice, walked: the bytes in a new row that has room for n more of them. For at most 2^40 bytes. -/
import Derived.Test.YtjkpfliaflmppaaW7x15
import Derived.Test.YtjkpfliaflmppaaW7x16
import Derived.Test.YtjkpfliaflmppaaW7x04
import Derived.Test.YtjkpfliaflmppaaW7x10
import Derived.Test.YtjkpfliaflmppaaW7x14
import Derived.Test.YtjkpfliaflmppaaW7x05
import Derived.Recover

namespace Go.Proofs.Ytjkpfliaflmppaa.Hu
open Go Go.RowKit Go.Proofs.Ytjkpfliaflmppaa.Vm Go.Proofs.Ytjkpfliaflmppaa.Pc Go.Proofs.Ytjkpfliaflmppaa.Sf

/-- What comes of codes. -/
def Came (cs : List Cd) (mb : Nat) (r : Bool) (out : List Cd) : Prop := (r = true ∧ AscC (cs.map Cd.cnt) ∧ Lens (cs.map Cd.cnt) cs out mb) ∨ (r = false ∧ ¬ AscC (cs.map Cd.cnt) ∧ out = cs)
theorem len67_x (cs : List Cd) (mb : Nat) (hn : 2 ≤ cs.length) (h60 : cs.length ≤ 60) (hc : ∀ c ∈ cs, c.cnt < 16777216) (hmb1 : 1 ≤ mb) (hmb2 : mb ≤ 20) (b0 b1 b2 b3 : Nat) (own : Bool) (b cap : Nat) (sp : List Value) (F : Mem) :
    HX Try.prog 67 #[.pointer (some ⟨b0, 0, none⟩), .pointer (some ⟨b1, 0, none⟩), .pointer (some ⟨b3, 0, none⟩), .pointer (some ⟨b2, 0, none⟩)]
      (⟨own, b, 0, codesV cs ++ sp⟩ :: ⟨true, b3, 0, [.bool false]⟩ :: ⟨true, b2, 0, [.slice none 0 0]⟩ :: ⟨true, b0, 0, [.slice (some ⟨b, 0, none⟩) cs.length cap]⟩ :: ⟨true, b1, 0, [.int .u64 mb]⟩ :: F)
      (fun _ M' => ∃ r out sv m, Came cs mb r out ∧ Own sv 4 (codesV out) m ∧ Rk M' (⟨true, b3, 0, [.bool r]⟩ :: ⟨true, b2, 0, [sv]⟩ :: (m ++ (⟨own, b, 0, codesV cs ++ sp⟩ :: F))))
      (fun M' => AscC (cs.map Cd.cnt) ∧ 2 ^ mb < cs.length ∧ Rk M' (⟨own, b, 0, codesV cs ++ sp⟩ :: ⟨true, b3, 0, [.bool false]⟩ :: ⟨true, b2, 0, [.slice none 0 0]⟩ :: F)) := by
  refine HX_of_W (fn := Try.f67) Try.func67 rfl rfl rfl rfl ?_
  repeat' (first | (refine isO ?_; first | refine oo (Pc rfl) ?_ | refine oo (Pa rfl (by omega) (by omega)) ?_ | (refine ob rfl ?_ ?_ <;> intro hq <;> try (exfalso; omega)) | refine oo (Pi rfl (by omega)) ?_ | refine oo (Pl rfl) ?_ | refine oo (Px rfl rfl) ?_ | refine oo (Pj rfl (by omega) (by omega)) ?_ | refine oo (Pk rfl (by omega) (by omega)) ?_ | refine oo (Pf rfl) ?_ | refine oo (Pv rfl (by omega) (by omega)) ?_ | refine oo (Pn rfl) ?_ | refine oo (Pm rfl) ?_ | refine os rfl rfl ?_ | refine ot rfl (by omega) ?_ | refine O_nil ?_) | refine wo rfl ?_ | refine wc rfl ?_ | refine wg rfl ?_ | refine go rfl ?_ | refine gc rfl ?_ | refine gg rfl ?_)
  refine O_call rfl rfl Tb.k41 trivial rfl (codes_c cs own b cap sp _ (by omega)) ?_
  rintro v M' ⟨b', cap', sp', rfl, hcap', rfl⟩
  repeat' (first | (refine isO ?_; first | refine oo (Pc rfl) ?_ | refine oo (Pa rfl (by omega) (by omega)) ?_ | (refine ob rfl ?_ ?_ <;> intro hq <;> try (exfalso; omega)) | refine oo (Pi rfl (by omega)) ?_ | refine oo (Pl rfl) ?_ | refine oo (Px rfl rfl) ?_ | refine oo (Pj rfl (by omega) (by omega)) ?_ | refine oo (Pk rfl (by omega) (by omega)) ?_ | refine oo (Pf rfl) ?_ | refine oo (Pv rfl (by omega) (by omega)) ?_ | refine oo (Pn rfl) ?_ | refine oo (Pm rfl) ?_ | refine os rfl rfl ?_ | refine ot rfl (by omega) ?_ | refine O_nil ?_) | refine wo rfl ?_ | refine wc rfl ?_ | refine wg rfl ?_ | refine go rfl ?_ | refine gc rfl ?_ | refine gg rfl ?_)
  refine O_callX rfl rfl Tb.k68 trivial rfl (gen68_x cs b' cap' mb sp' _ hn h60 hc hmb1 hmb2 hcap') ?_ (fun t x M' ⟨h1, h2, h3⟩ => ⟨⟨t, x, rfl⟩, h1, h2, .trans h3 (.cons .head (.cons .head (.cons .head (.drop (.drop .rfl)))))⟩)
  rintro v M' (⟨rfl, ha, ds, hl, hrk⟩ | ⟨⟨t, x, rfl⟩, ha, hrk⟩)
  · refine O_weak hrk ?_
    refine O_pure (P_err_eq Tb.i82 rfl rfl) trivial rfl ?_
    repeat' (first | (refine isO ?_; first | refine oo (Pc rfl) ?_ | refine oo (Pa rfl (by omega) (by omega)) ?_ | (refine ob rfl ?_ ?_ <;> intro hq <;> try (exfalso; omega)) | refine oo (Pi rfl (by omega)) ?_ | refine oo (Pl rfl) ?_ | refine oo (Px rfl rfl) ?_ | refine oo (Pj rfl (by omega) (by omega)) ?_ | refine oo (Pk rfl (by omega) (by omega)) ?_ | refine oo (Pf rfl) ?_ | refine oo (Pv rfl (by omega) (by omega)) ?_ | refine oo (Pn rfl) ?_ | refine oo (Pm rfl) ?_ | refine os rfl rfl ?_ | refine ot rfl (by omega) ?_ | refine O_nil ?_) | refine wo rfl ?_ | refine wc rfl ?_ | refine wg rfl ?_ | refine go rfl ?_ | refine gc rfl ?_ | refine gg rfl ?_)
    have hcl : ds.length = cs.length := hl.same.1
    have := uncodes_c ds true b' cap' sp' (⟨own, b, 0, codesV cs ++ sp⟩ :: ⟨true, b3, 0, [.bool true]⟩ :: ⟨true, b2, 0, [.slice none 0 0]⟩ :: ⟨true, b0, 0, [.slice (some ⟨b, 0, none⟩) cs.length cap]⟩ :: ⟨true, b1, 0, [.int .u64 mb]⟩ :: F) (by omega)
    rw [hcl] at this
    refine O_call rfl rfl Tb.k43 trivial rfl this ?_
    rintro v M' ⟨m, hown, hrk2⟩
    have hrk3 : Rk M' (⟨true, b3, 0, [.bool true]⟩ :: ⟨true, b2, 0, [.slice none 0 0]⟩ :: (m ++ (⟨own, b, 0, codesV cs ++ sp⟩ :: F))) := by
      refine .trans hrk2 (.drop (.trans (.perm (List.perm_append_comm)) ?_))
      refine .cons (s := ⟨true, b3, 0, [.bool true]⟩) (by exact TakeI.out) (.cons (s := ⟨true, b2, 0, [.slice none 0 0]⟩) (by exact TakeI.out) ?_)
      show Rk ((⟨own, b, 0, codesV cs ++ sp⟩ :: ⟨true, b0, 0, [.slice (some ⟨b, 0, none⟩) cs.length cap]⟩ :: ⟨true, b1, 0, [.int .u64 mb]⟩ :: F) ++ m) _
      exact .trans (.perm List.perm_append_comm) (Rk.app m (.cons .head (.drop (.drop .rfl))))
    refine O_weak hrk3 ?_
    have h1 := own_one hown
    repeat' (first | (refine isO ?_; first | refine oo (Pc rfl) ?_ | refine oo (Pa rfl (by omega) (by omega)) ?_ | (refine ob rfl ?_ ?_ <;> intro hq <;> try (exfalso; omega)) | refine oo (Pi rfl (by omega)) ?_ | refine oo (Pl rfl) ?_ | refine oo (Px rfl rfl) ?_ | refine oo (Pj rfl (by omega) (by omega)) ?_ | refine oo (Pk rfl (by omega) (by omega)) ?_ | refine oo (Pf rfl) ?_ | refine oo (Pv rfl (by omega) (by omega)) ?_ | refine oo (Pn rfl) ?_ | refine oo (Pm rfl) ?_ | refine os rfl rfl ?_ | refine ot rfl (by omega) ?_ | refine O_nil ?_) | refine wo rfl ?_ | refine wc rfl ?_ | refine wg rfl ?_ | refine go rfl ?_ | refine gc rfl ?_ | refine gg rfl ?_)
    refine O_store0 Tb.c23 rfl rfl h1 trivial (by first | exact .head | exact .tail .head | exact .tail (.tail .head) | exact .tail (.tail (.tail .head)) | exact .tail (.tail (.tail (.tail .head)))) ?_
    repeat' (first | (refine isO ?_; first | refine oo (Pc rfl) ?_ | refine oo (Pa rfl (by omega) (by omega)) ?_ | (refine ob rfl ?_ ?_ <;> intro hq <;> try (exfalso; omega)) | refine oo (Pi rfl (by omega)) ?_ | refine oo (Pl rfl) ?_ | refine oo (Px rfl rfl) ?_ | refine oo (Pj rfl (by omega) (by omega)) ?_ | refine oo (Pk rfl (by omega) (by omega)) ?_ | refine oo (Pf rfl) ?_ | refine oo (Pv rfl (by omega) (by omega)) ?_ | refine oo (Pn rfl) ?_ | refine oo (Pm rfl) ?_ | refine os rfl rfl ?_ | refine ot rfl (by omega) ?_ | refine O_nil ?_) | refine wo rfl ?_ | refine wc rfl ?_ | refine wg rfl ?_ | refine go rfl ?_ | refine gc rfl ?_ | refine gg rfl ?_)
    exact G_fin ⟨_, rfl, true, _, _, m, .inl ⟨rfl, ha, hl⟩, hown, .rfl⟩
  · refine O_weak hrk ?_
    refine O_pure (P_err_eq Tb.i82 rfl rfl) trivial rfl ?_
    repeat' (first | (refine isO ?_; first | refine oo (Pc rfl) ?_ | refine oo (Pa rfl (by omega) (by omega)) ?_ | (refine ob rfl ?_ ?_ <;> intro hq <;> try (exfalso; omega)) | refine oo (Pi rfl (by omega)) ?_ | refine oo (Pl rfl) ?_ | refine oo (Px rfl rfl) ?_ | refine oo (Pj rfl (by omega) (by omega)) ?_ | refine oo (Pk rfl (by omega) (by omega)) ?_ | refine oo (Pf rfl) ?_ | refine oo (Pv rfl (by omega) (by omega)) ?_ | refine oo (Pn rfl) ?_ | refine oo (Pm rfl) ?_ | refine os rfl rfl ?_ | refine ot rfl (by omega) ?_ | refine O_nil ?_) | refine wo rfl ?_ | refine wc rfl ?_ | refine wg rfl ?_ | refine go rfl ?_ | refine gc rfl ?_ | refine gg rfl ?_)
    refine O_call rfl rfl Tb.k43 trivial rfl (uncodes_c cs true b' cap' sp' _ (by omega)) ?_
    rintro v M' ⟨m, hown, hrk2⟩
    have hrk3 : Rk M' (⟨true, b3, 0, [.bool false]⟩ :: ⟨true, b2, 0, [.slice none 0 0]⟩ :: (m ++ (⟨own, b, 0, codesV cs ++ sp⟩ :: F))) := by
      refine .trans hrk2 (.drop (.trans (.perm (List.perm_append_comm)) ?_))
      refine .cons (s := ⟨true, b3, 0, [.bool false]⟩) (by exact TakeI.out) (.cons (s := ⟨true, b2, 0, [.slice none 0 0]⟩) (by exact TakeI.out) ?_)
      show Rk ((⟨own, b, 0, codesV cs ++ sp⟩ :: ⟨true, b0, 0, [.slice (some ⟨b, 0, none⟩) cs.length cap]⟩ :: ⟨true, b1, 0, [.int .u64 mb]⟩ :: F) ++ m) _
      exact .trans (.perm List.perm_append_comm) (Rk.app m (.cons .head (.drop (.drop .rfl))))
    refine O_weak hrk3 ?_
    have h1 := own_one hown
    repeat' (first | (refine isO ?_; first | refine oo (Pc rfl) ?_ | refine oo (Pa rfl (by omega) (by omega)) ?_ | (refine ob rfl ?_ ?_ <;> intro hq <;> try (exfalso; omega)) | refine oo (Pi rfl (by omega)) ?_ | refine oo (Pl rfl) ?_ | refine oo (Px rfl rfl) ?_ | refine oo (Pj rfl (by omega) (by omega)) ?_ | refine oo (Pk rfl (by omega) (by omega)) ?_ | refine oo (Pf rfl) ?_ | refine oo (Pv rfl (by omega) (by omega)) ?_ | refine oo (Pn rfl) ?_ | refine oo (Pm rfl) ?_ | refine os rfl rfl ?_ | refine ot rfl (by omega) ?_ | refine O_nil ?_) | refine wo rfl ?_ | refine wc rfl ?_ | refine wg rfl ?_ | refine go rfl ?_ | refine gc rfl ?_ | refine gg rfl ?_)
    refine O_store0 Tb.c23 rfl rfl h1 trivial (by first | exact .head | exact .tail .head | exact .tail (.tail .head) | exact .tail (.tail (.tail .head)) | exact .tail (.tail (.tail (.tail .head)))) ?_
    repeat' (first | (refine isO ?_; first | refine oo (Pc rfl) ?_ | refine oo (Pa rfl (by omega) (by omega)) ?_ | (refine ob rfl ?_ ?_ <;> intro hq <;> try (exfalso; omega)) | refine oo (Pi rfl (by omega)) ?_ | refine oo (Pl rfl) ?_ | refine oo (Px rfl rfl) ?_ | refine oo (Pj rfl (by omega) (by omega)) ?_ | refine oo (Pk rfl (by omega) (by omega)) ?_ | refine oo (Pf rfl) ?_ | refine oo (Pv rfl (by omega) (by omega)) ?_ | refine oo (Pn rfl) ?_ | refine oo (Pm rfl) ?_ | refine os rfl rfl ?_ | refine ot rfl (by omega) ?_ | refine O_nil ?_) | refine wo rfl ?_ | refine wc rfl ?_ | refine wg rfl ?_ | refine go rfl ?_ | refine gc rfl ?_ | refine gg rfl ?_)
    exact G_fin ⟨_, rfl, false, _, _, m, .inr ⟨rfl, ha, rfl⟩, hown, .rfl⟩

theorem lengths27_c (cs : List Cd) (mb : Nat) (hn : 2 ≤ cs.length) (h60 : cs.length ≤ 60) (hc : ∀ c ∈ cs, c.cnt < 16777216) (hmb1 : 1 ≤ mb) (hmb2 : mb ≤ 20) (own : Bool) (b cap : Nat) (sp : List Value) (F : Mem) :
    HC Try.prog 27 #[.slice (some ⟨b, 0, none⟩) cs.length cap, .int .u64 mb] (⟨own, b, 0, codesV cs ++ sp⟩ :: F)
      (fun v M' => (AscC (cs.map Cd.cnt) ∧ ∃ out sv m, Lens (cs.map Cd.cnt) cs out mb ∧ Own sv 4 (codesV out) m ∧ v = .tuple #[sv, .bool true] ∧ Rk M' (m ++ (⟨own, b, 0, codesV cs ++ sp⟩ :: F))) ∨
        ((¬ AscC (cs.map Cd.cnt) ∨ 2 ^ mb < cs.length) ∧ v = .tuple #[.slice none 0 0, .bool false] ∧ Rk M' (⟨own, b, 0, codesV cs ++ sp⟩ :: F))) := by
  refine HC_of_WM (fn := Try.f27) Try.func27 rfl rfl rfl rfl ?_
  repeat' (first | (refine isO ?_; first | refine oo (Pc rfl) ?_ | refine oo (Pa rfl (by omega) (by omega)) ?_ | (refine ob rfl ?_ ?_ <;> intro hq <;> try (exfalso; omega)) | refine oo (Pi rfl (by omega)) ?_ | refine oo (Pl rfl) ?_ | refine oo (Px rfl rfl) ?_ | refine oo (Pj rfl (by omega) (by omega)) ?_ | refine oo (Pk rfl (by omega) (by omega)) ?_ | refine oo (Pf rfl) ?_ | refine oo (Pv rfl (by omega) (by omega)) ?_ | refine oo (Pn rfl) ?_ | refine oo (Pm rfl) ?_ | refine os rfl rfl ?_ | refine ot rfl (by omega) ?_ | refine O_nil ?_) | refine wo rfl ?_ | refine wc rfl ?_ | refine wg rfl ?_ | refine go rfl ?_ | refine gc rfl ?_ | refine gg rfl ?_)
  refine O_box rfl trivial rfl fun b0 => ?_
  refine O_box rfl trivial rfl fun b1 => ?_
  refine O_alloc zero23 trivial rfl fun b2 => ?_
  refine O_alloc zero4 trivial rfl fun b3 => ?_
  repeat' (first | (refine isO ?_; first | refine oo (Pc rfl) ?_ | refine oo (Pa rfl (by omega) (by omega)) ?_ | (refine ob rfl ?_ ?_ <;> intro hq <;> try (exfalso; omega)) | refine oo (Pi rfl (by omega)) ?_ | refine oo (Pl rfl) ?_ | refine oo (Px rfl rfl) ?_ | refine oo (Pj rfl (by omega) (by omega)) ?_ | refine oo (Pk rfl (by omega) (by omega)) ?_ | refine oo (Pf rfl) ?_ | refine oo (Pv rfl (by omega) (by omega)) ?_ | refine oo (Pn rfl) ?_ | refine oo (Pm rfl) ?_ | refine os rfl rfl ?_ | refine ot rfl (by omega) ?_ | refine O_nil ?_) | refine wo rfl ?_ | refine wc rfl ?_ | refine wg rfl ?_ | refine go rfl ?_ | refine gc rfl ?_ | refine gg rfl ?_)
  refine O_call rfl rfl Tb.k39 trivial rfl (safe_x (f := 67) (R := fun M' => ∃ r out sv m, Came cs mb r out ∧ Own sv 4 (codesV out) m ∧ Rk M' (⟨true, b3, 0, [.bool r]⟩ :: ⟨true, b2, 0, [sv]⟩ :: (m ++ (⟨own, b, 0, codesV cs ++ sp⟩ :: F))))
    (X := fun M' => 2 ^ mb < cs.length ∧ Rk M' (⟨true, b3, 0, [.bool false]⟩ :: ⟨true, b2, 0, [.slice none 0 0]⟩ :: ⟨own, b, 0, codesV cs ++ sp⟩ :: F)) Tb.k67 fun bs => ?_) ?_
  · refine (HX.take (L := ⟨own, b, 0, codesV cs ++ sp⟩ :: ⟨true, b3, 0, [.bool false]⟩ :: ⟨true, b2, 0, [.slice none 0 0]⟩ :: ⟨true, b0, 0, [.slice (some ⟨b, 0, none⟩) cs.length cap]⟩ :: ⟨true, b1, 0, [.int .u64 mb]⟩ :: ⟨true, bs, 0, [.bool false]⟩ :: F) (by repeat (first | exact .rfl | exact .nil | (apply Rk.cons; (· exact TakeI.out)) | refine .drop ?_)) (len67_x cs mb hn h60 hc hmb1 hmb2 b0 b1 b2 b3 own b cap sp _)).mono ?_ ?_
    · rintro v M' ⟨r, out, sv, m, h1, h2, h3⟩
      refine ⟨_, .trans h3 ?_, r, out, sv, m, h1, h2, .rfl⟩
      exact .perm (List.Perm.trans (.cons _ (.cons _ (List.Perm.trans (List.Perm.append_left m (.trans (.swap _ _ _) .rfl)) List.perm_middle))) (List.Perm.trans (.cons _ (.swap _ _ _)) (.swap _ _ _)))
    · rintro M' ⟨_, h2, h3⟩
      exact ⟨_, .trans h3 (.cons (.tail (.tail (.tail .head))) .rfl), h2, .cons (.tail .head) (.cons (.tail .head) .rfl)⟩
  rintro v M' (⟨rfl, r, out, sv, m, h1, h2, h3⟩ | ⟨rfl, h1, h3⟩)
  · refine O_weak h3 ?_
    have hone := own_one h2
    rcases h1 with ⟨rfl, ha, hl⟩ | ⟨rfl, ha, rfl⟩
    · repeat' (first | (refine isO ?_; first | refine oo (Pc rfl) ?_ | refine oo (Pa rfl (by omega) (by omega)) ?_ | (refine ob rfl ?_ ?_ <;> intro hq <;> try (exfalso; omega)) | refine oo (Pi rfl (by omega)) ?_ | refine oo (Pl rfl) ?_ | refine oo (Px rfl rfl) ?_ | refine oo (Pj rfl (by omega) (by omega)) ?_ | refine oo (Pk rfl (by omega) (by omega)) ?_ | refine oo (Pf rfl) ?_ | refine oo (Pv rfl (by omega) (by omega)) ?_ | refine oo (Pn rfl) ?_ | refine oo (Pm rfl) ?_ | refine os rfl rfl ?_ | refine ot rfl (by omega) ?_ | refine O_nil ?_) | refine wo rfl ?_ | refine wc rfl ?_ | refine wg rfl ?_ | refine go rfl ?_ | refine gc rfl ?_ | refine gg rfl ?_)
      refine O_store0 Tb.c23 rfl rfl hone trivial (by first | exact .head | exact .tail .head | exact .tail (.tail .head) | exact .tail (.tail (.tail .head)) | exact .tail (.tail (.tail (.tail .head)))) ?_
      repeat' (first | (refine isO ?_; first | refine oo (Pc rfl) ?_ | refine oo (Pa rfl (by omega) (by omega)) ?_ | (refine ob rfl ?_ ?_ <;> intro hq <;> try (exfalso; omega)) | refine oo (Pi rfl (by omega)) ?_ | refine oo (Pl rfl) ?_ | refine oo (Px rfl rfl) ?_ | refine oo (Pj rfl (by omega) (by omega)) ?_ | refine oo (Pk rfl (by omega) (by omega)) ?_ | refine oo (Pf rfl) ?_ | refine oo (Pv rfl (by omega) (by omega)) ?_ | refine oo (Pn rfl) ?_ | refine oo (Pm rfl) ?_ | refine os rfl rfl ?_ | refine ot rfl (by omega) ?_ | refine O_nil ?_) | refine wo rfl ?_ | refine wc rfl ?_ | refine wg rfl ?_ | refine go rfl ?_ | refine gc rfl ?_ | refine gg rfl ?_)
      refine G_fin ⟨[sv, .bool true], ⟨⟨_, _, _, _, _, rfl, by exact TakeI.out.mem, Try.underlying23, rfl⟩, ⟨_, _, _, _, _, rfl, by exact TakeI.out.mem, Try.underlying4, rfl⟩, trivial⟩, .inl ⟨ha, out, sv, m, hl, h2, rfl, .drop (.drop .rfl)⟩⟩
    · repeat' (first | (refine isO ?_; first | refine oo (Pc rfl) ?_ | refine oo (Pa rfl (by omega) (by omega)) ?_ | (refine ob rfl ?_ ?_ <;> intro hq <;> try (exfalso; omega)) | refine oo (Pi rfl (by omega)) ?_ | refine oo (Pl rfl) ?_ | refine oo (Px rfl rfl) ?_ | refine oo (Pj rfl (by omega) (by omega)) ?_ | refine oo (Pk rfl (by omega) (by omega)) ?_ | refine oo (Pf rfl) ?_ | refine oo (Pv rfl (by omega) (by omega)) ?_ | refine oo (Pn rfl) ?_ | refine oo (Pm rfl) ?_ | refine os rfl rfl ?_ | refine ot rfl (by omega) ?_ | refine O_nil ?_) | refine wo rfl ?_ | refine wc rfl ?_ | refine wg rfl ?_ | refine go rfl ?_ | refine gc rfl ?_ | refine gg rfl ?_)
      refine G_fin ⟨[.slice none 0 0, .bool false], ⟨⟨_, _, _, _, _, rfl, by exact TakeI.out.mem, Try.underlying23, rfl⟩, ⟨_, _, _, _, _, rfl, by exact TakeI.out.mem, Try.underlying4, rfl⟩, trivial⟩, .inr ⟨.inl ha, rfl, .drop (.drop ?_)⟩⟩
      exact .trans (.perm List.perm_append_comm) (Rk.left _ _)
  · refine O_weak h3 ?_
    repeat' (first | (refine isO ?_; first | refine oo (Pc rfl) ?_ | refine oo (Pa rfl (by omega) (by omega)) ?_ | (refine ob rfl ?_ ?_ <;> intro hq <;> try (exfalso; omega)) | refine oo (Pi rfl (by omega)) ?_ | refine oo (Pl rfl) ?_ | refine oo (Px rfl rfl) ?_ | refine oo (Pj rfl (by omega) (by omega)) ?_ | refine oo (Pk rfl (by omega) (by omega)) ?_ | refine oo (Pf rfl) ?_ | refine oo (Pv rfl (by omega) (by omega)) ?_ | refine oo (Pn rfl) ?_ | refine oo (Pm rfl) ?_ | refine os rfl rfl ?_ | refine ot rfl (by omega) ?_ | refine O_nil ?_) | refine wo rfl ?_ | refine wc rfl ?_ | refine wg rfl ?_ | refine go rfl ?_ | refine gc rfl ?_ | refine gg rfl ?_)
    exact G_fin ⟨[.slice none 0 0, .bool false], ⟨⟨_, _, _, _, _, rfl, by exact TakeI.out.mem, Try.underlying23, rfl⟩, ⟨_, _, _, _, _, rfl, by exact TakeI.out.mem, Try.underlying4, rfl⟩, trivial⟩, .inr ⟨.inr h1, rfl, .drop (.drop .rfl)⟩⟩
/-- Lengths up to a limit: no more codes than fit. -/
theorem Lens.fits {c : List Nat} {cs ds : List Cd} {mb : Nat} (h : Lens c cs ds mb) (hmb : mb ≤ 64) : cs.length ≤ 2 ^ mb := by
  have key : ∀ n, n ≤ cs.length → n * 2 ^ (64 - mb) ≤ sm (fun x => 2 ^ (64 - lenOf ds x)) 0 n := by
    intro n
    induction n with
    | zero => intro _; rw [Nat.zero_mul]; exact Nat.zero_le _
    | succ n ih =>
      intro hn
      have := ih (by omega)
      rw [sm_last (Nat.zero_le n), Nat.add_mul, Nat.one_mul]
      have h2 := (h.pos n (by omega)).2
      have := Nat.pow_le_pow_right (show 0 < 2 by omega) (show 64 - mb ≤ 64 - lenOf ds n by omega)
      omega
  have h1 := key _ (Nat.le_refl _)
  rw [h.kra, show 64 = mb + (64 - mb) by omega, Nat.pow_add, show mb + (64 - mb) - mb = 64 - mb by omega] at h1
  exact Nat.le_of_mul_le_mul_right h1 (Nat.two_pow_pos _)
end Go.Proofs.Ytjkpfliaflmppaa.Hu

namespace Go.Proofs.Ytjkpfliaflmppaa.Pc
open Go Go.RowKit Go.Proofs.Ytjkpfliaflmppaa.Vm

/-- A handed slice of 32-bit numbers. -/
def Ws (s : Value) (xs : List Nat) (M : Mem) : Prop :=
  (∀ x ∈ xs, x < 4294967296) ∧ ∃ ad cap, s = .slice ad xs.length cap ∧ (xs = [] ∨ ∃ b o, ad = some ⟨b, o, none⟩ ∧ (⟨false, b, o, ints .u32 (xs.map Nat.cast)⟩ : Sg) ∈ M)
theorem Ws.at {s : Value} {xs : List Nat} {M : Mem} {i : Nat} (h : Ws s xs M) (hi : i < xs.length) :
    ∃ b o cap, s = .slice (some ⟨b, o, none⟩) xs.length cap ∧ (⟨false, b, o, ints .u32 (xs.map Nat.cast)⟩ : Sg) ∈ M ∧ (ints .u32 (xs.map Nat.cast))[i]? = some (.int .u32 (xs.getD i 0 : Nat)) ∧ xs.getD i 0 < 4294967296 := by
  obtain ⟨h1, ad, cap, rfl, rfl | ⟨b, o, rfl, hm⟩⟩ := h
  · simp at hi
  · refine ⟨b, o, cap, rfl, hm, ?_, ?_⟩
    · rw [ints_get (by simpa using hi)]
      simp [hi]
    · rw [show xs.getD i 0 = xs[i] by simp [hi]]
      exact h1 _ (List.getElem_mem hi)
theorem Ws.mono {s : Value} {xs : List Nat} {M M' : Mem} (h : Ws s xs M) (hm : ∀ x ∈ M, x ∈ M') : Ws s xs M' := by
  obtain ⟨h1, ad, cap, h2, h3⟩ := h
  exact ⟨h1, ad, cap, h2, h3.imp id fun ⟨b, o, h4, h5⟩ => ⟨b, o, h4, hm _ h5⟩⟩

theorem own_slice {v : Value} {cs : List Cd} {m : Mem} (h : Own v 4 (codesV cs) m) : ∃ ad cap, v = .slice ad cs.length cap := by
  rcases h with ⟨rfl, he, rfl⟩ | ⟨b, n, c, sp, rfl, rfl, hl, hc⟩
  · have := codesV_length cs
    rw [he] at this
    exact ⟨none, 0, by rw [show cs.length = 0 by simp only [List.length_nil] at this; omega]⟩
  · exact ⟨some ⟨b, 0, none⟩, c, by rw [show n = cs.length by have := codesV_length cs; omega]⟩
theorem own_row {v : Value} {cs : List Cd} {m : Mem} (h : Own v 4 (codesV cs) m) (hn : 0 < cs.length) : ∃ b cap sp, v = .slice (some ⟨b, 0, none⟩) cs.length cap ∧ m = [⟨true, b, 0, codesV cs ++ sp⟩] := by
  rcases h with ⟨rfl, he, rfl⟩ | ⟨b, n, c, sp, rfl, rfl, hl, hc⟩
  · have := codesV_length cs
    rw [he] at this
    simp only [List.length_nil] at this
    omega
  · exact ⟨b, c, sp, by rw [show n = cs.length by have := codesV_length cs; omega], rfl⟩

theorem build42c (a : Int) (c n : Nat) (h : a = (n : Int)) (w : World) : (Instr.build 42 [(0, .int .u32 a), (1, .int .u32 (c : Int))].toArray).run Try.prog w = .ok (.agg [.int .u32 (n : Int), .int .u32 (c : Nat), .int .u32 (0 : Nat), .int .u32 (0 : Nat)].toArray) w := by
  subst h
  kernel_rfl

theorem info46 : (Try.prog.info? 46).map (fun i => (i.size, i.bytes, i.zero)) = some (1, 24, some (.slice none 0 0)) := by kernel_rfl

theorem P_one_shl {P : Program} {N : Fm} {E : Env} {M : Mem} {t t2 : TypeId} {x y : Operand} {k2 : IntKind} {q : Nat} (hx : ev E x = some (.int .i64 1)) (hy : ev E y = some (.int k2 (q : Int))) (hq : q ≤ 40) :
    Pure P N E M (.binOp .shl t x y t2) (.int .i64 ((2 ^ q : Nat) : Int)) := by
  refine P_is (P_shl hx hy (by omega)) (congrArg (Value.int .i64) ?_)
  show IntKind.i64.wrap ((1 : Int) * 2 ^ min ((q : Int).toNat) 64) = _
  have e : min ((q : Int).toNat) 64 = q := by omega
  have h : 2 ^ q ≤ 2 ^ 40 := Nat.pow_le_pow_right (by omega) hq
  rw [e, Int.one_mul, show ((2 : Int) ^ q) = ((2 ^ q : Nat) : Int) by simp]
  generalize 2 ^ q = y at *
  exact wrap_id (show (-9223372036854775808 : Int) ≤ _ by omega) (show _ ≤ (9223372036854775807 : Int) by omega)

theorem P_one_shlE {P : Program} {N : Fm} {E : Env} {M : Mem} {t t2 : TypeId} {x y : Operand} {k2 : IntKind} {Y : Int} {q : Nat} (hx : ev E x = some (.int .i64 1)) (hy : ev E y = some (.int k2 Y)) (hY : Y = (q : Int)) (hq : q ≤ 40) :
    Pure P N E M (.binOp .shl t x y t2) (.int .i64 ((2 ^ q : Nat) : Int)) := by subst hY; exact P_one_shl hx hy hq
theorem eqIn_bool {P : Program} {t : TypeId} (ht : P.underlying t = some .bool) (dp : Nat) (p q : Bool) (w : World) : (Op.equalIn (dp + 1) t (.bool p) (.bool q)).run P w = .ok (p == q) w := by
  simp [Op.equalIn, run_under ht]
theorem P_bne {P : Program} {N : Fm} {E : Env} {M : Mem} {t t2 : TypeId} {x y : Operand} {p q r : Bool} (ht : P.underlying t = some .bool) (hx : ev E x = some (.bool p)) (hy : ev E y = some (.bool q)) (hr : (!(p == q)) = r) :
    Pure P N E M (.binOp .neq t x y t2) (.bool r) := by
  subst hr
  constructor
  intro pr base w0 ac w hA hS dd ty pos after g
  have h1 : (Op.equal t (.bool p) (.bool q)).run P w = .ok (p == q) w := eqIn_bool ht 9999 p q w
  have hb : binOp .neq t (.bool p) (.bool q) = (do pure (.bool (!(← Op.equal t (.bool p) (.bool q))))) := rfl
  simp only [execOp, hA.eval hx, hA.eval hy, hb]
  simp [h1, eqGuard]

end Go.Proofs.Ytjkpfliaflmppaa.Pc

namespace Go.Proofs.Ytjkpfliaflmppaa.Bu
open Go Go.RowKit Go.Proofs.Ytjkpfliaflmppaa.Vm

theorem info5 : (Try.prog.info? 5).map (fun i => (i.size, i.bytes, i.zero)) = some (1, 1, some (.int .u8 0)) := by kernel_rfl
theorem info5' : ∃ I, Try.prog.info? 5 = some I ∧ I.size = 1 ∧ I.bytes = 1 ∧ I.zero = some (.int .u8 0) := by
  have h := info5
  cases hI : Try.prog.info? 5 with
  | none => simp [hI] at h
  | some I => simp [hI] at h; exact ⟨I, rfl, h⟩

theorem run_append_zeros (c : Nat) (hc : 0 < c) (hc2 : c ≤ 2199023255552) (ty : TypeId) (w : World) : ∃ q, c ≤ q ∧ q ≤ 9223372036854775807 ∧
    (Builtin.append_ #[22, 3] ty #[.slice none 0 0, .int .i64 c]).run Try.prog w = .ok (.slice (some ⟨w.heap.size, 0, none⟩) c q) (w.drew.alloc (.cells (Array.replicate q (.int .u8 0)) 5)) := by
  obtain ⟨I, hI, h1, h2, h3⟩ := info5'
  have hw : IntKind.i64.wrap (c : Int) = c := wrap_id (k := .i64) (by simp only [IntKind.min, IntKind.signed, IntKind.bits]; omega) (by simp only [IntKind.max, IntKind.signed, IntKind.bits]; simp; omega)
  have hn : ¬ (c : Int) < 0 := by omega
  have hcaps := Go.Proofs.Ytjkpfliaflmppaa.Vm.nextslicecap_le (n := c) (c := 0) hc
  have c1 : ¬ (281474976710656 : Int) < c := by omega
  have c2 : ¬ (281474976710656) < Builtin.nextslicecap c 0 := by omega
  have c3 : ¬ c = 0 := by omega
  have c4 : ¬ (IntKind.i64.max : Int) < c := by simp only [IntKind.max, IntKind.signed, IntKind.bits]; simp; omega
  refine ⟨Question.cut (.appendCap c 0 5) (w.tape w.drawn (.appendCap c 0 5)), by simp [Question.cut], ?_, ?_⟩
  · simp only [Question.cut]
    have := Nat.mod_lt (w.tape w.drawn (.appendCap c 0 5)) (show 0 < 2 ^ 63 - c by omega)
    omega
  unfold Builtin.append_
  simp [Try.underlying22, Try.underlying3, run_under Try.underlying22, run_under Try.underlying3, asInt, asIntOf, hw, hn, sizeOf, typeInfo, hI, h1, h2, c1, c2, c3, c4, Builtin.firstCells, zeroValue, h3, Value.cells, newRow, Question.forced, Question.cut, Builtin.zeroCells, Nat.mod_one]
  have hm : ∀ n : Nat, Array.map (fun _ => Value.int .u8 0) (Array.range n) = Array.replicate n (Value.int .u8 0) := fun n => by
    apply Array.ext'
    simp [List.map_const']
  rw [if_neg (by omega), hm, hm]
  simp

theorem recover_idle (w : World) : CallsD Try.prog 149 #[] .returning w fun e u' w' => e = .returned (.tuple #[]) ∧ u' = .returning ∧ w' = w := by
  refine callsD_of_wpS Try.func149 rfl fun c₀ cs hu => ?_
  refine wpS_seq ?_
  apply wpS_region
  simp [wpOpsS, go_sem, recoverD, hu, Try.ntmps149]
  refine wpS_cond (t := false) rfl (wpS_of_wp (wp_skip ?_))
  cases c₀
  simp_all [bodyPostS, results, Try.results149]


section
variable {N : Fm} {Fin : Post} {k : List Kn} {E : Env} {M : Mem}
variable {ops : List Oper} {rest : List Oper} {d : Nat} {ty : TypeId} {pos : String} {after : Array Edge} {g : Option (Nat × Bool)}
theorem O_appendZ {x : Operand} {c : Nat} {z : Int} (hx : ev E x = some (.int .i64 z)) (hz : z = (c : Int)) (hc : 0 < c) (hc2 : c ≤ 2199023255552) (hg : On E ops g) (hd : Nat.blt d N.n = true)
    (h : ∀ b q, c ≤ q → q ≤ 9223372036854775807 → WO false Try.prog N Fin ops rest k ((d, .slice (some ⟨b, 0, none⟩) c q) :: E) (⟨true, b, 0, List.replicate q (.int .u8 0)⟩ :: M)) :
    WO false Try.prog N Fin ops (⟨some d, .call { callee := .builtin .append, args := #[.const (.slice none 0 0), x], argTypes := #[22, 3] }, ty, pos, after, g⟩ :: rest) k E M := by
  subst hz
  refine ⟨⟨?_⟩⟩
  intro base w0 a w hA hS
  unfold wpList
  rw [if_pos (On.wanted (o := ⟨some d, .call { callee := .builtin .append, args := #[.const (.slice none 0 0), x], argTypes := #[22, 3] }, ty, pos, after, g⟩) hg hA)]
  refine .inl ?_
  unfold Oper.wp
  obtain ⟨q, hq, hqm, hrun⟩ := run_append_zeros c hc hc2 ty w
  have hr : (execOp a.eval ⟨some d, .call { callee := .builtin .append, args := #[.const (.slice none 0 0), x], argTypes := #[22, 3] }, ty, pos, after, g⟩).run Try.prog w = .ok (.value (.slice (some ⟨w.heap.size, 0, none⟩) c q)) (w.drew.alloc (.cells (Array.replicate q (.int .u8 0)) 5)) := by
    have he : a.eval (.const (.slice none 0 0)) = .slice none 0 0 := rfl
    simp [execOp, resolve, invoke, builtin, hA.eval hx, he, hrun]
  rw [hr]
  have := hS.drew.alloc (Array.replicate q (.int .u8 0)) 5
  simp only [Array.toList_replicate] at this
  exact (h w.heap.size q hq hqm).out.out base w0 _ _ (hA.put hd _) this
end

theorem growSlice_c (ad : Option Addr) (l c n : Nat) (xs : List Int) (F : Mem) (hx : xs.length = l) (hF : (ad = none ∧ l = 0) ∨ ∃ b own lx, ad = some ⟨b, 0, none⟩ ∧ (⟨own, b, 0, ints .u8 xs ++ lx⟩ : Sg) ∈ F ∧ ∀ v ∈ lx, v.oneCell' = true) (hlc : l ≤ c) (hn : 0 < n) (hbig : l + n ≤ 1099511627776) (hcb : c ≤ 1099511627776) :
    HC Try.prog 148 #[.slice ad l c, .int .i64 n] F (fun v M' => ∃ b q sp, v = .slice (some ⟨b, 0, none⟩) l q ∧ xs.length + sp.length = q ∧ l + n ≤ q ∧ q ≤ 9223372036854775807 ∧ (∀ v ∈ sp, v.oneCell' = true) ∧ M' = ⟨true, b, 0, ints .u8 xs ++ sp⟩ :: F) := by
  obtain ⟨I, hI, hI1, hI2, hI3⟩ := info5'
  refine HC_of_W_defer (fn := Try.f148) Try.func148 rfl rfl rfl rfl recover_idle Tb.k149 ?_
  repeat' (first | (refine isO ?_; first | refine oo (Pc rfl) ?_ | refine oo (Pa rfl (by omega) (by omega)) ?_ | (refine ob rfl ?_ ?_ <;> intro hq <;> try (exfalso; omega)) | refine oo (Pi rfl (by omega)) ?_ | refine oo (Pl rfl) ?_ | refine oo (Px rfl rfl) ?_ | refine oo (Pj rfl (by omega) (by omega)) ?_ | refine oo (Pk rfl (by omega) (by omega)) ?_ | refine oo (Pf rfl) ?_ | refine oo (Pv rfl (by omega) (by omega)) ?_ | refine oo (Pn rfl) ?_ | refine oo (Pm rfl) ?_ | refine os rfl rfl ?_ | refine ot rfl (by omega) ?_ | refine O_nil ?_) | refine wo rfl ?_ | refine wc rfl ?_ | refine wg rfl ?_ | refine go rfl ?_ | refine gc rfl ?_ | refine gg rfl ?_)
  refine G_fin ⟨rfl, ?_⟩
  repeat' (first | (refine isO ?_; first | refine oo (Pc rfl) ?_ | refine oo (Pa rfl (by omega) (by omega)) ?_ | (refine ob rfl ?_ ?_ <;> intro hq <;> try (exfalso; omega)) | refine oo (Pi rfl (by omega)) ?_ | refine oo (Pl rfl) ?_ | refine oo (Px rfl rfl) ?_ | refine oo (Pj rfl (by omega) (by omega)) ?_ | refine oo (Pk rfl (by omega) (by omega)) ?_ | refine oo (Pf rfl) ?_ | refine oo (Pv rfl (by omega) (by omega)) ?_ | refine oo (Pn rfl) ?_ | refine oo (Pm rfl) ?_ | refine os rfl rfl ?_ | refine ot rfl (by omega) ?_ | refine O_nil ?_) | refine wo rfl ?_ | refine wc rfl ?_ | refine wg rfl ?_ | refine go rfl ?_ | refine gc rfl ?_ | refine gg rfl ?_)
  refine O_pure (P_cap Tb.u22 rfl) trivial rfl ?_
  repeat' (first | (refine isO ?_; first | refine oo (Pc rfl) ?_ | refine oo (Pa rfl (by omega) (by omega)) ?_ | (refine ob rfl ?_ ?_ <;> intro hq <;> try (exfalso; omega)) | refine oo (Pi rfl (by omega)) ?_ | refine oo (Pl rfl) ?_ | refine oo (Px rfl rfl) ?_ | refine oo (Pj rfl (by omega) (by omega)) ?_ | refine oo (Pk rfl (by omega) (by omega)) ?_ | refine oo (Pf rfl) ?_ | refine oo (Pv rfl (by omega) (by omega)) ?_ | refine oo (Pn rfl) ?_ | refine oo (Pm rfl) ?_ | refine os rfl rfl ?_ | refine ot rfl (by omega) ?_ | refine O_nil ?_) | refine wo rfl ?_ | refine wc rfl ?_ | refine wg rfl ?_ | refine go rfl ?_ | refine gc rfl ?_ | refine gg rfl ?_)
  · refine O_pure (P_cap Tb.u22 rfl) trivial rfl ?_
    repeat' (first | (refine isO ?_; first | refine oo (Pc rfl) ?_ | refine oo (Pa rfl (by omega) (by omega)) ?_ | (refine ob rfl ?_ ?_ <;> intro hq <;> try (exfalso; omega)) | refine oo (Pi rfl (by omega)) ?_ | refine oo (Pl rfl) ?_ | refine oo (Px rfl rfl) ?_ | refine oo (Pj rfl (by omega) (by omega)) ?_ | refine oo (Pk rfl (by omega) (by omega)) ?_ | refine oo (Pf rfl) ?_ | refine oo (Pv rfl (by omega) (by omega)) ?_ | refine oo (Pn rfl) ?_ | refine oo (Pm rfl) ?_ | refine os rfl rfl ?_ | refine ot rfl (by omega) ?_ | refine O_nil ?_) | refine wo rfl ?_ | refine wc rfl ?_ | refine wg rfl ?_ | refine go rfl ?_ | refine gc rfl ?_ | refine gg rfl ?_)
    refine O_appendZ (c := 2 * c) rfl (by omega) (by omega) (by omega) trivial rfl fun b' q hq hqm => ?_
    repeat' (first | (refine isO ?_; first | refine oo (Pc rfl) ?_ | refine oo (Pa rfl (by omega) (by omega)) ?_ | (refine ob rfl ?_ ?_ <;> intro hq <;> try (exfalso; omega)) | refine oo (Pi rfl (by omega)) ?_ | refine oo (Pl rfl) ?_ | refine oo (Px rfl rfl) ?_ | refine oo (Pj rfl (by omega) (by omega)) ?_ | refine oo (Pk rfl (by omega) (by omega)) ?_ | refine oo (Pf rfl) ?_ | refine oo (Pv rfl (by omega) (by omega)) ?_ | refine oo (Pn rfl) ?_ | refine oo (Pm rfl) ?_ | refine os rfl rfl ?_ | refine ot rfl (by omega) ?_ | refine O_nil ?_) | refine wo rfl ?_ | refine wc rfl ?_ | refine wg rfl ?_ | refine go rfl ?_ | refine gc rfl ?_ | refine gg rfl ?_)
    rcases hF with ⟨rfl, rfl⟩ | ⟨b, own, lx, rfl, hm, hone⟩
    · refine O_pure (P_copy0 Tb.u22 hI rfl rfl (by simp)) trivial rfl ?_
      repeat' (first | (refine isO ?_; first | refine oo (Pc rfl) ?_ | refine oo (Pa rfl (by omega) (by omega)) ?_ | (refine ob rfl ?_ ?_ <;> intro hq <;> try (exfalso; omega)) | refine oo (Pi rfl (by omega)) ?_ | refine oo (Pl rfl) ?_ | refine oo (Px rfl rfl) ?_ | refine oo (Pj rfl (by omega) (by omega)) ?_ | refine oo (Pk rfl (by omega) (by omega)) ?_ | refine oo (Pf rfl) ?_ | refine oo (Pv rfl (by omega) (by omega)) ?_ | refine oo (Pn rfl) ?_ | refine oo (Pm rfl) ?_ | refine os rfl rfl ?_ | refine ot rfl (by omega) ?_ | refine O_nil ?_) | refine wo rfl ?_ | refine wc rfl ?_ | refine wg rfl ?_ | refine go rfl ?_ | refine gc rfl ?_ | refine gg rfl ?_)
      refine O_pure (P_slice1 Tb.u22 Tb.c5 rfl rfl ⟨_, rfl⟩ (by omega) (by omega) (by omega) (by omega)) trivial rfl ?_
      repeat' (first | (refine isO ?_; first | refine oo (Pc rfl) ?_ | refine oo (Pa rfl (by omega) (by omega)) ?_ | (refine ob rfl ?_ ?_ <;> intro hq <;> try (exfalso; omega)) | refine oo (Pi rfl (by omega)) ?_ | refine oo (Pl rfl) ?_ | refine oo (Px rfl rfl) ?_ | refine oo (Pj rfl (by omega) (by omega)) ?_ | refine oo (Pk rfl (by omega) (by omega)) ?_ | refine oo (Pf rfl) ?_ | refine oo (Pv rfl (by omega) (by omega)) ?_ | refine oo (Pn rfl) ?_ | refine oo (Pm rfl) ?_ | refine os rfl rfl ?_ | refine ot rfl (by omega) ?_ | refine O_nil ?_) | refine wo rfl ?_ | refine wc rfl ?_ | refine wg rfl ?_ | refine go rfl ?_ | refine gc rfl ?_ | refine gg rfl ?_)
      refine G_fin ⟨_, rfl, b', q, List.replicate q (.int .u8 0), ?_, by simp [hx], by omega, hqm, ?_, ?_⟩
      · simp
      · intro v hv; rw [List.eq_of_mem_replicate hv]; rfl
      · rw [List.length_eq_zero_iff.1 hx]; simp [ints]
    · refine O_copy (o := 0) (i := 0) (ox := 0) (j := 0) (size := 1) (n := l) Tb.u22 hI hI1 rfl rfl (by omega) rfl rfl .head (.tail _ hm) (by simp [ints_length, hx]) (by
        intro v hv
        rcases List.mem_append.1 hv with h | h
        · simp [ints] at h; obtain ⟨z, _, rfl⟩ := h; rfl
        · exact hone v h) (by simp; omega) (l' := ints .u8 xs ++ List.replicate (q - l) (.int .u8 0)) ?_ trivial rfl ?_
      · have h1 : (List.drop 0 (ints .u8 xs ++ lx)).take (l * 1) = ints .u8 xs := by
          rw [List.drop_zero, Nat.mul_one, ← hx, ← ints_length .u8 xs, List.take_left]
        rw [h1]
        have := putAt_append (ints .u8 xs) [] (List.replicate q (.int .u8 0)) (by simp [ints_length, hx]; omega)
        simpa [ints_length, hx] using this
      repeat' (first | (refine isO ?_; first | refine oo (Pc rfl) ?_ | refine oo (Pa rfl (by omega) (by omega)) ?_ | (refine ob rfl ?_ ?_ <;> intro hq <;> try (exfalso; omega)) | refine oo (Pi rfl (by omega)) ?_ | refine oo (Pl rfl) ?_ | refine oo (Px rfl rfl) ?_ | refine oo (Pj rfl (by omega) (by omega)) ?_ | refine oo (Pk rfl (by omega) (by omega)) ?_ | refine oo (Pf rfl) ?_ | refine oo (Pv rfl (by omega) (by omega)) ?_ | refine oo (Pn rfl) ?_ | refine oo (Pm rfl) ?_ | refine os rfl rfl ?_ | refine ot rfl (by omega) ?_ | refine O_nil ?_) | refine wo rfl ?_ | refine wc rfl ?_ | refine wg rfl ?_ | refine go rfl ?_ | refine gc rfl ?_ | refine gg rfl ?_)
      refine O_pure (P_slice1 Tb.u22 Tb.c5 rfl rfl ⟨_, rfl⟩ (by omega) (by omega) (by omega) (by omega)) trivial rfl ?_
      repeat' (first | (refine isO ?_; first | refine oo (Pc rfl) ?_ | refine oo (Pa rfl (by omega) (by omega)) ?_ | (refine ob rfl ?_ ?_ <;> intro hq <;> try (exfalso; omega)) | refine oo (Pi rfl (by omega)) ?_ | refine oo (Pl rfl) ?_ | refine oo (Px rfl rfl) ?_ | refine oo (Pj rfl (by omega) (by omega)) ?_ | refine oo (Pk rfl (by omega) (by omega)) ?_ | refine oo (Pf rfl) ?_ | refine oo (Pv rfl (by omega) (by omega)) ?_ | refine oo (Pn rfl) ?_ | refine oo (Pm rfl) ?_ | refine os rfl rfl ?_ | refine ot rfl (by omega) ?_ | refine O_nil ?_) | refine wo rfl ?_ | refine wc rfl ?_ | refine wg rfl ?_ | refine go rfl ?_ | refine gc rfl ?_ | refine gg rfl ?_)
      refine G_fin ⟨_, rfl, b', q, List.replicate (q - l) (.int .u8 0), ?_, by simp [hx]; omega, by omega, hqm, ?_, rfl⟩
      · simp
      · intro v hv; rw [List.eq_of_mem_replicate hv]; rfl
  · refine O_appendZ (c := l + n) rfl (by omega) (by omega) (by omega) trivial rfl fun b' q hq hqm => ?_
    repeat' (first | (refine isO ?_; first | refine oo (Pc rfl) ?_ | refine oo (Pa rfl (by omega) (by omega)) ?_ | (refine ob rfl ?_ ?_ <;> intro hq <;> try (exfalso; omega)) | refine oo (Pi rfl (by omega)) ?_ | refine oo (Pl rfl) ?_ | refine oo (Px rfl rfl) ?_ | refine oo (Pj rfl (by omega) (by omega)) ?_ | refine oo (Pk rfl (by omega) (by omega)) ?_ | refine oo (Pf rfl) ?_ | refine oo (Pv rfl (by omega) (by omega)) ?_ | refine oo (Pn rfl) ?_ | refine oo (Pm rfl) ?_ | refine os rfl rfl ?_ | refine ot rfl (by omega) ?_ | refine O_nil ?_) | refine wo rfl ?_ | refine wc rfl ?_ | refine wg rfl ?_ | refine go rfl ?_ | refine gc rfl ?_ | refine gg rfl ?_)
    rcases hF with ⟨rfl, rfl⟩ | ⟨b, own, lx, rfl, hm, hone⟩
    · refine O_pure (P_copy0 Tb.u22 hI rfl rfl (by simp)) trivial rfl ?_
      repeat' (first | (refine isO ?_; first | refine oo (Pc rfl) ?_ | refine oo (Pa rfl (by omega) (by omega)) ?_ | (refine ob rfl ?_ ?_ <;> intro hq <;> try (exfalso; omega)) | refine oo (Pi rfl (by omega)) ?_ | refine oo (Pl rfl) ?_ | refine oo (Px rfl rfl) ?_ | refine oo (Pj rfl (by omega) (by omega)) ?_ | refine oo (Pk rfl (by omega) (by omega)) ?_ | refine oo (Pf rfl) ?_ | refine oo (Pv rfl (by omega) (by omega)) ?_ | refine oo (Pn rfl) ?_ | refine oo (Pm rfl) ?_ | refine os rfl rfl ?_ | refine ot rfl (by omega) ?_ | refine O_nil ?_) | refine wo rfl ?_ | refine wc rfl ?_ | refine wg rfl ?_ | refine go rfl ?_ | refine gc rfl ?_ | refine gg rfl ?_)
      refine O_pure (P_slice1 Tb.u22 Tb.c5 rfl rfl ⟨_, rfl⟩ (by omega) (by omega) (by omega) (by omega)) trivial rfl ?_
      repeat' (first | (refine isO ?_; first | refine oo (Pc rfl) ?_ | refine oo (Pa rfl (by omega) (by omega)) ?_ | (refine ob rfl ?_ ?_ <;> intro hq <;> try (exfalso; omega)) | refine oo (Pi rfl (by omega)) ?_ | refine oo (Pl rfl) ?_ | refine oo (Px rfl rfl) ?_ | refine oo (Pj rfl (by omega) (by omega)) ?_ | refine oo (Pk rfl (by omega) (by omega)) ?_ | refine oo (Pf rfl) ?_ | refine oo (Pv rfl (by omega) (by omega)) ?_ | refine oo (Pn rfl) ?_ | refine oo (Pm rfl) ?_ | refine os rfl rfl ?_ | refine ot rfl (by omega) ?_ | refine O_nil ?_) | refine wo rfl ?_ | refine wc rfl ?_ | refine wg rfl ?_ | refine go rfl ?_ | refine gc rfl ?_ | refine gg rfl ?_)
      refine G_fin ⟨_, rfl, b', q, List.replicate q (.int .u8 0), ?_, by simp [hx], by omega, hqm, ?_, ?_⟩
      · simp
      · intro v hv; rw [List.eq_of_mem_replicate hv]; rfl
      · rw [List.length_eq_zero_iff.1 hx]; simp [ints]
    · refine O_copy (o := 0) (i := 0) (ox := 0) (j := 0) (size := 1) (n := l) Tb.u22 hI hI1 rfl rfl (by omega) rfl rfl .head (.tail _ hm) (by simp [ints_length, hx]) (by
        intro v hv
        rcases List.mem_append.1 hv with h | h
        · simp [ints] at h; obtain ⟨z, _, rfl⟩ := h; rfl
        · exact hone v h) (by simp; omega) (l' := ints .u8 xs ++ List.replicate (q - l) (.int .u8 0)) ?_ trivial rfl ?_
      · have h1 : (List.drop 0 (ints .u8 xs ++ lx)).take (l * 1) = ints .u8 xs := by
          rw [List.drop_zero, Nat.mul_one, ← hx, ← ints_length .u8 xs, List.take_left]
        rw [h1]
        have := putAt_append (ints .u8 xs) [] (List.replicate q (.int .u8 0)) (by simp [ints_length, hx]; omega)
        simpa [ints_length, hx] using this
      repeat' (first | (refine isO ?_; first | refine oo (Pc rfl) ?_ | refine oo (Pa rfl (by omega) (by omega)) ?_ | (refine ob rfl ?_ ?_ <;> intro hq <;> try (exfalso; omega)) | refine oo (Pi rfl (by omega)) ?_ | refine oo (Pl rfl) ?_ | refine oo (Px rfl rfl) ?_ | refine oo (Pj rfl (by omega) (by omega)) ?_ | refine oo (Pk rfl (by omega) (by omega)) ?_ | refine oo (Pf rfl) ?_ | refine oo (Pv rfl (by omega) (by omega)) ?_ | refine oo (Pn rfl) ?_ | refine oo (Pm rfl) ?_ | refine os rfl rfl ?_ | refine ot rfl (by omega) ?_ | refine O_nil ?_) | refine wo rfl ?_ | refine wc rfl ?_ | refine wg rfl ?_ | refine go rfl ?_ | refine gc rfl ?_ | refine gg rfl ?_)
      refine O_pure (P_slice1 Tb.u22 Tb.c5 rfl rfl ⟨_, rfl⟩ (by omega) (by omega) (by omega) (by omega)) trivial rfl ?_
      repeat' (first | (refine isO ?_; first | refine oo (Pc rfl) ?_ | refine oo (Pa rfl (by omega) (by omega)) ?_ | (refine ob rfl ?_ ?_ <;> intro hq <;> try (exfalso; omega)) | refine oo (Pi rfl (by omega)) ?_ | refine oo (Pl rfl) ?_ | refine oo (Px rfl rfl) ?_ | refine oo (Pj rfl (by omega) (by omega)) ?_ | refine oo (Pk rfl (by omega) (by omega)) ?_ | refine oo (Pf rfl) ?_ | refine oo (Pv rfl (by omega) (by omega)) ?_ | refine oo (Pn rfl) ?_ | refine oo (Pm rfl) ?_ | refine os rfl rfl ?_ | refine ot rfl (by omega) ?_ | refine O_nil ?_) | refine wo rfl ?_ | refine wc rfl ?_ | refine wg rfl ?_ | refine go rfl ?_ | refine gc rfl ?_ | refine gg rfl ?_)
      refine G_fin ⟨_, rfl, b', q, List.replicate (q - l) (.int .u8 0), ?_, by simp [hx]; omega, by omega, hqm, ?_, rfl⟩
      · simp
      · intro v hv; rw [List.eq_of_mem_replicate hv]; rfl
end Go.Proofs.Ytjkpfliaflmppaa.Bu
