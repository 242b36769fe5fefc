/- impl.WriteAll of three bits, walked, and so prefixAwake: it is always true. -/
import Derived.Test.YtjkpfliaflmppaaW9x26
import Derived.Test.YtjkpfliaflmppaaW9x23
import Derived.Test.YtjkpfliaflmppaaW9x05
import Derived.Test.YtjkpfliaflmppaaW9x10

namespace Go.Proofs.Ytjkpfliaflmppaa.Pc
open Go Go.RowKit Go.Proofs.Ytjkpfliaflmppaa.Vm Go.Proofs.Ytjkpfliaflmppaa.Bu Go.Proofs.Ytjkpfliaflmppaa.Wr Go.Proofs.Ytjkpfliaflmppaa.Sf

theorem bits53 (wb : Nat) (wv : Value) (F : Mem) : HC Try.prog 55 #[.pointer (some ⟨wb, 0, none⟩), .int .u64 5, .int .u64 3] (Wa wb 0 wv 0 0 false :: Wb wb (List.replicate 512 0) :: Wc wb 0 :: F)
    (fun _ M' => Rk M' (Wa wb 0 wv 5 3 false :: Wb wb (lay8 (List.replicate 512 0) 0 0) :: Wc wb 0 :: F)) :=
  bits_c wb 0 wv 0 0 false (List.replicate 512 0) 0 5 3 F (List.length_replicate ..) (by omega) (by decide) (by omega) (by omega)
theorem written53 (wb : Nat) (wv : Value) (buf : List Int) (F : Mem) : HC Try.prog 60 #[.pointer (some ⟨wb, 0, none⟩)] (Wa wb 0 wv 5 3 false :: Wb wb buf :: Wc wb 0 :: F)
    (fun r M' => r = .int .i64 3 ∧ Rk M' (Wa wb 0 wv 5 3 false :: Wb wb buf :: Wc wb 0 :: F)) :=
  bitsWritten_c wb 0 wv 5 3 false buf 0 F (by omega) (by omega) (by omega)
theorem pads53 (wb : Nat) (wv : Value) (buf : List Int) (F : Mem) : HC Try.prog 58 #[.pointer (some ⟨wb, 0, none⟩), .int .u64 0] (Wa wb 0 wv 5 3 false :: Wb wb buf :: Wc wb 0 :: F)
    (fun _ M' => Rk M' (Wa wb 0 wv 5 8 false :: Wb wb buf :: Wc wb 0 :: F)) :=
  pads_c wb 0 wv 5 3 false buf 0 0 F (by decide) (by omega)
theorem take53 (buf : List Int) (h : buf.length = 512) : (lay8 buf 0 5).take 1 = [5] := by
  cases buf with
  | nil => simp at h
  | cons x l => rfl
theorem flush53 (wb bb : Nat) (buf : List Int) (lr : Int) (F : Mem) (hbuf : buf.length = 512) :
    HC Try.prog 61 #[.pointer (some ⟨wb, 0, none⟩)] (Wa wb 0 (.iface 101 (.pointer (some ⟨bb, 0, none⟩))) 5 8 false :: Wb wb buf :: Wc wb 0 :: ⟨true, bb, 0, [.slice none 0 0, .int .i64 0, .int .i8 lr]⟩ :: F)
      (fun r M' => (∃ z, r = .tuple #[z, .nilIface]) ∧ ∃ b c sp lr', (1 + sp.length = c ∧ 1 ≤ c) ∧ (∀ v ∈ sp, v.oneCell' = true) ∧ Rk M' (⟨true, bb, 0, [.slice (some ⟨b, 0, none⟩) 1 c, .int .i64 0, .int .i8 lr']⟩ :: ⟨true, b, 0, .int .u8 5 :: sp⟩ :: F)) := by
  refine (flush_c wb bb 0 5 8 false buf 0 (.slice none 0 0) [] [] lr F hbuf (by omega) (by decide) (by omega) (.inl ⟨rfl, rfl, rfl⟩) (.inl ⟨rfl, by omega⟩) (by omega)).mono ?_
  rintro r M' ⟨hr, buf', s', m', lr', hb', hB, hrk⟩
  refine ⟨hr, ?_⟩
  have hB : Bf s' [5] m' := by
    have h : (lay8 buf 0 5).take 1 = [5] := take53 buf hbuf
    have h2 : [] ++ (lay8 buf 0 (sw false 5)).take (0 + 8 / 8) = [5] := h
    rw [h2] at hB
    exact hB
  rcases hB with ⟨_, h, _⟩ | ⟨b, c, sp, rfl, rfl, h1, h2, h3⟩
  · simp at h
  · exact ⟨b, c, sp, lr', ⟨h1, h2⟩, h3, .trans hrk (.drop (.drop (.drop (.cons .head (by simp only [ints, List.map_cons, List.map_nil]; exact .rfl)))))⟩

theorem ints5 (sp : List Value) : ints .u8 [5] ++ sp = .int .u8 5 :: sp := by simp only [ints, List.map_cons, List.map_nil]; rfl
theorem bytes53 (bb b c : Nat) (sp : List Value) (lr : Int) (F : Mem) (h1 : 1 + sp.length = c ∧ 1 ≤ c) (h3 : ∀ v ∈ sp, v.oneCell' = true) :
    HC Try.prog 62 #[.pointer (some ⟨bb, 0, none⟩)] (⟨true, bb, 0, [.slice (some ⟨b, 0, none⟩) 1 c, .int .i64 0, .int .i8 lr]⟩ :: ⟨true, b, 0, .int .u8 5 :: sp⟩ :: F)
      (fun r M' => r = .slice (some ⟨b, 0, none⟩) 1 c ∧ M' = ⟨true, bb, 0, [.slice (some ⟨b, 0, none⟩) 1 c, .int .i64 0, .int .i8 lr]⟩ :: ⟨true, b, 0, .int .u8 5 :: sp⟩ :: F) := by
  have := bytes_c bb (.slice (some ⟨b, 0, none⟩) 1 c) [5] [⟨true, b, 0, ints .u8 [5] ++ sp⟩] lr F (.inr ⟨b, c, sp, rfl, rfl, h1.1, h1.2, h3⟩)
  rw [ints5] at this
  exact this

theorem row22_0 (w : World) : (Instr.buildSlice 22 0 [].toArray).run Try.prog w = .ok (.slice (some ⟨w.heap.size, 0, none⟩) 0 0) (w.alloc (.cells [].toArray 5)) := by kernel_rfl

set_option maxHeartbeats 2000000 in
theorem wfin_c (b4 b5 b6 b7 b8 b9 b10 bl : Nat) (F : Mem) :
    HC Try.prog 50 #[.pointer (some ⟨b7, 0, none⟩), .pointer (some ⟨b5, 0, none⟩), .pointer (some ⟨b6, 0, none⟩), .pointer (some ⟨b4, 0, none⟩), .pointer (some ⟨b9, 0, none⟩), .pointer (some ⟨b8, 0, none⟩), .pointer (some ⟨b10, 0, none⟩)]
      (⟨true, b10, 0, [.bool false]⟩ :: ⟨true, b9, 0, [.int .i64 0]⟩ :: ⟨true, b8, 0, [.slice none 0 0]⟩ :: ⟨true, b7, 0, [.bool false]⟩ :: ⟨true, b6, 0, [.slice none 0 0]⟩ :: ⟨true, b5, 0, [.slice none 0 0]⟩ :: ⟨true, b4, 0, [.slice (some ⟨bl, 0, none⟩) 1 1]⟩ ::
        ⟨true, bl, 0, [.int .i64 0, .int .u64 5, .int .u64 3, .slice none 0 0]⟩ :: F)
      (fun _ M' => ∃ b c sp, 1 ≤ c ∧ Rk M' (⟨true, b10, 0, [.bool true]⟩ :: ⟨true, b9, 0, [.int .i64 3]⟩ :: ⟨true, b8, 0, [.slice (some ⟨b, 0, none⟩) 1 c]⟩ :: ⟨true, b, 0, .int .u8 5 :: sp⟩ :: F)) := by
  obtain ⟨c99, hc99, hl99⟩ := zero99
  obtain ⟨c109, hc109⟩ := zero109
  refine HC_of_W (fn := Try.f50) Try.func50 rfl rfl rfl rfl ?_
  repeat' (first | (refine isO ?_; first | refine oo (Pc rfl) ?_ | refine oo (Pa rfl (by omega) (by omega)) ?_ | (refine ob rfl ?_ ?_ <;> intro hq <;> try (exfalso; omega)) | refine oo (Pi rfl (by omega)) ?_ | refine oo (Pl rfl) ?_ | refine oo (Px rfl rfl) ?_ | refine oo (Pj rfl (by omega) (by omega)) ?_ | refine oo (Pk rfl (by omega) (by omega)) ?_ | refine oo (Pf rfl) ?_ | refine oo (Pv rfl (by omega) (by omega)) ?_ | refine oo (Pn rfl) ?_ | refine oo (Pm rfl) ?_ | refine os rfl rfl ?_ | refine ot rfl (by omega) ?_ | refine O_nil ?_) | refine wo rfl ?_ | refine wc rfl ?_ | refine wg rfl ?_ | refine go rfl ?_ | refine gc rfl ?_ | refine gg rfl ?_)
  refine O_alloc zero94 trivial rfl fun bb => ?_
  repeat' (first | (refine isO ?_; first | refine oo (Pc rfl) ?_ | refine oo (Pa rfl (by omega) (by omega)) ?_ | (refine ob rfl ?_ ?_ <;> intro hq <;> try (exfalso; omega)) | refine oo (Pi rfl (by omega)) ?_ | refine oo (Pl rfl) ?_ | refine oo (Px rfl rfl) ?_ | refine oo (Pj rfl (by omega) (by omega)) ?_ | refine oo (Pk rfl (by omega) (by omega)) ?_ | refine oo (Pf rfl) ?_ | refine oo (Pv rfl (by omega) (by omega)) ?_ | refine oo (Pn rfl) ?_ | refine oo (Pm rfl) ?_ | refine os rfl rfl ?_ | refine ot rfl (by omega) ?_ | refine O_nil ?_) | refine wo rfl ?_ | refine wc rfl ?_ | refine wg rfl ?_ | refine go rfl ?_ | refine gc rfl ?_ | refine gg rfl ?_)
  refine O_alloc hc99 trivial rfl fun wb => ?_
  repeat' (first | (refine isO ?_; first | refine oo (Pc rfl) ?_ | refine oo (Pa rfl (by omega) (by omega)) ?_ | (refine ob rfl ?_ ?_ <;> intro hq <;> try (exfalso; omega)) | refine oo (Pi rfl (by omega)) ?_ | refine oo (Pl rfl) ?_ | refine oo (Px rfl rfl) ?_ | refine oo (Pj rfl (by omega) (by omega)) ?_ | refine oo (Pk rfl (by omega) (by omega)) ?_ | refine oo (Pf rfl) ?_ | refine oo (Pv rfl (by omega) (by omega)) ?_ | refine oo (Pn rfl) ?_ | refine oo (Pm rfl) ?_ | refine os rfl rfl ?_ | refine ot rfl (by omega) ?_ | refine O_nil ?_) | refine wo rfl ?_ | refine wc rfl ?_ | refine wg rfl ?_ | refine go rfl ?_ | refine gc rfl ?_ | refine gg rfl ?_)
  refine O_call rfl rfl Tb.k51 trivial rfl (init_c wb bb false c99 hl99 _) ?_
  rintro _ M' hrk
  refine O_weak hrk ?_
  clear hrk
  repeat' (first | (refine isO ?_; first | refine oo (Pc rfl) ?_ | refine oo (Pa rfl (by omega) (by omega)) ?_ | (refine ob rfl ?_ ?_ <;> intro hq <;> try (exfalso; omega)) | refine oo (Pi rfl (by omega)) ?_ | refine oo (Pl rfl) ?_ | refine oo (Px rfl rfl) ?_ | refine oo (Pj rfl (by omega) (by omega)) ?_ | refine oo (Pk rfl (by omega) (by omega)) ?_ | refine oo (Pf rfl) ?_ | refine oo (Pv rfl (by omega) (by omega)) ?_ | refine oo (Pn rfl) ?_ | refine oo (Pm rfl) ?_ | refine os rfl rfl ?_ | refine ot rfl (by omega) ?_ | refine O_nil ?_) | refine wo rfl ?_ | refine wc rfl ?_ | refine wg rfl ?_ | refine go rfl ?_ | refine gc rfl ?_ | refine gg rfl ?_)
  refine O_alloc zero103 trivial rfl fun be => ?_
  repeat' (first | (refine isO ?_; first | refine oo (Pc rfl) ?_ | refine oo (Pa rfl (by omega) (by omega)) ?_ | (refine ob rfl ?_ ?_ <;> intro hq <;> try (exfalso; omega)) | refine oo (Pi rfl (by omega)) ?_ | refine oo (Pl rfl) ?_ | refine oo (Px rfl rfl) ?_ | refine oo (Pj rfl (by omega) (by omega)) ?_ | refine oo (Pk rfl (by omega) (by omega)) ?_ | refine oo (Pf rfl) ?_ | refine oo (Pv rfl (by omega) (by omega)) ?_ | refine oo (Pn rfl) ?_ | refine oo (Pm rfl) ?_ | refine os rfl rfl ?_ | refine ot rfl (by omega) ?_ | refine O_nil ?_) | refine wo rfl ?_ | refine wc rfl ?_ | refine wg rfl ?_ | refine go rfl ?_ | refine gc rfl ?_ | refine gg rfl ?_)
  refine O_alloc hc109 trivial rfl fun br => ?_
  repeat' (first | (refine isO ?_; first | refine oo (Pc rfl) ?_ | refine oo (Pa rfl (by omega) (by omega)) ?_ | (refine ob rfl ?_ ?_ <;> intro hq <;> try (exfalso; omega)) | refine oo (Pi rfl (by omega)) ?_ | refine oo (Pl rfl) ?_ | refine oo (Px rfl rfl) ?_ | refine oo (Pj rfl (by omega) (by omega)) ?_ | refine oo (Pk rfl (by omega) (by omega)) ?_ | refine oo (Pf rfl) ?_ | refine oo (Pv rfl (by omega) (by omega)) ?_ | refine oo (Pn rfl) ?_ | refine oo (Pm rfl) ?_ | refine os rfl rfl ?_ | refine ot rfl (by omega) ?_ | refine O_nil ?_) | refine wo rfl ?_ | refine wc rfl ?_ | refine wg rfl ?_ | refine go rfl ?_ | refine gc rfl ?_ | refine gg rfl ?_)
  refine W_rounds2 ?_
  repeat' (first | (refine isO ?_; first | refine oo (Pc rfl) ?_ | refine oo (Pa rfl (by omega) (by omega)) ?_ | (refine ob rfl ?_ ?_ <;> intro hq <;> try (exfalso; omega)) | refine oo (Pi rfl (by omega)) ?_ | refine oo (Pl rfl) ?_ | refine oo (Px rfl rfl) ?_ | refine oo (Pj rfl (by omega) (by omega)) ?_ | refine oo (Pk rfl (by omega) (by omega)) ?_ | refine oo (Pf rfl) ?_ | refine oo (Pv rfl (by omega) (by omega)) ?_ | refine oo (Pn rfl) ?_ | refine oo (Pm rfl) ?_ | refine os rfl rfl ?_ | refine ot rfl (by omega) ?_ | refine O_nil ?_) | refine wo rfl ?_ | refine wc rfl ?_ | refine wg rfl ?_ | refine go rfl ?_ | refine gc rfl ?_ | refine gg rfl ?_)
  refine O_pure (P_loadAgg (i := 0) (cs := [.int .i64 0, .int .u64 5, .int .u64 3, .slice none 0 0]) Tb.a76 Tb.c76 (by decide) rfl (by exact TakeI.out.mem) (by decide) rfl) trivial rfl ?_
  refine O_alloc zero76 trivial rfl fun bp => ?_
  refine O_storeAgg0 Tb.c76 (by decide) rfl rfl rfl (by simp [Value.oneCell']) trivial (by exact TakeI.out) rfl ?_
  repeat' (first | (refine isO ?_; first | refine oo (Pc rfl) ?_ | refine oo (Pa rfl (by omega) (by omega)) ?_ | (refine ob rfl ?_ ?_ <;> intro hq <;> try (exfalso; omega)) | refine oo (Pi rfl (by omega)) ?_ | refine oo (Pl rfl) ?_ | refine oo (Px rfl rfl) ?_ | refine oo (Pj rfl (by omega) (by omega)) ?_ | refine oo (Pk rfl (by omega) (by omega)) ?_ | refine oo (Pf rfl) ?_ | refine oo (Pv rfl (by omega) (by omega)) ?_ | refine oo (Pn rfl) ?_ | refine oo (Pm rfl) ?_ | refine os rfl rfl ?_ | refine ot rfl (by omega) ?_ | refine O_nil ?_) | refine wo rfl ?_ | refine wc rfl ?_ | refine wg rfl ?_ | refine go rfl ?_ | refine gc rfl ?_ | refine gg rfl ?_)
  refine O_call rfl rfl Tb.k55 trivial rfl (HCp.take (.cons (by exact TakeI.out) (.cons (by exact TakeI.out) (.cons (by exact TakeI.out) .rfl))) (bits53 wb _ _)) ?_
  rintro _ M' hrk
  refine O_weak hrk ?_
  clear hrk
  repeat' (first | (refine isO ?_; first | refine oo (Pc rfl) ?_ | refine oo (Pa rfl (by omega) (by omega)) ?_ | (refine ob rfl ?_ ?_ <;> intro hq <;> try (exfalso; omega)) | refine oo (Pi rfl (by omega)) ?_ | refine oo (Pl rfl) ?_ | refine oo (Px rfl rfl) ?_ | refine oo (Pj rfl (by omega) (by omega)) ?_ | refine oo (Pk rfl (by omega) (by omega)) ?_ | refine oo (Pf rfl) ?_ | refine oo (Pv rfl (by omega) (by omega)) ?_ | refine oo (Pn rfl) ?_ | refine oo (Pm rfl) ?_ | refine os rfl rfl ?_ | refine ot rfl (by omega) ?_ | refine O_nil ?_) | refine wo rfl ?_ | refine wc rfl ?_ | refine wg rfl ?_ | refine go rfl ?_ | refine gc rfl ?_ | refine gg rfl ?_)
  refine G_stop ?_
  repeat' (first | (refine isO ?_; first | refine oo (Pc rfl) ?_ | refine oo (Pa rfl (by omega) (by omega)) ?_ | (refine ob rfl ?_ ?_ <;> intro hq <;> try (exfalso; omega)) | refine oo (Pi rfl (by omega)) ?_ | refine oo (Pl rfl) ?_ | refine oo (Px rfl rfl) ?_ | refine oo (Pj rfl (by omega) (by omega)) ?_ | refine oo (Pk rfl (by omega) (by omega)) ?_ | refine oo (Pf rfl) ?_ | refine oo (Pv rfl (by omega) (by omega)) ?_ | refine oo (Pn rfl) ?_ | refine oo (Pm rfl) ?_ | refine os rfl rfl ?_ | refine ot rfl (by omega) ?_ | refine O_nil ?_) | refine wo rfl ?_ | refine wc rfl ?_ | refine wg rfl ?_ | refine go rfl ?_ | refine gc rfl ?_ | refine gg rfl ?_)
  refine O_call rfl rfl Tb.k60 trivial rfl (HCp.take (.cons (by exact TakeI.out) (.cons (by exact TakeI.out) (.cons (by exact TakeI.out) .rfl))) (written53 wb _ _ _)) ?_
  rintro _ M' ⟨rfl, hrk⟩
  refine O_weak hrk ?_
  clear hrk
  repeat' (first | (refine isO ?_; first | refine oo (Pc rfl) ?_ | refine oo (Pa rfl (by omega) (by omega)) ?_ | (refine ob rfl ?_ ?_ <;> intro hq <;> try (exfalso; omega)) | refine oo (Pi rfl (by omega)) ?_ | refine oo (Pl rfl) ?_ | refine oo (Px rfl rfl) ?_ | refine oo (Pj rfl (by omega) (by omega)) ?_ | refine oo (Pk rfl (by omega) (by omega)) ?_ | refine oo (Pf rfl) ?_ | refine oo (Pv rfl (by omega) (by omega)) ?_ | refine oo (Pn rfl) ?_ | refine oo (Pm rfl) ?_ | refine os rfl rfl ?_ | refine ot rfl (by omega) ?_ | refine O_nil ?_) | refine wo rfl ?_ | refine wc rfl ?_ | refine wg rfl ?_ | refine go rfl ?_ | refine gc rfl ?_ | refine gg rfl ?_)
  refine O_call rfl rfl Tb.k58 trivial rfl (HCp.take (.cons (by exact TakeI.out) (.cons (by exact TakeI.out) (.cons (by exact TakeI.out) .rfl))) (pads53 wb _ _ _)) ?_
  rintro _ M' hrk
  refine O_weak hrk ?_
  clear hrk
  repeat' (first | (refine isO ?_; first | refine oo (Pc rfl) ?_ | refine oo (Pa rfl (by omega) (by omega)) ?_ | (refine ob rfl ?_ ?_ <;> intro hq <;> try (exfalso; omega)) | refine oo (Pi rfl (by omega)) ?_ | refine oo (Pl rfl) ?_ | refine oo (Px rfl rfl) ?_ | refine oo (Pj rfl (by omega) (by omega)) ?_ | refine oo (Pk rfl (by omega) (by omega)) ?_ | refine oo (Pf rfl) ?_ | refine oo (Pv rfl (by omega) (by omega)) ?_ | refine oo (Pn rfl) ?_ | refine oo (Pm rfl) ?_ | refine os rfl rfl ?_ | refine ot rfl (by omega) ?_ | refine O_nil ?_) | refine wo rfl ?_ | refine wc rfl ?_ | refine wg rfl ?_ | refine go rfl ?_ | refine gc rfl ?_ | refine gg rfl ?_)
  refine O_call rfl rfl Tb.k61 trivial rfl (HCp.take (.cons (by exact TakeI.out) (.cons (by exact TakeI.out) (.cons (by exact TakeI.out) (.cons (by exact TakeI.out) .rfl)))) (flush53 wb bb _ _ _ (by rw [lay8_length, List.length_replicate]))) ?_
  rintro _ M' ⟨⟨z, rfl⟩, b, c, sp, lr', hc, hone, hrk⟩
  refine O_weak hrk ?_
  clear hrk
  repeat' (first | (refine isO ?_; first | refine oo (Pc rfl) ?_ | refine oo (Pa rfl (by omega) (by omega)) ?_ | (refine ob rfl ?_ ?_ <;> intro hq <;> try (exfalso; omega)) | refine oo (Pi rfl (by omega)) ?_ | refine oo (Pl rfl) ?_ | refine oo (Px rfl rfl) ?_ | refine oo (Pj rfl (by omega) (by omega)) ?_ | refine oo (Pk rfl (by omega) (by omega)) ?_ | refine oo (Pf rfl) ?_ | refine oo (Pv rfl (by omega) (by omega)) ?_ | refine oo (Pn rfl) ?_ | refine oo (Pm rfl) ?_ | refine os rfl rfl ?_ | refine ot rfl (by omega) ?_ | refine O_nil ?_) | refine wo rfl ?_ | refine wc rfl ?_ | refine wg rfl ?_ | refine go rfl ?_ | refine gc rfl ?_ | refine gg rfl ?_)
  refine O_pure (P_err_ne Tb.i82 rfl rfl) trivial rfl ?_
  repeat' (first | (refine isO ?_; first | refine oo (Pc rfl) ?_ | refine oo (Pa rfl (by omega) (by omega)) ?_ | (refine ob rfl ?_ ?_ <;> intro hq <;> try (exfalso; omega)) | refine oo (Pi rfl (by omega)) ?_ | refine oo (Pl rfl) ?_ | refine oo (Px rfl rfl) ?_ | refine oo (Pj rfl (by omega) (by omega)) ?_ | refine oo (Pk rfl (by omega) (by omega)) ?_ | refine oo (Pf rfl) ?_ | refine oo (Pv rfl (by omega) (by omega)) ?_ | refine oo (Pn rfl) ?_ | refine oo (Pm rfl) ?_ | refine os rfl rfl ?_ | refine ot rfl (by omega) ?_ | refine O_nil ?_) | refine wo rfl ?_ | refine wc rfl ?_ | refine wg rfl ?_ | refine go rfl ?_ | refine gc rfl ?_ | refine gg rfl ?_)
  refine O_buildSlice rfl row22_0 trivial rfl fun bz => ?_
  repeat' (first | (refine isO ?_; first | refine oo (Pc rfl) ?_ | refine oo (Pa rfl (by omega) (by omega)) ?_ | (refine ob rfl ?_ ?_ <;> intro hq <;> try (exfalso; omega)) | refine oo (Pi rfl (by omega)) ?_ | refine oo (Pl rfl) ?_ | refine oo (Px rfl rfl) ?_ | refine oo (Pj rfl (by omega) (by omega)) ?_ | refine oo (Pk rfl (by omega) (by omega)) ?_ | refine oo (Pf rfl) ?_ | refine oo (Pv rfl (by omega) (by omega)) ?_ | refine oo (Pn rfl) ?_ | refine oo (Pm rfl) ?_ | refine os rfl rfl ?_ | refine ot rfl (by omega) ?_ | refine O_nil ?_) | refine wo rfl ?_ | refine wc rfl ?_ | refine wg rfl ?_ | refine go rfl ?_ | refine gc rfl ?_ | refine gg rfl ?_)
  refine O_call rfl rfl Tb.k62 trivial rfl (HCp.take (.cons (by exact TakeI.out) (.cons (by exact TakeI.out) .rfl)) (bytes53 bb b c sp lr' _ hc hone)) ?_
  rintro _ M' ⟨rfl, rfl⟩
  obtain ⟨I, hI, hI1, hI2, hI3⟩ := info5'
  refine O_append (len := 0) (size := 1) (xs := []) (m := [⟨true, bz, 0, []⟩]) Tb.u22 Tb.u22 hI hI1 (by decide) (by omega) hI3 rfl rfl rfl (.inr ⟨bz, 0, 0, [], rfl, rfl, rfl, rfl⟩) (.cons (by exact TakeI.out) .rfl) rfl (.tail _ (.head _)) (by simp) ?_ (.inl (by omega)) (by omega) trivial rfl fun b2 c2 s2 h2 => ?_
  · intro v hv
    rcases List.mem_cons.1 hv with rfl | h
    · rfl
    · exact hone v h
  repeat' (first | (refine isO ?_; first | refine oo (Pc rfl) ?_ | refine oo (Pa rfl (by omega) (by omega)) ?_ | (refine ob rfl ?_ ?_ <;> intro hq <;> try (exfalso; omega)) | refine oo (Pi rfl (by omega)) ?_ | refine oo (Pl rfl) ?_ | refine oo (Px rfl rfl) ?_ | refine oo (Pj rfl (by omega) (by omega)) ?_ | refine oo (Pk rfl (by omega) (by omega)) ?_ | refine oo (Pf rfl) ?_ | refine oo (Pv rfl (by omega) (by omega)) ?_ | refine oo (Pn rfl) ?_ | refine oo (Pm rfl) ?_ | refine os rfl rfl ?_ | refine ot rfl (by omega) ?_ | refine O_nil ?_) | refine wo rfl ?_ | refine wc rfl ?_ | refine wg rfl ?_ | refine go rfl ?_ | refine gc rfl ?_ | refine gg rfl ?_)
  refine G_fin ⟨_, rfl, b2, c2, s2, ?_, by show Rk (⟨true, b2, 0, .int .u8 5 :: s2⟩ :: _) _; repeat (first | exact .rfl | exact .nil | (apply Rk.cons; (· exact TakeI.out)) | refine .drop ?_)⟩
  simp only [List.nil_append, List.length_append] at h2
  have : (List.take (1 * 1) (Value.int .u8 5 :: sp)).length = 1 := rfl
  omega

/-- Is true. -/
theorem writeAll53 (bl : Nat) (F : Mem) :
    HC Try.prog 22 #[.slice (some ⟨bl, 0, none⟩) 1 1, .slice none 0 0, .slice none 0 0, .bool false] (⟨true, bl, 0, [.int .i64 0, .int .u64 5, .int .u64 3, .slice none 0 0]⟩ :: F)
      (fun v M' => ∃ b c sp, 1 ≤ c ∧ v = .tuple #[.slice (some ⟨b, 0, none⟩) 1 c, .int .i64 3, .bool true] ∧ Rk M' (⟨true, b, 0, .int .u8 5 :: sp⟩ :: F)) := by
  refine HC_of_WM (fn := Try.f22) Try.func22 rfl rfl rfl rfl ?_
  repeat' (first | (refine isO ?_; first | refine oo (Pc rfl) ?_ | refine oo (Pa rfl (by omega) (by omega)) ?_ | (refine ob rfl ?_ ?_ <;> intro hq <;> try (exfalso; omega)) | refine oo (Pi rfl (by omega)) ?_ | refine oo (Pl rfl) ?_ | refine oo (Px rfl rfl) ?_ | refine oo (Pj rfl (by omega) (by omega)) ?_ | refine oo (Pk rfl (by omega) (by omega)) ?_ | refine oo (Pf rfl) ?_ | refine oo (Pv rfl (by omega) (by omega)) ?_ | refine oo (Pn rfl) ?_ | refine oo (Pm rfl) ?_ | refine os rfl rfl ?_ | refine ot rfl (by omega) ?_ | refine O_nil ?_) | refine wo rfl ?_ | refine wc rfl ?_ | refine wg rfl ?_ | refine go rfl ?_ | refine gc rfl ?_ | refine gg rfl ?_)
  refine O_box rfl trivial rfl fun b4 => ?_
  refine O_box rfl trivial rfl fun b5 => ?_
  refine O_box rfl trivial rfl fun b6 => ?_
  refine O_box rfl trivial rfl fun b7 => ?_
  refine O_alloc zero22 trivial rfl fun b8 => ?_
  refine O_alloc zero2 trivial rfl fun b9 => ?_
  refine O_alloc zero4 trivial rfl fun b10 => ?_
  repeat' (first | (refine isO ?_; first | refine oo (Pc rfl) ?_ | refine oo (Pa rfl (by omega) (by omega)) ?_ | (refine ob rfl ?_ ?_ <;> intro hq <;> try (exfalso; omega)) | refine oo (Pi rfl (by omega)) ?_ | refine oo (Pl rfl) ?_ | refine oo (Px rfl rfl) ?_ | refine oo (Pj rfl (by omega) (by omega)) ?_ | refine oo (Pk rfl (by omega) (by omega)) ?_ | refine oo (Pf rfl) ?_ | refine oo (Pv rfl (by omega) (by omega)) ?_ | refine oo (Pn rfl) ?_ | refine oo (Pm rfl) ?_ | refine os rfl rfl ?_ | refine ot rfl (by omega) ?_ | refine O_nil ?_) | refine wo rfl ?_ | refine wc rfl ?_ | refine wg rfl ?_ | refine go rfl ?_ | refine gc rfl ?_ | refine gg rfl ?_)
  refine O_call rfl rfl Tb.k39 trivial rfl (safe_c (f := 50) (R := fun M' => ∃ b c sp, 1 ≤ c ∧ Rk M' (⟨true, b10, 0, [.bool true]⟩ :: ⟨true, b9, 0, [.int .i64 3]⟩ :: ⟨true, b8, 0, [.slice (some ⟨b, 0, none⟩) 1 c]⟩ :: ⟨true, b, 0, .int .u8 5 :: sp⟩ :: F)) Tb.k50 fun bs => ?_) ?_
  · refine (HCp.take (.cons (by exact TakeI.out) (.cons (by exact TakeI.out) (.cons (by exact TakeI.out) (.cons (by exact TakeI.out) (.cons (by exact TakeI.out) (.cons (by exact TakeI.out) (.cons (by exact TakeI.out) (.cons (by exact TakeI.out) .rfl)))))))) (wfin_c b4 b5 b6 b7 b8 b9 b10 bl (⟨true, bs, 0, [.bool false]⟩ :: F))).mono ?_
    rintro v M' ⟨b, c, sp, hc, hrk⟩
    exact ⟨_, .trans hrk (.cons (.tail (.tail (.tail (.tail .head)))) .rfl), b, c, sp, hc, .rfl⟩
  rintro v M' ⟨rfl, b, c, sp, hc, hrk⟩
  refine O_weak hrk ?_
  repeat' (first | (refine isO ?_; first | refine oo (Pc rfl) ?_ | refine oo (Pa rfl (by omega) (by omega)) ?_ | (refine ob rfl ?_ ?_ <;> intro hq <;> try (exfalso; omega)) | refine oo (Pi rfl (by omega)) ?_ | refine oo (Pl rfl) ?_ | refine oo (Px rfl rfl) ?_ | refine oo (Pj rfl (by omega) (by omega)) ?_ | refine oo (Pk rfl (by omega) (by omega)) ?_ | refine oo (Pf rfl) ?_ | refine oo (Pv rfl (by omega) (by omega)) ?_ | refine oo (Pn rfl) ?_ | refine oo (Pm rfl) ?_ | refine os rfl rfl ?_ | refine ot rfl (by omega) ?_ | refine O_nil ?_) | refine wo rfl ?_ | refine wc rfl ?_ | refine wg rfl ?_ | refine go rfl ?_ | refine gc rfl ?_ | refine gg rfl ?_)
  have hfin : ∀ E M2, E.get? 8 = some (.pointer (some ⟨b8, 0, none⟩)) → E.get? 9 = some (.pointer (some ⟨b9, 0, none⟩)) → E.get? 10 = some (.pointer (some ⟨b10, 0, none⟩)) →
      Rk M2 (⟨true, b8, 0, [.slice (some ⟨b, 0, none⟩) 1 c]⟩ :: ⟨true, b9, 0, [.int .i64 3]⟩ :: ⟨true, b10, 0, [.bool true]⟩ :: ⟨true, b, 0, .int .u8 5 :: sp⟩ :: F) →
      G false Try.prog ⟨Try.f22.ntmps, []⟩ (EndsM Try.prog Try.f22.results.toList fun v M' => ∃ b c sp, 1 ≤ c ∧ v = .tuple #[.slice (some ⟨b, 0, none⟩) 1 c, .int .i64 3, .bool true] ∧ Rk M' (⟨true, b, 0, .int .u8 5 :: sp⟩ :: F)) .ret [] E M2 := by
    intro E M2 h8 h9 h10 hr
    exact G_fin ⟨[.slice (some ⟨b, 0, none⟩) 1 c, .int .i64 3, .bool true], ⟨⟨_, _, _, _, _, h8, hr.all.1 _ (.head _), Try.underlying22, rfl⟩, ⟨_, _, _, _, _, h9, hr.all.1 _ (.tail _ (.head _)), Try.underlying2, rfl⟩, ⟨_, _, _, _, _, h10, hr.all.1 _ (.tail _ (.tail _ (.head _))), Try.underlying4, rfl⟩, trivial⟩,
      b, c, sp, hc, rfl, .trans hr (.drop (.drop (.drop .rfl)))⟩
  refine W_region_any Tb.mixed ?_
  refine OA_step (rs := [0, 1]) (by kernel_rfl) rfl (by decide) (List.forall_mem_cons.2 ⟨?_, List.forall_mem_cons.2 ⟨?_, List.forall_mem_nil _⟩⟩)
  · unfold Step
    simp only [List.drop_succ_cons, List.drop_zero, List.take_succ_cons, List.take_zero]
    repeat' (first | (refine isO ?_; first | refine oo (Pc rfl) ?_ | refine oo (Pa rfl (by omega) (by omega)) ?_ | (refine ob rfl ?_ ?_ <;> intro hq <;> try (exfalso; omega)) | refine oo (Pi rfl (by omega)) ?_ | refine oo (Pl rfl) ?_ | refine oo (Px rfl rfl) ?_ | refine oo (Pj rfl (by omega) (by omega)) ?_ | refine oo (Pk rfl (by omega) (by omega)) ?_ | refine oo (Pf rfl) ?_ | refine oo (Pv rfl (by omega) (by omega)) ?_ | refine oo (Pn rfl) ?_ | refine oo (Pm rfl) ?_ | refine os rfl rfl ?_ | refine ot rfl (by omega) ?_ | refine O_nil ?_) | refine wo rfl ?_ | refine wc rfl ?_ | refine wg rfl ?_ | refine go rfl ?_ | refine gc rfl ?_ | refine gg rfl ?_)
    refine G_fin ⟨rfl, ?_⟩
    refine OA_step (rs := [1, 2]) (by kernel_rfl) rfl (by decide) (List.forall_mem_cons.2 ⟨?_, List.forall_mem_cons.2 ⟨?_, List.forall_mem_nil _⟩⟩)
    · unfold Step
      simp only [List.drop_succ_cons, List.drop_zero, List.take_succ_cons, List.take_zero]
      repeat' (first | (refine isO ?_; first | refine oo (Pc rfl) ?_ | refine oo (Pa rfl (by omega) (by omega)) ?_ | (refine ob rfl ?_ ?_ <;> intro hq <;> try (exfalso; omega)) | refine oo (Pi rfl (by omega)) ?_ | refine oo (Pl rfl) ?_ | refine oo (Px rfl rfl) ?_ | refine oo (Pj rfl (by omega) (by omega)) ?_ | refine oo (Pk rfl (by omega) (by omega)) ?_ | refine oo (Pf rfl) ?_ | refine oo (Pv rfl (by omega) (by omega)) ?_ | refine oo (Pn rfl) ?_ | refine oo (Pm rfl) ?_ | refine os rfl rfl ?_ | refine ot rfl (by omega) ?_ | refine O_nil ?_) | refine wo rfl ?_ | refine wc rfl ?_ | refine wg rfl ?_ | refine go rfl ?_ | refine gc rfl ?_ | refine gg rfl ?_)
      refine G_fin ⟨rfl, ?_⟩
      refine OA_seq 2 (by kernel_rfl) rfl ?_
      simp only [List.drop_succ_cons, List.drop_zero]
      repeat' (first | (refine isO ?_; first | refine oo (Pc rfl) ?_ | refine oo (Pa rfl (by omega) (by omega)) ?_ | (refine ob rfl ?_ ?_ <;> intro hq <;> try (exfalso; omega)) | refine oo (Pi rfl (by omega)) ?_ | refine oo (Pl rfl) ?_ | refine oo (Px rfl rfl) ?_ | refine oo (Pj rfl (by omega) (by omega)) ?_ | refine oo (Pk rfl (by omega) (by omega)) ?_ | refine oo (Pf rfl) ?_ | refine oo (Pv rfl (by omega) (by omega)) ?_ | refine oo (Pn rfl) ?_ | refine oo (Pm rfl) ?_ | refine os rfl rfl ?_ | refine ot rfl (by omega) ?_ | refine O_nil ?_) | refine wo rfl ?_ | refine wc rfl ?_ | refine wg rfl ?_ | refine go rfl ?_ | refine gc rfl ?_ | refine gg rfl ?_)
      exact hfin _ _ rfl rfl rfl (.cons (by exact TakeI.out) (.cons (by exact TakeI.out) (.cons (by exact TakeI.out) (.cons (by exact TakeI.out) .rfl))))
    · unfold Step
      simp only [List.drop_succ_cons, List.drop_zero, List.take_succ_cons, List.take_zero]
      repeat' (first | (refine isO ?_; first | refine oo (Pc rfl) ?_ | refine oo (Pa rfl (by omega) (by omega)) ?_ | (refine ob rfl ?_ ?_ <;> intro hq <;> try (exfalso; omega)) | refine oo (Pi rfl (by omega)) ?_ | refine oo (Pl rfl) ?_ | refine oo (Px rfl rfl) ?_ | refine oo (Pj rfl (by omega) (by omega)) ?_ | refine oo (Pk rfl (by omega) (by omega)) ?_ | refine oo (Pf rfl) ?_ | refine oo (Pv rfl (by omega) (by omega)) ?_ | refine oo (Pn rfl) ?_ | refine oo (Pm rfl) ?_ | refine os rfl rfl ?_ | refine ot rfl (by omega) ?_ | refine O_nil ?_) | refine wo rfl ?_ | refine wc rfl ?_ | refine wg rfl ?_ | refine go rfl ?_ | refine gc rfl ?_ | refine gg rfl ?_)
      refine G_fin ⟨rfl, ?_⟩
      refine OA_step (rs := [1]) (by kernel_rfl) rfl (by decide) (List.forall_mem_cons.2 ⟨?_, List.forall_mem_nil _⟩)
      unfold Step
      simp only [List.drop_succ_cons, List.drop_zero, List.take_succ_cons, List.take_zero]
      repeat' (first | (refine isO ?_; first | refine oo (Pc rfl) ?_ | refine oo (Pa rfl (by omega) (by omega)) ?_ | (refine ob rfl ?_ ?_ <;> intro hq <;> try (exfalso; omega)) | refine oo (Pi rfl (by omega)) ?_ | refine oo (Pl rfl) ?_ | refine oo (Px rfl rfl) ?_ | refine oo (Pj rfl (by omega) (by omega)) ?_ | refine oo (Pk rfl (by omega) (by omega)) ?_ | refine oo (Pf rfl) ?_ | refine oo (Pv rfl (by omega) (by omega)) ?_ | refine oo (Pn rfl) ?_ | refine oo (Pm rfl) ?_ | refine os rfl rfl ?_ | refine ot rfl (by omega) ?_ | refine O_nil ?_) | refine wo rfl ?_ | refine wc rfl ?_ | refine wg rfl ?_ | refine go rfl ?_ | refine gc rfl ?_ | refine gg rfl ?_)
      refine G_fin ⟨rfl, ?_⟩
      refine OA_seq 3 (by kernel_rfl) rfl ?_
      simp only [List.drop_succ_cons, List.drop_zero]
      repeat' (first | (refine isO ?_; first | refine oo (Pc rfl) ?_ | refine oo (Pa rfl (by omega) (by omega)) ?_ | (refine ob rfl ?_ ?_ <;> intro hq <;> try (exfalso; omega)) | refine oo (Pi rfl (by omega)) ?_ | refine oo (Pl rfl) ?_ | refine oo (Px rfl rfl) ?_ | refine oo (Pj rfl (by omega) (by omega)) ?_ | refine oo (Pk rfl (by omega) (by omega)) ?_ | refine oo (Pf rfl) ?_ | refine oo (Pv rfl (by omega) (by omega)) ?_ | refine oo (Pn rfl) ?_ | refine oo (Pm rfl) ?_ | refine os rfl rfl ?_ | refine ot rfl (by omega) ?_ | refine O_nil ?_) | refine wo rfl ?_ | refine wc rfl ?_ | refine wg rfl ?_ | refine go rfl ?_ | refine gc rfl ?_ | refine gg rfl ?_)
      exact hfin _ _ rfl rfl rfl (.cons (by exact TakeI.out) (.cons (by exact TakeI.out) (.cons (by exact TakeI.out) (.cons (by exact TakeI.out) .rfl))))
  · unfold Step
    simp only [List.drop_succ_cons, List.drop_zero, List.take_succ_cons, List.take_zero]
    repeat' (first | (refine isO ?_; first | refine oo (Pc rfl) ?_ | refine oo (Pa rfl (by omega) (by omega)) ?_ | (refine ob rfl ?_ ?_ <;> intro hq <;> try (exfalso; omega)) | refine oo (Pi rfl (by omega)) ?_ | refine oo (Pl rfl) ?_ | refine oo (Px rfl rfl) ?_ | refine oo (Pj rfl (by omega) (by omega)) ?_ | refine oo (Pk rfl (by omega) (by omega)) ?_ | refine oo (Pf rfl) ?_ | refine oo (Pv rfl (by omega) (by omega)) ?_ | refine oo (Pn rfl) ?_ | refine oo (Pm rfl) ?_ | refine os rfl rfl ?_ | refine ot rfl (by omega) ?_ | refine O_nil ?_) | refine wo rfl ?_ | refine wc rfl ?_ | refine wg rfl ?_ | refine go rfl ?_ | refine gc rfl ?_ | refine gg rfl ?_)
    refine G_fin ⟨rfl, ?_⟩
    refine OA_step (rs := [0]) (by kernel_rfl) rfl (by decide) (List.forall_mem_cons.2 ⟨?_, List.forall_mem_nil _⟩)
    unfold Step
    simp only [List.drop_succ_cons, List.drop_zero, List.take_succ_cons, List.take_zero]
    repeat' (first | (refine isO ?_; first | refine oo (Pc rfl) ?_ | refine oo (Pa rfl (by omega) (by omega)) ?_ | (refine ob rfl ?_ ?_ <;> intro hq <;> try (exfalso; omega)) | refine oo (Pi rfl (by omega)) ?_ | refine oo (Pl rfl) ?_ | refine oo (Px rfl rfl) ?_ | refine oo (Pj rfl (by omega) (by omega)) ?_ | refine oo (Pk rfl (by omega) (by omega)) ?_ | refine oo (Pf rfl) ?_ | refine oo (Pv rfl (by omega) (by omega)) ?_ | refine oo (Pn rfl) ?_ | refine oo (Pm rfl) ?_ | refine os rfl rfl ?_ | refine ot rfl (by omega) ?_ | refine O_nil ?_) | refine wo rfl ?_ | refine wc rfl ?_ | refine wg rfl ?_ | refine go rfl ?_ | refine gc rfl ?_ | refine gg rfl ?_)
    refine G_fin ⟨rfl, ?_⟩
    refine OA_seq 2 (by kernel_rfl) rfl ?_
    simp only [List.drop_succ_cons, List.drop_zero]
    repeat' (first | (refine isO ?_; first | refine oo (Pc rfl) ?_ | refine oo (Pa rfl (by omega) (by omega)) ?_ | (refine ob rfl ?_ ?_ <;> intro hq <;> try (exfalso; omega)) | refine oo (Pi rfl (by omega)) ?_ | refine oo (Pl rfl) ?_ | refine oo (Px rfl rfl) ?_ | refine oo (Pj rfl (by omega) (by omega)) ?_ | refine oo (Pk rfl (by omega) (by omega)) ?_ | refine oo (Pf rfl) ?_ | refine oo (Pv rfl (by omega) (by omega)) ?_ | refine oo (Pn rfl) ?_ | refine oo (Pm rfl) ?_ | refine os rfl rfl ?_ | refine ot rfl (by omega) ?_ | refine O_nil ?_) | refine wo rfl ?_ | refine wc rfl ?_ | refine wg rfl ?_ | refine go rfl ?_ | refine gc rfl ?_ | refine gg rfl ?_)
    exact hfin _ _ rfl rfl rfl (.cons (by exact TakeI.out) (.cons (by exact TakeI.out) (.cons (by exact TakeI.out) (.cons (by exact TakeI.out) .rfl))))

theorem build42s (a b : Int) (w : World) : (Instr.build 42 [(0, .int .u32 a), (2, .int .u32 b)].toArray).run Try.prog w = .ok (.agg [.int .u32 a, .int .u32 0, .int .u32 b, .int .u32 0].toArray) w := by kernel_rfl
theorem row23_2 (a b c d e f g h : Value) (w : World) : (Instr.buildSlice 23 2 [(0, .agg [a, b, c, d].toArray), (1, .agg [e, f, g, h].toArray)].toArray).run Try.prog w = .ok (.slice (some ⟨w.heap.size, 0, none⟩) 2 2) (w.alloc (.cells [a, b, c, d, e, f, g, h].toArray 42)) := by kernel_rfl
theorem build76 (a b c : Int) (w : World) : (Instr.build 76 [(0, .int .i64 a), (1, .int .u64 b), (2, .int .u64 c)].toArray).run Try.prog w = .ok (.agg [.int .i64 a, .int .u64 b, .int .u64 c, .slice none 0 0].toArray) w := by kernel_rfl
theorem row32_1 (a b c d : Value) (w : World) : (Instr.buildSlice 32 1 [(0, .agg [a, b, c, d].toArray)].toArray).run Try.prog w = .ok (.slice (some ⟨w.heap.size, 0, none⟩) 1 1) (w.alloc (.cells [a, b, c, d].toArray 76)) := by kernel_rfl

def two : List Cd := [⟨3, 0, 1, 0⟩, ⟨5, 0, 1, 0⟩]
theorem two_good : Good two := by
  refine ⟨by decide, by decide, by decide, ?_, by decide⟩
  intro i hi
  obtain rfl : i = 0 := by simp [two] at hi; omega
  decide
theorem two_whole : whole two := by unfold whole; decide
theorem two_canon : canon two = [⟨3, 0, 1, 0⟩, ⟨5, 0, 1, 1⟩] := by rfl
theorem prefixes53 (b : Nat) (F : Mem) : HC Try.prog 14 #[.slice (some ⟨b, 0, none⟩) 2 2] (⟨true, b, 0, [.int .u32 3, .int .u32 0, .int .u32 1, .int .u32 0, .int .u32 5, .int .u32 0, .int .u32 1, .int .u32 0]⟩ :: F)
    (fun v M' => ∃ b c sp, v = .tuple #[.slice (some ⟨b, 0, none⟩) 2 c, .bool true] ∧ Rk M' (⟨true, b, 0, .int .u32 3 :: .int .u32 0 :: .int .u32 1 :: .int .u32 0 :: .int .u32 5 :: .int .u32 0 :: .int .u32 1 :: .int .u32 1 :: sp⟩ :: F)) := by
  have h := prefixes_c two two_good true b 2 [] F
  have e1 : codesV two ++ [] = [.int .u32 3, .int .u32 0, .int .u32 1, .int .u32 0, .int .u32 5, .int .u32 0, .int .u32 1, .int .u32 0] := by simp only [codesV, two]; rfl
  rw [e1] at h
  refine h.mono ?_
  rintro v M' (⟨_, sv, m, hown, rfl, hrk⟩ | ⟨hw, _⟩)
  · rcases hown with ⟨_, h, _⟩ | ⟨b', len, cap, sp, rfl, rfl, hl, _⟩
    · rw [two_canon] at h; simp only [codesV] at h; simp [Cd.cells] at h
    · rw [two_canon] at hl hrk
      have hl2 : len = 2 := by rw [codesV_length] at hl; simp at hl; omega
      subst hl2
      have e2 : codesV [⟨3, 0, 1, 0⟩, ⟨5, 0, 1, 1⟩] ++ sp = .int .u32 3 :: .int .u32 0 :: .int .u32 1 :: .int .u32 0 :: .int .u32 5 :: .int .u32 0 :: .int .u32 1 :: .int .u32 1 :: sp := by simp only [codesV]; rfl
      rw [e2] at hrk
      exact ⟨b', cap, sp, rfl, .trans hrk (.cons .head (.drop .rfl))⟩
  · exact absurd two_whole hw

/-- prefixAwake is true. -/
theorem awake_c (F : Mem) : HC Try.prog 13 #[] F (fun v M' => v = .bool true ∧ Rk M' F) := by
  refine HC_of_W (fn := Try.f13) Try.func13 rfl rfl rfl rfl ?_
  repeat' (first | (refine isO ?_; first | refine oo (Pc rfl) ?_ | refine oo (Pa rfl (by omega) (by omega)) ?_ | (refine ob rfl ?_ ?_ <;> intro hq <;> try (exfalso; omega)) | refine oo (Pi rfl (by omega)) ?_ | refine oo (Pl rfl) ?_ | refine oo (Px rfl rfl) ?_ | refine oo (Pj rfl (by omega) (by omega)) ?_ | refine oo (Pk rfl (by omega) (by omega)) ?_ | refine oo (Pf rfl) ?_ | refine oo (Pv rfl (by omega) (by omega)) ?_ | refine oo (Pn rfl) ?_ | refine oo (Pm rfl) ?_ | refine os rfl rfl ?_ | refine ot rfl (by omega) ?_ | refine O_nil ?_) | refine wo rfl ?_ | refine wc rfl ?_ | refine wg rfl ?_ | refine go rfl ?_ | refine gc rfl ?_ | refine gg rfl ?_)
  refine O_pure (P_build rfl (build42s _ _)) trivial rfl ?_
  refine O_pure (P_build rfl (build42s _ _)) trivial rfl ?_
  refine O_buildSlice rfl (row23_2 _ _ _ _ _ _ _ _) trivial rfl fun b1 => ?_
  refine O_call rfl rfl Tb.k14 trivial rfl (prefixes53 b1 _) ?_
  rintro _ M' ⟨b2, c, sp, rfl, hrk⟩
  refine O_weak hrk ?_
  clear hrk
  repeat' (first | (refine isO ?_; first | refine oo (Pc rfl) ?_ | refine oo (Pa rfl (by omega) (by omega)) ?_ | (refine ob rfl ?_ ?_ <;> intro hq <;> try (exfalso; omega)) | refine oo (Pi rfl (by omega)) ?_ | refine oo (Pl rfl) ?_ | refine oo (Px rfl rfl) ?_ | refine oo (Pj rfl (by omega) (by omega)) ?_ | refine oo (Pk rfl (by omega) (by omega)) ?_ | refine oo (Pf rfl) ?_ | refine oo (Pv rfl (by omega) (by omega)) ?_ | refine oo (Pn rfl) ?_ | refine oo (Pm rfl) ?_ | refine os rfl rfl ?_ | refine ot rfl (by omega) ?_ | refine O_nil ?_) | refine wo rfl ?_ | refine wc rfl ?_ | refine wg rfl ?_ | refine go rfl ?_ | refine gc rfl ?_ | refine gg rfl ?_)
  refine O_pure (P_build rfl (build76 _ _ _)) trivial rfl ?_
  refine O_buildSlice rfl (row32_1 _ _ _ _) trivial rfl fun b3 => ?_
  refine O_call rfl rfl Tb.k22 trivial rfl (writeAll53 b3 _) ?_
  rintro _ M' ⟨b4, c4, sp4, hc4, rfl, hrk⟩
  refine O_weak hrk ?_
  clear hrk
  repeat' (first | (refine isO ?_; first | refine oo (Pc rfl) ?_ | refine oo (Pa rfl (by omega) (by omega)) ?_ | (refine ob rfl ?_ ?_ <;> intro hq <;> try (exfalso; omega)) | refine oo (Pi rfl (by omega)) ?_ | refine oo (Pl rfl) ?_ | refine oo (Px rfl rfl) ?_ | refine oo (Pj rfl (by omega) (by omega)) ?_ | refine oo (Pk rfl (by omega) (by omega)) ?_ | refine oo (Pf rfl) ?_ | refine oo (Pv rfl (by omega) (by omega)) ?_ | refine oo (Pn rfl) ?_ | refine oo (Pm rfl) ?_ | refine os rfl rfl ?_ | refine ot rfl (by omega) ?_ | refine O_nil ?_) | refine wo rfl ?_ | refine wc rfl ?_ | refine wg rfl ?_ | refine go rfl ?_ | refine gc rfl ?_ | refine gg rfl ?_)
  refine O_pure (P_loadAt (o := 0) (n := 7) Tb.p40 rfl rfl (.tail _ (.head _)) rfl) ⟨_, rfl, rfl⟩ rfl ?_
  repeat' (first | (refine isO ?_; first | refine oo (Pc rfl) ?_ | refine oo (Pa rfl (by omega) (by omega)) ?_ | (refine ob rfl ?_ ?_ <;> intro hq <;> try (exfalso; omega)) | refine oo (Pi rfl (by omega)) ?_ | refine oo (Pl rfl) ?_ | refine oo (Px rfl rfl) ?_ | refine oo (Pj rfl (by omega) (by omega)) ?_ | refine oo (Pk rfl (by omega) (by omega)) ?_ | refine oo (Pf rfl) ?_ | refine oo (Pv rfl (by omega) (by omega)) ?_ | refine oo (Pn rfl) ?_ | refine oo (Pm rfl) ?_ | refine os rfl rfl ?_ | refine ot rfl (by omega) ?_ | refine O_nil ?_) | refine wo rfl ?_ | refine wc rfl ?_ | refine wg rfl ?_ | refine go rfl ?_ | refine gc rfl ?_ | refine gg rfl ?_)
  exact G_fin ⟨_, rfl, rfl, .drop (.drop .rfl)⟩
end Go.Proofs.Ytjkpfliaflmppaa.Pc
