/- RangeEncoder.Encode, impl.RangeOf, walked. laws.given, walked: canonical codes and ranges of handed lengths. The bit Writer's Flush, walked, wherever its bytes go on to; Write. The bit Writer's calls, walked, by the bits that were written so far. -/
import Derived.Test.YtjkpfliaflmppaaW4x16
import Derived.Test.YtjkpfliaflmppaaW4x11
import Derived.Test.YtjkpfliaflmppaaW4x05
import Derived.Test.YtjkpfliaflmppaaW4x06
import Derived.Test.YtjkpfliaflmppaaW4x15
import Derived.Test.YtjkpfliaflmppaaW4x14
import Derived.Test.YtjkpfliaflmppaaW4x08
import Derived.Test.YtjkpfliaflmppaaW4x10

namespace Go.Proofs.Ytjkpfliaflmppaa.Pc
open Go Go.RowKit Go.Proofs.Ytjkpfliaflmppaa.Vm Go.Proofs.Ytjkpfliaflmppaa.Sf

theorem encode85_c (rb a v i : Nat) (s : Value) (ls : List Nat) (lut : List Int) (M : Mem) (ha : a ≤ 1048576) (hs : Rs s (mkR a ls) M) (hok : OkN ls) (hlt : Lt a ls lut ls.length) (hi : i < ls.length) (h1 : rAt a ls i ≤ v) (h2 : v < rAt a ls (i + 1)) :
    HC Try.prog 85 #[.pointer (some ⟨rb, 0, none⟩), .int .u64 v] (Ra rb s :: Rb rb lut :: Rc rb a :: M) (fun r M' => r = .int .u64 i ∧ Rk M' (Ra rb s :: Rb rb lut :: Rc rb a :: M)) := by
  obtain ⟨b, own, sp, cap, rfl, hc, hm⟩ := hs.at (by rw [mkR_length]; omega)
  have h30 := hok.1
  have hge := rAt_ge a ls i
  have hr := rAt_le (a := a) hok (i + 1) hi
  rw [mkR_length] at hs ⊢
  have hlut := hlt.1
  refine HC_of_W (fn := Try.f85) Try.func85 rfl rfl rfl rfl ?_
  repeat' (first | (refine isO ?_; first | refine oo (Pc rfl) ?_ | refine oo (Pa rfl (by omega) (by omega)) ?_ | (refine ob rfl ?_ ?_ <;> intro hq <;> try (exfalso; omega)) | refine oo (Pi rfl (by omega)) ?_ | refine oo (Pl rfl) ?_ | refine oo (Px rfl rfl) ?_ | refine oo (Pj rfl (by omega) (by omega)) ?_ | refine oo (Pk rfl (by omega) (by omega)) ?_ | refine oo (Pf rfl) ?_ | refine oo (Pv rfl (by omega) (by omega)) ?_ | refine oo (Pn rfl) ?_ | refine oo (Pm rfl) ?_ | refine os rfl rfl ?_ | refine ot rfl (by omega) ?_ | refine O_nil ?_) | refine wo rfl ?_ | refine wc rfl ?_ | refine wg rfl ?_ | refine go rfl ?_ | refine gc rfl ?_ | refine gg rfl ?_)
  refine W_scope (α := Nat) 0 rfl (fun j => [(0, .pointer (some ⟨rb, 0, none⟩)), (1, .int .u64 v), (4, .int .u64 j)]) (fun _ => Ra rb (.slice (some ⟨b, 0, none⟩) ls.length cap) :: Rb rb lut :: Rc rb a :: M) (fun j => a + 1024 ≤ v ∧ j ≤ i + 1) (fun j => i + 2 - j) ?_ ?_
  · by_cases hva : v < a + 1024
    · have hv : rd lut ((v : Int) - (a : Int)) = i := by
        unfold rd
        rw [show ((v : Int) - (a : Int)).toNat = v - a by omega]
        exact hlt.2 (v - a) (by omega) i hi (by omega) (by omega)
      repeat' (first | (refine isO ?_; first | refine oo (Pc rfl) ?_ | refine oo (Pa rfl (by omega) (by omega)) ?_ | (refine ob rfl ?_ ?_ <;> intro hq <;> try (exfalso; omega)) | refine oo (Pi rfl (by omega)) ?_ | refine oo (Pl rfl) ?_ | refine oo (Px rfl rfl) ?_ | refine oo (Pj rfl (by omega) (by omega)) ?_ | refine oo (Pk rfl (by omega) (by omega)) ?_ | refine oo (Pf rfl) ?_ | refine oo (Pv rfl (by omega) (by omega)) ?_ | refine oo (Pn rfl) ?_ | refine oo (Pm rfl) ?_ | refine os rfl rfl ?_ | refine ot rfl (by omega) ?_ | refine O_nil ?_) | refine wo rfl ?_ | refine wc rfl ?_ | refine wg rfl ?_ | refine go rfl ?_ | refine gc rfl ?_ | refine gg rfl ?_)
      refine G_leave (fun _ h => by cases h) ?_
      exact G_fin ⟨_, rfl, congrArg (Value.int .u64) hv, .rfl⟩
    · obtain ⟨i0, k0, k1, k2⟩ := rAt_find a (a + 1023) ls (i + 1) (by omega) (by omega)
      have hv : rd lut 1023 = i0 := hlt.2 1023 (by omega) i0 (by omega) k1 k2
      have hji : i0 ≤ i := by omega
      have hjl : i0 < ls.length := by omega
      have hg0 := rget0 sp (by rw [mkR_length]; exact hjl) (mkR_get a ls i0 hjl)
      have hjr := rAt_le (a := a) hok i0 (by omega)
      have := rAt_mono (a := a) (ls := ls) i0 i hji
      repeat' (first | (refine isO ?_; first | refine oo (Pc rfl) ?_ | refine oo (Pa rfl (by omega) (by omega)) ?_ | (refine ob rfl ?_ ?_ <;> intro hq <;> try (exfalso; omega)) | refine oo (Pi rfl (by omega)) ?_ | refine oo (Pl rfl) ?_ | refine oo (Px rfl rfl) ?_ | refine oo (Pj rfl (by omega) (by omega)) ?_ | refine oo (Pk rfl (by omega) (by omega)) ?_ | refine oo (Pf rfl) ?_ | refine oo (Pv rfl (by omega) (by omega)) ?_ | refine oo (Pn rfl) ?_ | refine oo (Pm rfl) ?_ | refine os rfl rfl ?_ | refine ot rfl (by omega) ?_ | refine O_nil ?_) | refine wo rfl ?_ | refine wc rfl ?_ | refine wg rfl ?_ | refine go rfl ?_ | refine gc rfl ?_ | refine gg rfl ?_)
      refine O_pure (P_loadAt (o := 0) (n := i0 * 2 + 0) Tb.p40 rfl (by omega) (.tail _ (.tail _ (.tail _ hm))) hg0) ⟨_, rfl, rfl⟩ rfl ?_
      repeat' (first | (refine isO ?_; first | refine oo (Pc rfl) ?_ | refine oo (Pa rfl (by omega) (by omega)) ?_ | (refine ob rfl ?_ ?_ <;> intro hq <;> try (exfalso; omega)) | refine oo (Pi rfl (by omega)) ?_ | refine oo (Pl rfl) ?_ | refine oo (Px rfl rfl) ?_ | refine oo (Pj rfl (by omega) (by omega)) ?_ | refine oo (Pk rfl (by omega) (by omega)) ?_ | refine oo (Pf rfl) ?_ | refine oo (Pv rfl (by omega) (by omega)) ?_ | refine oo (Pn rfl) ?_ | refine oo (Pm rfl) ?_ | refine os rfl rfl ?_ | refine ot rfl (by omega) ?_ | refine O_nil ?_) | refine wo rfl ?_ | refine wc rfl ?_ | refine wg rfl ?_ | refine go rfl ?_ | refine gc rfl ?_ | refine gg rfl ?_)
      exact G_jump ⟨i0 + 1, ⟨by omega, by omega⟩, ⟨rfl, rfl, congrArg (fun q => some (Value.int .u64 q)) (by omega), trivial⟩, .rfl⟩
  · rintro j ⟨hva, hj⟩
    try dsimp only
    repeat' (first | (refine isO ?_; first | refine oo (Pc rfl) ?_ | refine oo (Pa rfl (by omega) (by omega)) ?_ | (refine ob rfl ?_ ?_ <;> intro hq <;> try (exfalso; omega)) | refine oo (Pi rfl (by omega)) ?_ | refine oo (Pl rfl) ?_ | refine oo (Px rfl rfl) ?_ | refine oo (Pj rfl (by omega) (by omega)) ?_ | refine oo (Pk rfl (by omega) (by omega)) ?_ | refine oo (Pf rfl) ?_ | refine oo (Pv rfl (by omega) (by omega)) ?_ | refine oo (Pn rfl) ?_ | refine oo (Pm rfl) ?_ | refine os rfl rfl ?_ | refine ot rfl (by omega) ?_ | refine O_nil ?_) | refine wo rfl ?_ | refine wc rfl ?_ | refine wg rfl ?_ | refine go rfl ?_ | refine gc rfl ?_ | refine gg rfl ?_)
    · obtain rfl : j = i + 1 := by omega
      refine G_leave (fun _ h => by cases h) ?_
      exact G_fin ⟨_, rfl, congrArg (Value.int .u64) (by omega), .rfl⟩
    · have hjl : j < ls.length := by omega
      have hg0 := rget0 sp (by rw [mkR_length]; exact hjl) (mkR_get a ls j hjl)
      refine O_pure (P_loadAt (o := 0) (n := j * 2 + 0) Tb.p40 rfl (by omega) (.tail _ (.tail _ (.tail _ hm))) hg0) ⟨_, rfl, rfl⟩ rfl ?_
      have hjr := rAt_le (a := a) hok j (by omega)
      repeat' (first | (refine isO ?_; first | refine oo (Pc rfl) ?_ | refine oo (Pa rfl (by omega) (by omega)) ?_ | (refine ob rfl ?_ ?_ <;> intro hq <;> try (exfalso; omega)) | refine oo (Pi rfl (by omega)) ?_ | refine oo (Pl rfl) ?_ | refine oo (Px rfl rfl) ?_ | refine oo (Pj rfl (by omega) (by omega)) ?_ | refine oo (Pk rfl (by omega) (by omega)) ?_ | refine oo (Pf rfl) ?_ | refine oo (Pv rfl (by omega) (by omega)) ?_ | refine oo (Pn rfl) ?_ | refine oo (Pm rfl) ?_ | refine os rfl rfl ?_ | refine ot rfl (by omega) ?_ | refine O_nil ?_) | refine wo rfl ?_ | refine wc rfl ?_ | refine wg rfl ?_ | refine go rfl ?_ | refine gc rfl ?_ | refine gg rfl ?_)
      · have : j = i + 1 := by
          by_cases hji : j ≤ i
          · have := rAt_mono (a := a) (ls := ls) j i hji; omega
          · omega
        subst this
        refine G_leave (fun _ h => by cases h) ?_
        exact G_fin ⟨_, rfl, congrArg (Value.int .u64) (by omega), .rfl⟩
      · have : j ≠ i + 1 := by rintro rfl; omega
        exact G_jump ⟨j + 1, ⟨by omega, by omega⟩, by omega, ⟨rfl, rfl, rfl, trivial⟩, .rfl⟩
end Go.Proofs.Ytjkpfliaflmppaa.Pc

namespace Go.Proofs.Ytjkpfliaflmppaa.Pc
open Go Go.RowKit Go.Proofs.Ytjkpfliaflmppaa.Vm

theorem ints_take' {k : IntKind} (ls : List Nat) (i : Nat) (h : i < ls.length) {z : Nat} (he : ls.getD i 0 = z) : ints k ((ls.take i).map Nat.cast) ++ [Value.int k (z : Int)].take (1 * 1) = ints k ((ls.take (i + 1)).map Nat.cast) := by
  have h1 : ls.getD i 0 = ls[i] := by simp [h]
  rw [List.take_succ_eq_append_getElem h, ← h1, he]
  simp [ints]
theorem Bs.nil (M : Mem) : Bs (.slice none 0 0) [] M := ⟨by simp, none, 0, rfl, .inl rfl⟩
theorem Bs.into {s : Value} {xs : List Nat} {M M' : Mem} (h : Bs s xs M) (hm : ∀ x ∈ M, x ∈ M') : Bs s xs M' := by
  obtain ⟨h1, ad, cap, h2, h3⟩ := h
  exact ⟨h1, ad, cap, h2, h3.imp id fun ⟨b, o, h4, h5⟩ => ⟨b, o, h4, hm _ h5⟩⟩
/-- What is spoken of. -/
def OkG (ls xs : List Nat) : Prop := OkL ls ∧ whole (linedL 0 [] ls) ∧ OkN xs

open Classical in
theorem given_c (s1 s2 : Value) (ls xs : List Nat) (M : Mem) (h1 : Bs s1 ls M) (h2 : Bs s2 xs M) :
    HC Try.prog 19 #[s1, s2] M (fun v M' => (OkG ls xs ∧ ∃ b c sp sv m, v = .tuple #[.slice (some ⟨b, 0, none⟩) ls.length c, sv, .bool true] ∧ Own sv 2 (rangesV (mkR 0 xs)) m ∧ Rk M' (⟨true, b, 0, codesV (canon (linedL 0 [] ls)) ++ sp⟩ :: (m ++ M))) ∨
      (¬ OkG ls xs ∧ v = .tuple #[.slice none 0 0, .slice none 0 0, .bool false] ∧ Rk M' M)) := by
  obtain ⟨I, hI, hI1, hI2, hI3⟩ := of_info info49
  obtain ⟨a1, c1, e⟩ : ∃ a c, s1 = .slice a ls.length c := ⟨_, _, h1.2.choose_spec.choose_spec.1⟩
  subst e
  obtain ⟨a2, c2, e⟩ : ∃ a c, s2 = .slice a xs.length c := ⟨_, _, h2.2.choose_spec.choose_spec.1⟩
  subst e
  refine HC_of_W (fn := Try.f19) Try.func19 rfl rfl rfl rfl ?_
  repeat' (first | (refine isO ?_; first | refine oo (Pc rfl) ?_ | refine oo (Pa rfl (by omega) (by omega)) ?_ | (refine ob rfl ?_ ?_ <;> intro hq <;> try (exfalso; omega)) | refine oo (Pi rfl (by omega)) ?_ | refine oo (Pl rfl) ?_ | refine oo (Px rfl rfl) ?_ | refine oo (Pj rfl (by omega) (by omega)) ?_ | refine oo (Pk rfl (by omega) (by omega)) ?_ | refine oo (Pf rfl) ?_ | refine oo (Pv rfl (by omega) (by omega)) ?_ | refine oo (Pn rfl) ?_ | refine oo (Pm rfl) ?_ | refine os rfl rfl ?_ | refine ot rfl (by omega) ?_ | refine O_nil ?_) | refine wo rfl ?_ | refine wc rfl ?_ | refine wg rfl ?_ | refine go rfl ?_ | refine gc rfl ?_ | refine gg rfl ?_)
  refine O_call rfl rfl Tb.k12 trivial rfl (lined_c 0 _ _ [] ls M (by omega) (Bs.nil M) h1 (by simp)) ?_
  rintro v M' (⟨hok, sv, m, hown, rfl, hrk⟩ | ⟨hno, rfl, hrk⟩)
  · refine O_weak hrk ?_
    clear hrk
    have hG := lined_good 0 [] ls (by omega) (by simp) hok
    have hLl := linedL_length 0 [] ls
    generalize hL : linedL 0 [] ls = L at *
    rcases hown with ⟨_, h, _⟩ | ⟨b, len, cap, sp, rfl, rfl, hl, _⟩
    · have := hG.two
      have h4 := codesV_length L
      rw [h] at h4
      simp at h4
      omega
    obtain rfl : len = L.length := by rw [codesV_length] at hl; omega
    have hlen : ∀ c ∈ L, 1 ≤ c.len ∧ c.len ≤ 20 := hG.len
    have h60 := hG.most
    repeat' (first | (refine isO ?_; first | refine oo (Pc rfl) ?_ | refine oo (Pa rfl (by omega) (by omega)) ?_ | (refine ob rfl ?_ ?_ <;> intro hq <;> try (exfalso; omega)) | refine oo (Pi rfl (by omega)) ?_ | refine oo (Pl rfl) ?_ | refine oo (Px rfl rfl) ?_ | refine oo (Pj rfl (by omega) (by omega)) ?_ | refine oo (Pk rfl (by omega) (by omega)) ?_ | refine oo (Pf rfl) ?_ | refine oo (Pv rfl (by omega) (by omega)) ?_ | refine oo (Pn rfl) ?_ | refine oo (Pm rfl) ?_ | refine os rfl rfl ?_ | refine ot rfl (by omega) ?_ | refine O_nil ?_) | refine wo rfl ?_ | refine wc rfl ?_ | refine wg rfl ?_ | refine go rfl ?_ | refine gc rfl ?_ | refine gg rfl ?_)
    refine O_callP rfl rfl Tb.k15 ⟨_, rfl, rfl⟩ rfl (whole_c L b cap true sp _ (.head _) hlen h60) ?_
    by_cases hw : whole L
    · rw [show decide (whole L) = true from decide_eq_true hw]
      repeat' (first | (refine isO ?_; first | refine oo (Pc rfl) ?_ | refine oo (Pa rfl (by omega) (by omega)) ?_ | (refine ob rfl ?_ ?_ <;> intro hq <;> try (exfalso; omega)) | refine oo (Pi rfl (by omega)) ?_ | refine oo (Pl rfl) ?_ | refine oo (Px rfl rfl) ?_ | refine oo (Pj rfl (by omega) (by omega)) ?_ | refine oo (Pk rfl (by omega) (by omega)) ?_ | refine oo (Pf rfl) ?_ | refine oo (Pv rfl (by omega) (by omega)) ?_ | refine oo (Pn rfl) ?_ | refine oo (Pm rfl) ?_ | refine os rfl rfl ?_ | refine ot rfl (by omega) ?_ | refine O_nil ?_) | refine wo rfl ?_ | refine wc rfl ?_ | refine wg rfl ?_ | refine go rfl ?_ | refine gc rfl ?_ | refine gg rfl ?_)
      · refine G_fin ⟨_, rfl, .inr ⟨fun h => ?_, rfl, .drop .rfl⟩⟩
        have := h.2.2.1
        omega
      refine W_loop (α := Nat × Value × Mem) (fun x => [(1, .slice a2 xs.length c2), (7, .slice (some ⟨b, 0, none⟩) L.length cap), (9, x.2.1), (10, .int .i64 x.1)])
        (fun x => x.2.2 ++ (⟨true, b, 0, codesV L ++ sp⟩ :: M)) (fun x => x.1 ≤ xs.length ∧ Own x.2.1 1 (ints .u64 ((xs.take x.1).map Nat.cast)) x.2.2 ∧ ∀ j, j < x.1 → xs.getD j 0 ≤ 20) (fun x => xs.length - x.1)
        (0, .slice none 0 0, []) ⟨by omega, .inl ⟨rfl, by simp [ints], rfl⟩, by intro j hj; omega⟩ ⟨rfl, rfl, rfl, rfl, trivial⟩ .rfl ?_
      rintro ⟨i, sv, m⟩ ⟨hi, hown, hall⟩
      dsimp only at hi hown hall ⊢
      repeat' (first | (refine isO ?_; first | refine oo (Pc rfl) ?_ | refine oo (Pa rfl (by omega) (by omega)) ?_ | (refine ob rfl ?_ ?_ <;> intro hq <;> try (exfalso; omega)) | refine oo (Pi rfl (by omega)) ?_ | refine oo (Pl rfl) ?_ | refine oo (Px rfl rfl) ?_ | refine oo (Pj rfl (by omega) (by omega)) ?_ | refine oo (Pk rfl (by omega) (by omega)) ?_ | refine oo (Pf rfl) ?_ | refine oo (Pv rfl (by omega) (by omega)) ?_ | refine oo (Pn rfl) ?_ | refine oo (Pm rfl) ?_ | refine os rfl rfl ?_ | refine ot rfl (by omega) ?_ | refine O_nil ?_) | refine wo rfl ?_ | refine wc rfl ?_ | refine wg rfl ?_ | refine go rfl ?_ | refine gc rfl ?_ | refine gg rfl ?_)
      · have hil : i < xs.length := by omega
        obtain ⟨b', o, cap', e, hm, hg, hlt⟩ := h2.at hil
        cases e
        have hm' : (⟨false, b', o, ints .u8 (xs.map Nat.cast)⟩ : Sg) ∈ m ++ (⟨true, b, 0, codesV L ++ sp⟩ :: M) := List.mem_append_right _ (.tail _ hm)
        obtain ⟨z, hzz⟩ : ∃ z, xs.getD i 0 = z := ⟨_, rfl⟩
        rw [hzz] at hg hlt
        repeat' (first | (refine isO ?_; first | refine oo (Pc rfl) ?_ | refine oo (Pa rfl (by omega) (by omega)) ?_ | (refine ob rfl ?_ ?_ <;> intro hq <;> try (exfalso; omega)) | refine oo (Pi rfl (by omega)) ?_ | refine oo (Pl rfl) ?_ | refine oo (Px rfl rfl) ?_ | refine oo (Pj rfl (by omega) (by omega)) ?_ | refine oo (Pk rfl (by omega) (by omega)) ?_ | refine oo (Pf rfl) ?_ | refine oo (Pv rfl (by omega) (by omega)) ?_ | refine oo (Pn rfl) ?_ | refine oo (Pm rfl) ?_ | refine os rfl rfl ?_ | refine ot rfl (by omega) ?_ | refine O_nil ?_) | refine wo rfl ?_ | refine wc rfl ?_ | refine wg rfl ?_ | refine go rfl ?_ | refine gc rfl ?_ | refine gg rfl ?_)
        refine O_pure (P_loadAt (o := o) (n := i) Tb.p5 rfl (by omega) hm' hg) trivial rfl ?_
        repeat' (first | (refine isO ?_; first | refine oo (Pc rfl) ?_ | refine oo (Pa rfl (by omega) (by omega)) ?_ | (refine ob rfl ?_ ?_ <;> intro hq <;> try (exfalso; omega)) | refine oo (Pi rfl (by omega)) ?_ | refine oo (Pl rfl) ?_ | refine oo (Px rfl rfl) ?_ | refine oo (Pj rfl (by omega) (by omega)) ?_ | refine oo (Pk rfl (by omega) (by omega)) ?_ | refine oo (Pf rfl) ?_ | refine oo (Pv rfl (by omega) (by omega)) ?_ | refine oo (Pn rfl) ?_ | refine oo (Pm rfl) ?_ | refine os rfl rfl ?_ | refine ot rfl (by omega) ?_ | refine O_nil ?_) | refine wo rfl ?_ | refine wc rfl ?_ | refine wg rfl ?_ | refine go rfl ?_ | refine gc rfl ?_ | refine gg rfl ?_)
        · refine G_fin ⟨_, rfl, .inr ⟨fun h => ?_, rfl, .trans (Rk.right m _) (.drop .rfl)⟩⟩
          have := h.2.2.2 i hil
          omega
        refine O_pure (P_loadAt (o := o) (n := i) Tb.p5 rfl (by omega) hm' hg) trivial rfl ?_
        repeat' (first | (refine isO ?_; first | refine oo (Pc rfl) ?_ | refine oo (Pa rfl (by omega) (by omega)) ?_ | (refine ob rfl ?_ ?_ <;> intro hq <;> try (exfalso; omega)) | refine oo (Pi rfl (by omega)) ?_ | refine oo (Pl rfl) ?_ | refine oo (Px rfl rfl) ?_ | refine oo (Pj rfl (by omega) (by omega)) ?_ | refine oo (Pk rfl (by omega) (by omega)) ?_ | refine oo (Pf rfl) ?_ | refine oo (Pv rfl (by omega) (by omega)) ?_ | refine oo (Pn rfl) ?_ | refine oo (Pm rfl) ?_ | refine os rfl rfl ?_ | refine ot rfl (by omega) ?_ | refine O_nil ?_) | refine wo rfl ?_ | refine wc rfl ?_ | refine wg rfl ?_ | refine go rfl ?_ | refine gc rfl ?_ | refine gg rfl ?_)
        refine O_buildSlice rfl (row63_1 _) trivial rfl fun by1 => ?_
        refine O_append (m := m) (M0 := ⟨true, by1, 0, [.int .u64 (z : Int)]⟩ :: ⟨true, b, 0, codesV L ++ sp⟩ :: M) Tb.u63 Tb.u63 hI hI1 (by decide) (by omega) hI3 rfl rfl rfl hown (.perm List.perm_middle.symm) (len := i) (by rw [ints_length, List.length_map, List.length_take]; omega) (.head _) (Nat.le_refl 1)
          (fun v hv => by rw [List.mem_singleton] at hv; subst hv; rfl) (.inl (by omega)) (by rw [hI2]; omega) trivial rfl fun b2 c2 s2 h2 => ?_
        rw [ints_take' xs i hil hzz] at h2 ⊢
        repeat' (first | (refine isO ?_; first | refine oo (Pc rfl) ?_ | refine oo (Pa rfl (by omega) (by omega)) ?_ | (refine ob rfl ?_ ?_ <;> intro hq <;> try (exfalso; omega)) | refine oo (Pi rfl (by omega)) ?_ | refine oo (Pl rfl) ?_ | refine oo (Px rfl rfl) ?_ | refine oo (Pj rfl (by omega) (by omega)) ?_ | refine oo (Pk rfl (by omega) (by omega)) ?_ | refine oo (Pf rfl) ?_ | refine oo (Pv rfl (by omega) (by omega)) ?_ | refine oo (Pn rfl) ?_ | refine oo (Pm rfl) ?_ | refine os rfl rfl ?_ | refine ot rfl (by omega) ?_ | refine O_nil ?_) | refine wo rfl ?_ | refine wc rfl ?_ | refine wg rfl ?_ | refine go rfl ?_ | refine gc rfl ?_ | refine gg rfl ?_)
        refine G_stop ⟨(i + 1, .slice (some ⟨b2, 0, none⟩) (i + 1) c2, [⟨true, b2, 0, ints .u64 ((xs.take (i + 1)).map Nat.cast) ++ s2⟩]), ⟨by omega, .inr ⟨b2, i + 1, c2, s2, rfl, rfl, by rw [ints_length, List.length_map, List.length_take]; omega, h2⟩, ?_⟩, by dsimp only; omega, ⟨rfl, rfl, rfl, rfl, trivial⟩, .cons .head (.drop .rfl)⟩
        intro j hj
        by_cases hji : j = i
        · subst hji; omega
        · exact hall j (by dsimp only at hj; omega)
      · obtain rfl : i = xs.length := by omega
        rw [List.take_length] at hown
        have hokx : OkN xs := ⟨by omega, hall⟩
        have hu : Us sv xs (m ++ (⟨true, b, 0, codesV L ++ sp⟩ :: M)) := (Us.of_own hown).mono fun x hx => List.mem_append_left _ hx
        refine O_call rfl rfl Tb.k34 trivial rfl (mk34_c 0 sv xs _ (by omega) hu hokx) ?_
        rintro _ M' ⟨s3, m3, hown3, rfl, hrk⟩
        refine O_weak (M' := ⟨true, b, 0, codesV L ++ sp⟩ :: (m3 ++ M)) (.trans hrk (.trans (Rk.app m3 (Rk.right m _)) (.perm List.perm_middle))) ?_
        clear hrk hown hu
        repeat' (first | (refine isO ?_; first | refine oo (Pc rfl) ?_ | refine oo (Pa rfl (by omega) (by omega)) ?_ | (refine ob rfl ?_ ?_ <;> intro hq <;> try (exfalso; omega)) | refine oo (Pi rfl (by omega)) ?_ | refine oo (Pl rfl) ?_ | refine oo (Px rfl rfl) ?_ | refine oo (Pj rfl (by omega) (by omega)) ?_ | refine oo (Pk rfl (by omega) (by omega)) ?_ | refine oo (Pf rfl) ?_ | refine oo (Pv rfl (by omega) (by omega)) ?_ | refine oo (Pn rfl) ?_ | refine oo (Pm rfl) ?_ | refine os rfl rfl ?_ | refine ot rfl (by omega) ?_ | refine O_nil ?_) | refine wo rfl ?_ | refine wc rfl ?_ | refine wg rfl ?_ | refine go rfl ?_ | refine gc rfl ?_ | refine gg rfl ?_)
        refine O_call rfl rfl Tb.k17 trivial rfl (canonical_c L hG true b cap sp _) ?_
        rintro _ M' ⟨b3, c3, sp3, rfl, hrk⟩
        refine O_weak hrk ?_
        clear hrk
        repeat' (first | (refine isO ?_; first | refine oo (Pc rfl) ?_ | refine oo (Pa rfl (by omega) (by omega)) ?_ | (refine ob rfl ?_ ?_ <;> intro hq <;> try (exfalso; omega)) | refine oo (Pi rfl (by omega)) ?_ | refine oo (Pl rfl) ?_ | refine oo (Px rfl rfl) ?_ | refine oo (Pj rfl (by omega) (by omega)) ?_ | refine oo (Pk rfl (by omega) (by omega)) ?_ | refine oo (Pf rfl) ?_ | refine oo (Pv rfl (by omega) (by omega)) ?_ | refine oo (Pn rfl) ?_ | refine oo (Pm rfl) ?_ | refine os rfl rfl ?_ | refine ot rfl (by omega) ?_ | refine O_nil ?_) | refine wo rfl ?_ | refine wc rfl ?_ | refine wg rfl ?_ | refine go rfl ?_ | refine gc rfl ?_ | refine gg rfl ?_)
        refine G_fin ⟨_, rfl, .inl ⟨⟨hok, hL ▸ hw, hokx⟩, b3, c3, sp3, s3, m3, ?_, hown3, .cons .head (.drop .rfl)⟩⟩
        rw [← hLl]
    · rw [show decide (whole L) = false from decide_eq_false hw]
      repeat' (first | (refine isO ?_; first | refine oo (Pc rfl) ?_ | refine oo (Pa rfl (by omega) (by omega)) ?_ | (refine ob rfl ?_ ?_ <;> intro hq <;> try (exfalso; omega)) | refine oo (Pi rfl (by omega)) ?_ | refine oo (Pl rfl) ?_ | refine oo (Px rfl rfl) ?_ | refine oo (Pj rfl (by omega) (by omega)) ?_ | refine oo (Pk rfl (by omega) (by omega)) ?_ | refine oo (Pf rfl) ?_ | refine oo (Pv rfl (by omega) (by omega)) ?_ | refine oo (Pn rfl) ?_ | refine oo (Pm rfl) ?_ | refine os rfl rfl ?_ | refine ot rfl (by omega) ?_ | refine O_nil ?_) | refine wo rfl ?_ | refine wc rfl ?_ | refine wg rfl ?_ | refine go rfl ?_ | refine gc rfl ?_ | refine gg rfl ?_)
      exact G_fin ⟨_, rfl, .inr ⟨fun h => hw (hL ▸ h.2.1), rfl, .drop .rfl⟩⟩
  · refine O_weak hrk ?_
    clear hrk
    repeat' (first | (refine isO ?_; first | refine oo (Pc rfl) ?_ | refine oo (Pa rfl (by omega) (by omega)) ?_ | (refine ob rfl ?_ ?_ <;> intro hq <;> try (exfalso; omega)) | refine oo (Pi rfl (by omega)) ?_ | refine oo (Pl rfl) ?_ | refine oo (Px rfl rfl) ?_ | refine oo (Pj rfl (by omega) (by omega)) ?_ | refine oo (Pk rfl (by omega) (by omega)) ?_ | refine oo (Pf rfl) ?_ | refine oo (Pv rfl (by omega) (by omega)) ?_ | refine oo (Pn rfl) ?_ | refine oo (Pm rfl) ?_ | refine os rfl rfl ?_ | refine ot rfl (by omega) ?_ | refine O_nil ?_) | refine wo rfl ?_ | refine wc rfl ?_ | refine wg rfl ?_ | refine go rfl ?_ | refine gc rfl ?_ | refine gg rfl ?_)
    exact G_fin ⟨_, rfl, .inr ⟨fun h => hno h.1, rfl, .rfl⟩⟩
end Go.Proofs.Ytjkpfliaflmppaa.Pc

namespace Go.Proofs.Ytjkpfliaflmppaa.Wr
open Go Go.RowKit Go.Proofs.Ytjkpfliaflmppaa.Vm Go.Proofs.Ytjkpfliaflmppaa.Bu

theorem flushg_c (wb bb off : Nat) (v nb : Nat) (big : Bool) (buf : List Int) (cnt : Nat) (s : Value) (out : List Int) (m : Mem) (lr : Int) (F : Mem) (hbuf : buf.length = 512) (hcnt : cnt < 504) (hv : v < 2 ^ 64) (hnb : nb ≤ 64)
    (hB : Bg s out m) (hout : out.length ≤ 1000000000) (hoff : off ≤ 1099511627776) :
    HC Try.prog 61 #[.pointer (some ⟨wb, 0, none⟩)] (Wa wb off (.iface 101 (.pointer (some ⟨bb, 0, none⟩))) v nb big :: Wb wb buf :: Wc wb cnt :: ⟨true, bb, 0, [s, .int .i64 0, .int .i8 lr]⟩ :: (m ++ F))
      (fun r M' => (∃ z, r = .tuple #[z, .nilIface]) ∧ ∃ buf' s' m' lr', buf'.length = 512 ∧ Bg s' (out ++ (lay8 buf cnt (sw big v)).take (cnt + nb / 8)) m' ∧
        Rk M' (Wa wb (off + (cnt + nb / 8)) (.iface 101 (.pointer (some ⟨bb, 0, none⟩))) (v / 2 ^ (8 * (nb / 8))) (nb % 8) big :: Wb wb buf' :: Wc wb 0 :: ⟨true, bb, 0, [s', .int .i64 0, .int .i8 lr']⟩ :: (m' ++ F))) := by
  refine HC_of_W (fn := Try.f61) Try.func61 rfl rfl rfl rfl ?_
  have hp := push_c wb off (.iface 101 (.pointer (some ⟨bb, 0, none⟩))) v nb big buf cnt (⟨true, bb, 0, [s, .int .i64 0, .int .i8 lr]⟩ :: (m ++ F)) hbuf hcnt hv hnb
  unfold Wa Wb Wc at *
  repeat' (first | (refine isO ?_; first | refine oo (Pc rfl) ?_ | refine oo (Pa rfl (by omega) (by omega)) ?_ | (refine ob rfl ?_ ?_ <;> intro hq <;> try (exfalso; omega)) | refine oo (Pi rfl (by omega)) ?_ | refine oo (Pl rfl) ?_ | refine oo (Px rfl rfl) ?_ | refine oo (Pj rfl (by omega) (by omega)) ?_ | refine oo (Pk rfl (by omega) (by omega)) ?_ | refine oo (Pf rfl) ?_ | refine oo (Pv rfl (by omega) (by omega)) ?_ | refine oo (Pn rfl) ?_ | refine oo (Pm rfl) ?_ | refine os rfl rfl ?_ | refine ot rfl (by omega) ?_ | refine O_nil ?_) | refine wo rfl ?_ | refine wc rfl ?_ | refine wg rfl ?_ | refine go rfl ?_ | refine gc rfl ?_ | refine gg rfl ?_)
  · obtain rfl : cnt = 0 := by omega
    have h0 : nb / 8 = 0 := by omega
    refine G_fin ⟨_, rfl, ⟨_, rfl⟩, buf, s, m, lr, hbuf, by rw [h0]; simpa using hB, ?_⟩
    rw [h0, show nb % 8 = nb by omega]
    simp only [Nat.mul_zero, Nat.pow_zero, Nat.div_one, Nat.add_zero]
    repeat (first | exact .rfl | exact .nil | (apply Rk.cons; (· exact TakeI.out)) | refine .drop ?_)
  all_goals
    refine O_call rfl rfl Tb.k99 trivial rfl hp ?_
    rintro _ M' ⟨rfl, hrk⟩
    refine O_weak hrk ?_
    repeat' (first | (refine isO ?_; first | refine oo (Pc rfl) ?_ | refine oo (Pa rfl (by omega) (by omega)) ?_ | (refine ob rfl ?_ ?_ <;> intro hq <;> try (exfalso; omega)) | refine oo (Pi rfl (by omega)) ?_ | refine oo (Pl rfl) ?_ | refine oo (Px rfl rfl) ?_ | refine oo (Pj rfl (by omega) (by omega)) ?_ | refine oo (Pk rfl (by omega) (by omega)) ?_ | refine oo (Pf rfl) ?_ | refine oo (Pv rfl (by omega) (by omega)) ?_ | refine oo (Pn rfl) ?_ | refine oo (Pm rfl) ?_ | refine os rfl rfl ?_ | refine ot rfl (by omega) ?_ | refine O_nil ?_) | refine wo rfl ?_ | refine wc rfl ?_ | refine wg rfl ?_ | refine go rfl ?_ | refine gc rfl ?_ | refine gg rfl ?_)
    refine O_pure (P_err_ne Tb.i82 rfl rfl) trivial rfl ?_
    repeat' (first | (refine isO ?_; first | refine oo (Pc rfl) ?_ | refine oo (Pa rfl (by omega) (by omega)) ?_ | (refine ob rfl ?_ ?_ <;> intro hq <;> try (exfalso; omega)) | refine oo (Pi rfl (by omega)) ?_ | refine oo (Pl rfl) ?_ | refine oo (Px rfl rfl) ?_ | refine oo (Pj rfl (by omega) (by omega)) ?_ | refine oo (Pk rfl (by omega) (by omega)) ?_ | refine oo (Pf rfl) ?_ | refine oo (Pv rfl (by omega) (by omega)) ?_ | refine oo (Pn rfl) ?_ | refine oo (Pm rfl) ?_ | refine os rfl rfl ?_ | refine ot rfl (by omega) ?_ | refine O_nil ?_) | refine wo rfl ?_ | refine wc rfl ?_ | refine wg rfl ?_ | refine go rfl ?_ | refine gc rfl ?_ | refine gg rfl ?_)
    refine W_region_mid 14 Tb.mixed (by kernel_rfl) ?_
    simp only [List.take_succ_cons, List.take_zero, List.drop_succ_cons, List.drop_zero]
    repeat' (first | (refine isS ?_; first | refine ss (Pc rfl) ?_ | refine ss (Pa rfl (by omega) (by omega)) ?_ | (refine sb rfl ?_ ?_ <;> intro hq <;> try (exfalso; omega)) | refine ss (Pi rfl (by omega)) ?_ | refine ss (Pl rfl) ?_ | refine ss (Px rfl rfl) ?_ | refine ss (Pj rfl (by omega) (by omega)) ?_ | refine ss (Pk rfl (by omega) (by omega)) ?_ | refine ss (Pf rfl) ?_ | refine ss (Pv rfl (by omega) (by omega)) ?_ | refine ss (Pn rfl) ?_ | refine ss (Pm rfl) ?_ | refine OS_nil ?_))
    refine OS_pure (P_sliceA1E (o' := 5) (len' := cnt + nb / 8) (cap' := 512) Tb.u97 Tb.c5 rfl rfl ⟨_, rfl⟩ (by omega) (by omega) (by omega) (by omega) rfl (by omega) (by omega)) trivial rfl ?_
    refine OS_pure (P_nilI rfl) trivial rfl ?_
    repeat' (first | (refine isS ?_; first | refine ss (Pc rfl) ?_ | refine ss (Pa rfl (by omega) (by omega)) ?_ | (refine sb rfl ?_ ?_ <;> intro hq <;> try (exfalso; omega)) | refine ss (Pi rfl (by omega)) ?_ | refine ss (Pl rfl) ?_ | refine ss (Px rfl rfl) ?_ | refine ss (Pj rfl (by omega) (by omega)) ?_ | refine ss (Pk rfl (by omega) (by omega)) ?_ | refine ss (Pf rfl) ?_ | refine ss (Pv rfl (by omega) (by omega)) ?_ | refine ss (Pn rfl) ?_ | refine ss (Pm rfl) ?_ | refine OS_nil ?_))
    refine O_invoke rfl rfl (meth_write bb _) trivial rfl (HCp.take (L := ⟨true, bb, 0, [s, .int .i64 0, .int .i8 lr]⟩ :: (m ++ (Wa wb off (.iface 101 (.pointer (some ⟨bb, 0, none⟩))) (v / 2 ^ (8 * (nb / 8))) (nb % 8) big :: Wb wb (lay8 buf cnt (sw big v)) :: Wc wb (cnt + nb / 8) :: F)))
      (.cons (by exact TakeI.out) (.perm (List.perm_append_comm_assoc [_, _, _] m F)))
      (writeg_c bb s out ((lay8 buf cnt (sw big v)).take (cnt + nb / 8)) m _ (cnt + nb / 8) _ lr _ hB (by rw [List.length_take, lay8_length]; omega) (by omega)
        (.inr ⟨true, wb, 5, ints .u8 (lay8 buf cnt (sw big v)), 0, rfl, .tail _ (.head _), by rw [ints_length, lay8_length]; omega, by simp [ints, List.map_take], ints_one⟩))) ?_
    rintro _ M' ⟨rfl, s', m', hB', hrk'⟩
    refine O_weak (M' := Wa wb off (.iface 101 (.pointer (some ⟨bb, 0, none⟩))) (v / 2 ^ (8 * (nb / 8))) (nb % 8) big :: Wb wb (lay8 buf cnt (sw big v)) :: Wc wb (cnt + nb / 8) :: ⟨true, bb, 0, [s', .int .i64 0, .int .i8 0]⟩ :: (m' ++ F))
      (.trans hrk' (.trans (.perm (.cons _ (List.perm_append_comm_assoc m' [_, _, _] F))) (.cons (.tail .head) (.cons (.tail .head) (.cons (.tail .head) .rfl))))) ?_
    refine O_nil (G_fin ⟨rfl, ?_⟩)
    unfold Wa Wb Wc
    repeat' (first | (refine isS ?_; first | refine ss (Pc rfl) ?_ | refine ss (Pa rfl (by omega) (by omega)) ?_ | (refine sb rfl ?_ ?_ <;> intro hq <;> try (exfalso; omega)) | refine ss (Pi rfl (by omega)) ?_ | refine ss (Pl rfl) ?_ | refine ss (Px rfl rfl) ?_ | refine ss (Pj rfl (by omega) (by omega)) ?_ | refine ss (Pk rfl (by omega) (by omega)) ?_ | refine ss (Pf rfl) ?_ | refine ss (Pv rfl (by omega) (by omega)) ?_ | refine ss (Pn rfl) ?_ | refine ss (Pm rfl) ?_ | refine OS_nil ?_))
    repeat' (first | (refine isO ?_; first | refine oo (Pc rfl) ?_ | refine oo (Pa rfl (by omega) (by omega)) ?_ | (refine ob rfl ?_ ?_ <;> intro hq <;> try (exfalso; omega)) | refine oo (Pi rfl (by omega)) ?_ | refine oo (Pl rfl) ?_ | refine oo (Px rfl rfl) ?_ | refine oo (Pj rfl (by omega) (by omega)) ?_ | refine oo (Pk rfl (by omega) (by omega)) ?_ | refine oo (Pf rfl) ?_ | refine oo (Pv rfl (by omega) (by omega)) ?_ | refine oo (Pn rfl) ?_ | refine oo (Pm rfl) ?_ | refine os rfl rfl ?_ | refine ot rfl (by omega) ?_ | refine O_nil ?_) | refine wo rfl ?_ | refine wc rfl ?_ | refine wg rfl ?_ | refine go rfl ?_ | refine gc rfl ?_ | refine gg rfl ?_)
    refine G_fin ⟨_, rfl, ⟨_, rfl⟩, lay8 buf cnt (sw big v), s', m', 0, by rw [lay8_length]; exact hbuf, hB', ?_⟩
    rw [show ((0 : Nat) : Int) = ((cnt + nb / 8 : Nat) : Int) - ((cnt + nb / 8 : Nat) : Int) by omega]
    repeat (first | exact .rfl | exact .nil | (apply Rk.cons; (· exact TakeI.out)) | refine .drop ?_)
end Go.Proofs.Ytjkpfliaflmppaa.Wr

namespace Go.Proofs.Ytjkpfliaflmppaa.Wr
open Go Go.RowKit Go.Proofs.Ytjkpfliaflmppaa.Vm Go.Proofs.Ytjkpfliaflmppaa.Bu Go.Proofs.Ytjkpfliaflmppaa.Pc

theorem chunk_len (v n : Nat) (hn : n ≤ 20) : (v * 32 ||| n) &&& 31 = n := by
  have h := Nat.and_two_pow_sub_one_eq_mod (v * 32 ||| n) 5
  simp only [Nat.reducePow, Nat.reduceSub] at h
  rw [h]
  apply Nat.eq_of_testBit_eq
  intro i
  rw [show (32 : Nat) = 2 ^ 5 from rfl, Nat.testBit_mod_two_pow, Nat.testBit_or, Nat.testBit_mul_two_pow]
  by_cases hi : i < 5
  · rw [decide_eq_true hi, decide_eq_false (show ¬ 5 ≤ i by omega)]; simp
  · rw [decide_eq_false hi, Nat.testBit_lt_two_pow (Nat.lt_of_lt_of_le (show n < 2 ^ 5 by omega) (Nat.pow_le_pow_right (by omega) (by omega)))]; simp
theorem chunk_val (v n : Nat) (hn : n ≤ 20) : (v * 32 ||| n) / 2 ^ 5 = v := by
  apply Nat.eq_of_testBit_eq
  intro i
  rw [Nat.testBit_div_two_pow, Nat.testBit_or, show (32 : Nat) = 2 ^ 5 from rfl, Nat.testBit_mul_two_pow, Nat.testBit_lt_two_pow (x := n) (i := i + 5) (Nat.lt_of_lt_of_le (show n < 2 ^ 5 by omega) (Nat.pow_le_pow_right (by omega) (by omega)))]
  simp
theorem chunk_lt (v n : Nat) (hv : v < 1048576) (hn : n ≤ 20) : v * 32 ||| n < 2 ^ 32 := Nat.or_lt_two_pow (by omega) (by omega)

set_option maxHeartbeats 1000000 in
theorem sym_c (wb off : Nat) (wv : Value) (v nb : Nat) (big : Bool) (buf : List Int) (cnt : Nat) (x eb j cb cc : Nat) (ch : List Int) (cs : List Cd) (F : Mem) (hbuf : buf.length = 512) (hcnt : cnt < 504) (hv : v < 2 ^ 64) (hnb : nb ≤ 64)
    (hN : Numbered cs) (hT : EncT cs j cc ch) (hE : (EncR eb cs.length j cb cc : Sg) ∈ F) (hC : (⟨true, cb, 0, ints .u32 ch⟩ : Sg) ∈ F) (hx : x < cs.length) :
    HC Try.prog 56 #[.pointer (some ⟨wb, 0, none⟩), .int .u64 x, .pointer (some ⟨eb, 0, none⟩)] (Wa wb off wv v nb big :: Wb wb buf :: Wc wb cnt :: F)
      (fun _ M' => Rk M' (Wa wb off wv (v / 2 ^ (8 * (nb / 8)) ||| (cs.getD x Cd.zero).val * 2 ^ (nb % 8) % 2 ^ 64) (nb % 8 + (cs.getD x Cd.zero).len) big :: Wb wb (lay8 buf cnt (sw big v)) :: Wc wb (cnt + nb / 8) :: F)) := by
  obtain ⟨hj, hnj, hcc, hcl, hch⟩ := hT
  have h60 := hN.most
  have hp6 := pow6 hj
  have hch := hch x hx
  have hl := hN.len x hx
  have hvl := hN.val x hx
  unfold EncR at hE
  unfold chunkOf at hch
  have hand := and_mask (show x < 2 ^ j by omega)
  have hch : (ints .u32 ch)[x]? = some (.int .u32 (((cs.getD x Cd.zero).val * 32 ||| (cs.getD x Cd.zero).len : Nat) : Int)) := by rw [ints_get (by omega), hch]
  generalize (cs.getD x Cd.zero).val = cv at *
  generalize (cs.getD x Cd.zero).len = cl at *
  have hk1 := chunk_len cv cl hl.2
  have hk2 := chunk_val cv cl hl.2
  have hk3 := chunk_lt cv cl hvl hl.2
  generalize (cv * 32 ||| cl) = ck at *
  refine HC_of_W (fn := Try.f56) Try.func56 rfl rfl rfl rfl ?_
  repeat' (first | (refine isO ?_; first | refine oo (Pc rfl) ?_ | refine oo (Pa rfl (by omega) (by omega)) ?_ | (refine ob rfl ?_ ?_ <;> intro hq <;> try (exfalso; omega)) | refine oo (Pi rfl (by omega)) ?_ | refine oo (Pl rfl) ?_ | refine oo (Px rfl rfl) ?_ | refine oo (Pj rfl (by omega) (by omega)) ?_ | refine oo (Pk rfl (by omega) (by omega)) ?_ | refine oo (Pf rfl) ?_ | refine oo (Pv rfl (by omega) (by omega)) ?_ | refine oo (Pn rfl) ?_ | refine oo (Pm rfl) ?_ | refine os rfl rfl ?_ | refine ot rfl (by omega) ?_ | refine O_nil ?_) | refine wo rfl ?_ | refine wc rfl ?_ | refine wg rfl ?_ | refine go rfl ?_ | refine gc rfl ?_ | refine gg rfl ?_)
  refine O_call rfl rfl Tb.k99 trivial rfl (push_c wb off wv v nb big buf cnt F hbuf hcnt hv hnb) ?_
  rintro _ M' ⟨rfl, hrk⟩
  refine O_weak hrk ?_
  unfold Wa Wb Wc
  repeat' (first | (refine isO ?_; first | refine oo (Pc rfl) ?_ | refine oo (Pa rfl (by omega) (by omega)) ?_ | (refine ob rfl ?_ ?_ <;> intro hq <;> try (exfalso; omega)) | refine oo (Pi rfl (by omega)) ?_ | refine oo (Pl rfl) ?_ | refine oo (Px rfl rfl) ?_ | refine oo (Pj rfl (by omega) (by omega)) ?_ | refine oo (Pk rfl (by omega) (by omega)) ?_ | refine oo (Pf rfl) ?_ | refine oo (Pv rfl (by omega) (by omega)) ?_ | refine oo (Pn rfl) ?_ | refine oo (Pm rfl) ?_ | refine os rfl rfl ?_ | refine ot rfl (by omega) ?_ | refine O_nil ?_) | refine wo rfl ?_ | refine wc rfl ?_ | refine wg rfl ?_ | refine go rfl ?_ | refine gc rfl ?_ | refine gg rfl ?_)
  refine O_pure (P_err_ne Tb.i82 rfl rfl) trivial rfl ?_
  repeat' (first | (refine isO ?_; first | refine oo (Pc rfl) ?_ | refine oo (Pa rfl (by omega) (by omega)) ?_ | (refine ob rfl ?_ ?_ <;> intro hq <;> try (exfalso; omega)) | refine oo (Pi rfl (by omega)) ?_ | refine oo (Pl rfl) ?_ | refine oo (Px rfl rfl) ?_ | refine oo (Pj rfl (by omega) (by omega)) ?_ | refine oo (Pk rfl (by omega) (by omega)) ?_ | refine oo (Pf rfl) ?_ | refine oo (Pv rfl (by omega) (by omega)) ?_ | refine oo (Pn rfl) ?_ | refine oo (Pm rfl) ?_ | refine os rfl rfl ?_ | refine ot rfl (by omega) ?_ | refine O_nil ?_) | refine wo rfl ?_ | refine wc rfl ?_ | refine wg rfl ?_ | refine go rfl ?_ | refine gc rfl ?_ | refine gg rfl ?_)
  (refine W_region_still Tb.mixed (by kernel_rfl) ?_; (repeat' (first | (refine isS ?_; first | refine ss (Pc rfl) ?_ | refine ss (Pa rfl (by omega) (by omega)) ?_ | (refine sb rfl ?_ ?_ <;> intro hq <;> try (exfalso; omega)) | refine ss (Pi rfl (by omega)) ?_ | refine ss (Pl rfl) ?_ | refine ss (Px rfl rfl) ?_ | refine ss (Pj rfl (by omega) (by omega)) ?_ | refine ss (Pk rfl (by omega) (by omega)) ?_ | refine ss (Pf rfl) ?_ | refine ss (Pv rfl (by omega) (by omega)) ?_ | refine ss (Pn rfl) ?_ | refine ss (Pm rfl) ?_ | refine OS_nil ?_))); refine OS_pure (P_loadAt (o := 0) (n := 0) Tb.p46 rfl rfl (.tail _ (.tail _ (.tail _ hE))) rfl) trivial rfl ?_; (repeat' (first | (refine isS ?_; first | refine ss (Pc rfl) ?_ | refine ss (Pa rfl (by omega) (by omega)) ?_ | (refine sb rfl ?_ ?_ <;> intro hq <;> try (exfalso; omega)) | refine ss (Pi rfl (by omega)) ?_ | refine ss (Pl rfl) ?_ | refine ss (Px rfl rfl) ?_ | refine ss (Pj rfl (by omega) (by omega)) ?_ | refine ss (Pk rfl (by omega) (by omega)) ?_ | refine ss (Pf rfl) ?_ | refine ss (Pv rfl (by omega) (by omega)) ?_ | refine ss (Pn rfl) ?_ | refine ss (Pm rfl) ?_ | refine OS_nil ?_))); refine OS_pure (P_loadAt (o := 0) (n := 1) Tb.p40 rfl rfl (.tail _ (.tail _ (.tail _ hE))) rfl) trivial rfl ?_; refine OS_pure (P_is (P_bitN (p := x) (q := 2 ^ j - 1) rfl rfl rfl rfl (by simp only [IntKind.bits]; omega) (by simp only [IntKind.bits]; omega)) (congrArg (fun y : Nat => Value.int .u32 (y : Int)) hand)) trivial rfl ?_; (repeat' (first | (refine isS ?_; first | refine ss (Pc rfl) ?_ | refine ss (Pa rfl (by omega) (by omega)) ?_ | (refine sb rfl ?_ ?_ <;> intro hq <;> try (exfalso; omega)) | refine ss (Pi rfl (by omega)) ?_ | refine ss (Pl rfl) ?_ | refine ss (Px rfl rfl) ?_ | refine ss (Pj rfl (by omega) (by omega)) ?_ | refine ss (Pk rfl (by omega) (by omega)) ?_ | refine ss (Pf rfl) ?_ | refine ss (Pv rfl (by omega) (by omega)) ?_ | refine ss (Pn rfl) ?_ | refine ss (Pm rfl) ?_ | refine OS_nil ?_))); refine OS_pure (P_loadAt (o := 0) (n := x) Tb.p40 rfl (by omega) (.tail _ (.tail _ (.tail _ hC))) hch) trivial rfl ?_; (repeat' (first | (refine isS ?_; first | refine ss (Pc rfl) ?_ | refine ss (Pa rfl (by omega) (by omega)) ?_ | (refine sb rfl ?_ ?_ <;> intro hq <;> try (exfalso; omega)) | refine ss (Pi rfl (by omega)) ?_ | refine ss (Pl rfl) ?_ | refine ss (Px rfl rfl) ?_ | refine ss (Pj rfl (by omega) (by omega)) ?_ | refine ss (Pk rfl (by omega) (by omega)) ?_ | refine ss (Pf rfl) ?_ | refine ss (Pv rfl (by omega) (by omega)) ?_ | refine ss (Pn rfl) ?_ | refine ss (Pm rfl) ?_ | refine OS_nil ?_))))
  repeat' (first | (refine isO ?_; first | refine oo (Pc rfl) ?_ | refine oo (Pa rfl (by omega) (by omega)) ?_ | (refine ob rfl ?_ ?_ <;> intro hq <;> try (exfalso; omega)) | refine oo (Pi rfl (by omega)) ?_ | refine oo (Pl rfl) ?_ | refine oo (Px rfl rfl) ?_ | refine oo (Pj rfl (by omega) (by omega)) ?_ | refine oo (Pk rfl (by omega) (by omega)) ?_ | refine oo (Pf rfl) ?_ | refine oo (Pv rfl (by omega) (by omega)) ?_ | refine oo (Pn rfl) ?_ | refine oo (Pm rfl) ?_ | refine os rfl rfl ?_ | refine ot rfl (by omega) ?_ | refine O_nil ?_) | refine wo rfl ?_ | refine wc rfl ?_ | refine wg rfl ?_ | refine go rfl ?_ | refine gc rfl ?_ | refine gg rfl ?_)
  refine O_pure (P_is (P_bitN (p := ck) (q := 31) rfl rfl rfl rfl hk3 (by decide)) (congrArg (fun y : Nat => Value.int .u32 (y : Int)) hk1)) trivial rfl ?_
  repeat' (first | (refine isO ?_; first | refine oo (Pc rfl) ?_ | refine oo (Pa rfl (by omega) (by omega)) ?_ | (refine ob rfl ?_ ?_ <;> intro hq <;> try (exfalso; omega)) | refine oo (Pi rfl (by omega)) ?_ | refine oo (Pl rfl) ?_ | refine oo (Px rfl rfl) ?_ | refine oo (Pj rfl (by omega) (by omega)) ?_ | refine oo (Pk rfl (by omega) (by omega)) ?_ | refine oo (Pf rfl) ?_ | refine oo (Pv rfl (by omega) (by omega)) ?_ | refine oo (Pn rfl) ?_ | refine oo (Pm rfl) ?_ | refine os rfl rfl ?_ | refine ot rfl (by omega) ?_ | refine O_nil ?_) | refine wo rfl ?_ | refine wc rfl ?_ | refine wg rfl ?_ | refine go rfl ?_ | refine gc rfl ?_ | refine gg rfl ?_)
  refine W_region_tail 12 Tb.mixed (by kernel_rfl) ?_
  simp only [List.take_succ_cons, List.take_zero, List.drop_succ_cons, List.drop_zero]
  repeat' (first | (refine isS ?_; first | refine ss (Pc rfl) ?_ | refine ss (Pa rfl (by omega) (by omega)) ?_ | (refine sb rfl ?_ ?_ <;> intro hq <;> try (exfalso; omega)) | refine ss (Pi rfl (by omega)) ?_ | refine ss (Pl rfl) ?_ | refine ss (Px rfl rfl) ?_ | refine ss (Pj rfl (by omega) (by omega)) ?_ | refine ss (Pk rfl (by omega) (by omega)) ?_ | refine ss (Pf rfl) ?_ | refine ss (Pv rfl (by omega) (by omega)) ?_ | refine ss (Pn rfl) ?_ | refine ss (Pm rfl) ?_ | refine OS_nil ?_))
  refine OS_pure (P_shrE (p := ck) (q := 5) (r := cv) rfl rfl hk3 hk2) trivial rfl ?_
  repeat' (first | (refine isS ?_; first | refine ss (Pc rfl) ?_ | refine ss (Pa rfl (by omega) (by omega)) ?_ | (refine sb rfl ?_ ?_ <;> intro hq <;> try (exfalso; omega)) | refine ss (Pi rfl (by omega)) ?_ | refine ss (Pl rfl) ?_ | refine ss (Px rfl rfl) ?_ | refine ss (Pj rfl (by omega) (by omega)) ?_ | refine ss (Pk rfl (by omega) (by omega)) ?_ | refine ss (Pf rfl) ?_ | refine ss (Pv rfl (by omega) (by omega)) ?_ | refine ss (Pn rfl) ?_ | refine ss (Pm rfl) ?_ | refine OS_nil ?_))
  refine OS_pure (P_shlN (p := cv) (q := nb % 8) rfl rfl rfl) trivial rfl ?_
  repeat' (first | (refine isS ?_; first | refine ss (Pc rfl) ?_ | refine ss (Pa rfl (by omega) (by omega)) ?_ | (refine sb rfl ?_ ?_ <;> intro hq <;> try (exfalso; omega)) | refine ss (Pi rfl (by omega)) ?_ | refine ss (Pl rfl) ?_ | refine ss (Px rfl rfl) ?_ | refine ss (Pj rfl (by omega) (by omega)) ?_ | refine ss (Pk rfl (by omega) (by omega)) ?_ | refine ss (Pf rfl) ?_ | refine ss (Pv rfl (by omega) (by omega)) ?_ | refine ss (Pn rfl) ?_ | refine ss (Pm rfl) ?_ | refine OS_nil ?_))
  refine O_pure (P_bitN rfl rfl rfl rfl (div_lt hv) (Nat.mod_lt _ (by decide))) trivial rfl ?_
  repeat' (first | (refine isO ?_; first | refine oo (Pc rfl) ?_ | refine oo (Pa rfl (by omega) (by omega)) ?_ | (refine ob rfl ?_ ?_ <;> intro hq <;> try (exfalso; omega)) | refine oo (Pi rfl (by omega)) ?_ | refine oo (Pl rfl) ?_ | refine oo (Px rfl rfl) ?_ | refine oo (Pj rfl (by omega) (by omega)) ?_ | refine oo (Pk rfl (by omega) (by omega)) ?_ | refine oo (Pf rfl) ?_ | refine oo (Pv rfl (by omega) (by omega)) ?_ | refine oo (Pn rfl) ?_ | refine oo (Pm rfl) ?_ | refine os rfl rfl ?_ | refine ot rfl (by omega) ?_ | refine O_nil ?_) | refine wo rfl ?_ | refine wc rfl ?_ | refine wg rfl ?_ | refine go rfl ?_ | refine gc rfl ?_ | refine gg rfl ?_)
  exact G_fin ⟨_, rfl, by repeat (first | exact .rfl | exact .nil | (apply Rk.cons; (· exact TakeI.out)) | refine .drop ?_)⟩

/-- The Writer's state, and its buffer's. -/
structure Wst where
  off : Nat
  v : Nat
  nb : Nat
  buf : List Int
  cnt : Nat
  s : Value
  lr : Int
  m : Mem
  out : List Int
def Wst.rows (x : Wst) (wb bb : Nat) (big : Bool) (F : Mem) : Mem :=
  Wa wb x.off (.iface 101 (.pointer (some ⟨bb, 0, none⟩))) x.v x.nb big :: Wb wb x.buf :: Wc wb x.cnt :: ⟨true, bb, 0, [x.s, .int .i64 0, .int .i8 x.lr]⟩ :: (x.m ++ F)
/-- What was written so far. -/
structure WS (big : Bool) (bits : List Nat) (lim : Nat) (x : Wst) : Prop where
  bg : Bg x.s x.out x.m
  off : x.off = x.out.length
  buf : x.buf.length = 512
  v : x.v < 2 ^ x.nb
  nb : x.nb ≤ 64
  lim : 8 * x.cnt + x.nb ≤ lim
  ys : ∃ ys : List Nat, (∀ y ∈ ys, y < 256) ∧ x.out ++ x.buf.take x.cnt = ys.map Nat.cast ∧ bits = unp big ys ++ bitsOf x.v x.nb
theorem WS.v64 {big : Bool} {bits : List Nat} {lim : Nat} {x : Wst} (h : WS big bits lim x) : x.v < 2 ^ 64 := Nat.lt_of_lt_of_le h.v (Nat.pow_le_pow_right (by omega) h.nb)
theorem WS.len {big : Bool} {bits : List Nat} {lim : Nat} {x : Wst} (h : WS big bits lim x) (hl : lim ≤ 4000) : bits.length = 8 * (x.out.length + x.cnt) + x.nb := by
  obtain ⟨ys, _, h2, h3⟩ := h.ys
  have h4 := congrArg List.length h2
  rw [List.length_append, List.length_take, List.length_map, h.buf] at h4
  have := h.lim
  rw [h3, List.length_append, unp_length, bitsOf_length]
  omega
theorem WS.more {big : Bool} {bits : List Nat} {lim lim' : Nat} {x : Wst} (h : WS big bits lim x) (hl : lim ≤ lim') : WS big bits lim' x := ⟨h.bg, h.off, h.buf, h.v, h.nb, Nat.le_trans h.lim hl, h.ys⟩

/-- Whole bytes go on to the byte buffer. -/
def Wst.push (x : Wst) (big : Bool) : Wst := { x with v := x.v / 2 ^ (8 * (x.nb / 8)), nb := x.nb % 8, buf := lay8 x.buf x.cnt (sw big x.v), cnt := x.cnt + x.nb / 8 }
theorem WS.push {big : Bool} {bits : List Nat} {lim : Nat} {x : Wst} (h : WS big bits lim x) (hl : lim ≤ 4000) : WS big bits lim (x.push big) := by
  have h1 := h.lim
  have h2 := h.nb
  refine ⟨h.bg, h.off, by simp only [Wst.push, lay8_length]; exact h.buf, div_pow_lt h.v, by simp only [Wst.push]; omega, by simp only [Wst.push]; omega, ?_⟩
  obtain ⟨ys, k1, k2, k3⟩ := h.ys
  refine ⟨ys ++ (List.range (x.nb / 8)).map (byt (sw big x.v)), ?_, ?_, ?_⟩
  · intro y hy
    rcases List.mem_append.1 hy with hy | hy
    · exact k1 y hy
    · rw [List.mem_map] at hy
      obtain ⟨j, _, rfl⟩ := hy
      exact byt_lt _ _
  · simp only [Wst.push]
    rw [lay8_take _ _ _ _ (by omega) (by rw [h.buf]; omega), ← List.append_assoc, k2, List.map_append]
  · simp only [Wst.push]
    rw [k3, unp_app, unp_sw big x.v _ (by omega), List.append_assoc, ← bitsOf_app, show 8 * (x.nb / 8) + x.nb % 8 = x.nb by omega]
/-- More bits behind those that wait. -/
theorem WS.or {big : Bool} {bits : List Nat} {lim : Nat} {x : Wst} (h : WS big bits lim x) {y n : Nat} (hy : y < 2 ^ n) (hn : x.nb + n ≤ 64) :
    WS big (bits ++ bitsOf y n) (lim + n) { x with v := x.v ||| y * 2 ^ x.nb % 2 ^ 64, nb := x.nb + n } := by
  have e := shl_lt y x.nb n hy hn
  have h1 := h.lim
  refine ⟨h.bg, h.off, h.buf, by dsimp only; rw [e]; exact or_lt _ _ _ _ h.v hy, hn, by dsimp only; omega, ?_⟩
  obtain ⟨ys, k1, k2, k3⟩ := h.ys
  exact ⟨ys, k1, k2, by dsimp only; rw [e, bitsOf_or _ _ _ _ h.v, k3, List.append_assoc]⟩

variable {wb bb : Nat} {big : Bool} {bits : List Nat} {lim : Nat} {x : Wst}
/-- What comes back: the same Writer, and these bits. -/
def Wrote (wb bb : Nat) (big : Bool) (bits : List Nat) (lim : Nat) (F M' : Mem) : Prop := ∃ y, WS big bits lim y ∧ Rk M' (y.rows wb bb big F)

theorem wbits_c (F : Mem) (h : WS big bits lim x) (hl : lim ≤ 4000) (y n : Nat) (hy : y < 2 ^ n) (hn : n ≤ 40) :
    HC Try.prog 55 #[.pointer (some ⟨wb, 0, none⟩), .int .u64 y, .int .u64 n] (x.rows wb bb big F) (fun _ M' => Wrote wb bb big (bits ++ bitsOf y n) (lim + n) F M') := by
  have h1 := h.lim
  have hp := h.push hl
  exact (bits_c wb x.off _ x.v x.nb big x.buf x.cnt y n _ h.buf (by omega) h.v64 h.nb (by omega)).mono fun _ M' hrk => ⟨_, hp.or hy (by simp only [Wst.push]; omega), hrk⟩
theorem wsym_c (F : Mem) (h : WS big bits lim x) (hl : lim ≤ 4000) (y eb j cb cc : Nat) (ch : List Int) (cs : List Cd) (hN : Numbered cs) (hV : ∀ i, i < cs.length → (cs.getD i Cd.zero).val < 2 ^ (cs.getD i Cd.zero).len) (hT : EncT cs j cc ch) (hE : (EncR eb cs.length j cb cc : Sg) ∈ F) (hC : (⟨true, cb, 0, ints .u32 ch⟩ : Sg) ∈ F) (hy : y < cs.length) :
    HC Try.prog 56 #[.pointer (some ⟨wb, 0, none⟩), .int .u64 y, .pointer (some ⟨eb, 0, none⟩)] (x.rows wb bb big F)
      (fun _ M' => Wrote wb bb big (bits ++ bitsOf (cs.getD y Cd.zero).val (cs.getD y Cd.zero).len) (lim + (cs.getD y Cd.zero).len) F M') := by
  have h1 := h.lim
  have hp := h.push hl
  have h2 := hN.len y hy
  exact (sym_c wb x.off _ x.v x.nb big x.buf x.cnt y eb j cb cc ch cs _ h.buf (by omega) h.v64 h.nb hN hT (.tail _ (List.mem_append_right _ hE)) (.tail _ (List.mem_append_right _ hC)) hy).mono fun _ M' hrk => ⟨_, hp.or (hV y hy) (by simp only [Wst.push]; omega), hrk⟩
theorem wpads_c (F : Mem) (h : WS big bits lim x) (hl : lim ≤ 4000) (y : Nat) (hy : y < 2 ^ ((8 - bits.length % 8) % 8)) :
    HC Try.prog 58 #[.pointer (some ⟨wb, 0, none⟩), .int .u64 y] (x.rows wb bb big F) (fun _ M' => Wrote wb bb big (bits ++ bitsOf y ((8 - bits.length % 8) % 8)) (lim + (8 - bits.length % 8) % 8) F M') := by
  have h1 := h.lim
  have h2 := h.len hl
  have h3 := h.nb
  have e : (8 - bits.length % 8) % 8 = (8 - x.nb % 8) % 8 := by omega
  rw [e] at hy ⊢
  exact (pads_c wb x.off _ x.v x.nb big x.buf x.cnt y _ h.v64 h.nb).mono fun _ M' hrk => ⟨_, h.or hy (by omega), hrk⟩
theorem wwritten_c (F : Mem) (h : WS big bits lim x) (hl : lim ≤ 4000) (hb : bits.length ≤ 100000) :
    HC Try.prog 60 #[.pointer (some ⟨wb, 0, none⟩)] (x.rows wb bb big F) (fun r M' => r = .int .i64 bits.length ∧ Rk M' (x.rows wb bb big F)) := by
  have h1 := h.lim
  have h2 := h.len hl
  have h3 := h.off
  exact (bitsWritten_c wb x.off _ x.v x.nb big x.buf x.cnt _ (by omega) (by omega) h.nb).mono fun r M' ⟨e, hrk⟩ => ⟨by rw [e, h2, h3]; congr 2; omega, hrk⟩

/-- What comes back of Flush: fewer than eight bits wait. -/
def Flushed (wb bb : Nat) (big : Bool) (bits : List Nat) (lim : Nat) (F M' : Mem) : Prop := ∃ y, WS big bits lim y ∧ y.cnt = 0 ∧ y.nb < 8 ∧ Rk M' (y.rows wb bb big F)
theorem wflush_c (F : Mem) (h : WS big bits lim x) (hl : lim ≤ 4000) (hb : bits.length ≤ 100000) :
    HC Try.prog 61 #[.pointer (some ⟨wb, 0, none⟩)] (x.rows wb bb big F) (fun r M' => (∃ z, r = .tuple #[z, .nilIface]) ∧ Flushed wb bb big bits lim F M') := by
  have h1 := h.lim
  have h2 := h.len hl
  have h3 := h.off
  have hp := h.push hl
  refine (flushg_c wb bb x.off x.v x.nb big x.buf x.cnt x.s x.out x.m x.lr F h.buf (by omega) h.v64 h.nb h.bg (by omega) (by omega)).mono fun r M' ⟨hr, buf', s', m', lr', k1, k2, hrk⟩ => ⟨hr, ?_⟩
  have hol : (x.out ++ (lay8 x.buf x.cnt (sw big x.v)).take (x.cnt + x.nb / 8)).length = x.out.length + (x.cnt + x.nb / 8) := by
    rw [List.length_append, List.length_take, lay8_length, h.buf]
    have := h.nb
    omega
  refine ⟨⟨x.off + (x.cnt + x.nb / 8), x.v / 2 ^ (8 * (x.nb / 8)), x.nb % 8, buf', 0, s', lr', m', x.out ++ (lay8 x.buf x.cnt (sw big x.v)).take (x.cnt + x.nb / 8)⟩, ⟨k2, by dsimp only; rw [hol, h3], k1, div_pow_lt h.v, by dsimp only; omega, by dsimp only; omega, ?_⟩, rfl, Nat.mod_lt _ (by omega), hrk⟩
  obtain ⟨ys, q1, q2, q3⟩ := hp.ys
  exact ⟨ys, q1, by dsimp only; rw [List.take_zero, List.append_nil]; exact q2, q3⟩
end Go.Proofs.Ytjkpfliaflmppaa.Wr
