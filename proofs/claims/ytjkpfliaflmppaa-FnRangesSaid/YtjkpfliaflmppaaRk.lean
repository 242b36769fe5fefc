/- RangeEncoder.Encode, impl.RangeOf, walked. -/
import Derived.Test.YtjkpfliaflmppaaRe
import Derived.Test.YtjkpfliaflmppaaSafe
import Derived.Test.YtjkpfliaflmppaaVm14
import Derived.Test.YtjkpfliaflmppaaTi
namespace Go.Proofs.Ytjkpfliaflmppaa.Pc
open Go Go.RowKit Go.Proofs.Ytjkpfliaflmppaa.Vm Go.Proofs.Ytjkpfliaflmppaa.Sf

theorem encode85_c (rb a v i : Nat) (s : Value) (ls : List Nat) (lut : List Int) (M : Mem) (ha : a ≤ 1048576) (hs : Rs s (mkR a ls) M) (hok : OkN ls) (hlt : Lt a ls lut ls.length) (hi : i < ls.length) (h1 : rAt a ls i ≤ v) (h2 : v < rAt a ls (i + 1)) :
    HC Try.prog 85 #[.pointer (some ⟨rb, 0, none⟩), .int .u64 v] (Ra rb s :: Rb rb lut :: Rc rb a :: M) (fun r M' => r = .int .u64 i ∧ Rk M' (Ra rb s :: Rb rb lut :: Rc rb a :: M)) := by
  obtain ⟨b, own, sp, cap, rfl, hc, hm⟩ := hs.at (by rw [mkR_length]; omega)
  have h30 := hok.1
  have hge := rAt_ge a ls i
  have hr := rAt_le (a := a) hok (i + 1) hi
  rw [mkR_length] at hs ⊢
  have hlut := hlt.1
  refine HC_of_W (fn := Try.f85) Try.func85 rfl rfl rfl rfl ?_
  repeat' (first | (refine isO ?_; first | refine oo (Pc rfl) ?_ | refine oo (Pa rfl (by omega) (by omega)) ?_ | (refine ob rfl ?_ ?_ <;> intro hq <;> try (exfalso; omega)) | refine oo (Pi rfl (by omega)) ?_ | refine oo (Pl rfl) ?_ | refine oo (Px rfl rfl) ?_ | refine oo (Pj rfl (by omega) (by omega)) ?_ | refine oo (Pk rfl (by omega) (by omega)) ?_ | refine oo (Pf rfl) ?_ | refine oo (Pv rfl (by omega) (by omega)) ?_ | refine oo (Pn rfl) ?_ | refine oo (Pm rfl) ?_ | refine os rfl rfl ?_ | refine ot rfl (by omega) ?_ | refine O_nil ?_) | refine wo rfl ?_ | refine wc rfl ?_ | refine wg rfl ?_ | refine go rfl ?_ | refine gc rfl ?_ | refine gg rfl ?_)
  refine W_scope (α := Nat) 0 rfl (fun j => [(0, .pointer (some ⟨rb, 0, none⟩)), (1, .int .u64 v), (4, .int .u64 j)]) (fun _ => Ra rb (.slice (some ⟨b, 0, none⟩) ls.length cap) :: Rb rb lut :: Rc rb a :: M) (fun j => a + 1024 ≤ v ∧ j ≤ i + 1) (fun j => i + 2 - j) ?_ ?_
  · by_cases hva : v < a + 1024
    · have hv : rd lut ((v : Int) - (a : Int)) = i := by
        unfold rd
        rw [show ((v : Int) - (a : Int)).toNat = v - a by omega]
        exact hlt.2 (v - a) (by omega) i hi (by omega) (by omega)
      repeat' (first | (refine isO ?_; first | refine oo (Pc rfl) ?_ | refine oo (Pa rfl (by omega) (by omega)) ?_ | (refine ob rfl ?_ ?_ <;> intro hq <;> try (exfalso; omega)) | refine oo (Pi rfl (by omega)) ?_ | refine oo (Pl rfl) ?_ | refine oo (Px rfl rfl) ?_ | refine oo (Pj rfl (by omega) (by omega)) ?_ | refine oo (Pk rfl (by omega) (by omega)) ?_ | refine oo (Pf rfl) ?_ | refine oo (Pv rfl (by omega) (by omega)) ?_ | refine oo (Pn rfl) ?_ | refine oo (Pm rfl) ?_ | refine os rfl rfl ?_ | refine ot rfl (by omega) ?_ | refine O_nil ?_) | refine wo rfl ?_ | refine wc rfl ?_ | refine wg rfl ?_ | refine go rfl ?_ | refine gc rfl ?_ | refine gg rfl ?_)
      refine G_leave (fun _ h => by cases h) ?_
      exact G_fin ⟨_, rfl, congrArg (Value.int .u64) hv, .rfl⟩
    · obtain ⟨i0, k0, k1, k2⟩ := rAt_find a (a + 1023) ls (i + 1) (by omega) (by omega)
      have hv : rd lut 1023 = i0 := hlt.2 1023 (by omega) i0 (by omega) k1 k2
      have hji : i0 ≤ i := by omega
      have hjl : i0 < ls.length := by omega
      have hg0 := rget0 sp (by rw [mkR_length]; exact hjl) (mkR_get a ls i0 hjl)
      have hjr := rAt_le (a := a) hok i0 (by omega)
      have := rAt_mono (a := a) (ls := ls) i0 i hji
      repeat' (first | (refine isO ?_; first | refine oo (Pc rfl) ?_ | refine oo (Pa rfl (by omega) (by omega)) ?_ | (refine ob rfl ?_ ?_ <;> intro hq <;> try (exfalso; omega)) | refine oo (Pi rfl (by omega)) ?_ | refine oo (Pl rfl) ?_ | refine oo (Px rfl rfl) ?_ | refine oo (Pj rfl (by omega) (by omega)) ?_ | refine oo (Pk rfl (by omega) (by omega)) ?_ | refine oo (Pf rfl) ?_ | refine oo (Pv rfl (by omega) (by omega)) ?_ | refine oo (Pn rfl) ?_ | refine oo (Pm rfl) ?_ | refine os rfl rfl ?_ | refine ot rfl (by omega) ?_ | refine O_nil ?_) | refine wo rfl ?_ | refine wc rfl ?_ | refine wg rfl ?_ | refine go rfl ?_ | refine gc rfl ?_ | refine gg rfl ?_)
      refine O_pure (P_loadAt (o := 0) (n := i0 * 2 + 0) Tb.p40 rfl (by omega) (.tail _ (.tail _ (.tail _ hm))) hg0) ⟨_, rfl, rfl⟩ rfl ?_
      repeat' (first | (refine isO ?_; first | refine oo (Pc rfl) ?_ | refine oo (Pa rfl (by omega) (by omega)) ?_ | (refine ob rfl ?_ ?_ <;> intro hq <;> try (exfalso; omega)) | refine oo (Pi rfl (by omega)) ?_ | refine oo (Pl rfl) ?_ | refine oo (Px rfl rfl) ?_ | refine oo (Pj rfl (by omega) (by omega)) ?_ | refine oo (Pk rfl (by omega) (by omega)) ?_ | refine oo (Pf rfl) ?_ | refine oo (Pv rfl (by omega) (by omega)) ?_ | refine oo (Pn rfl) ?_ | refine oo (Pm rfl) ?_ | refine os rfl rfl ?_ | refine ot rfl (by omega) ?_ | refine O_nil ?_) | refine wo rfl ?_ | refine wc rfl ?_ | refine wg rfl ?_ | refine go rfl ?_ | refine gc rfl ?_ | refine gg rfl ?_)
      exact G_jump ⟨i0 + 1, ⟨by omega, by omega⟩, ⟨rfl, rfl, congrArg (fun q => some (Value.int .u64 q)) (by omega), trivial⟩, .rfl⟩
  · rintro j ⟨hva, hj⟩
    try dsimp only
    repeat' (first | (refine isO ?_; first | refine oo (Pc rfl) ?_ | refine oo (Pa rfl (by omega) (by omega)) ?_ | (refine ob rfl ?_ ?_ <;> intro hq <;> try (exfalso; omega)) | refine oo (Pi rfl (by omega)) ?_ | refine oo (Pl rfl) ?_ | refine oo (Px rfl rfl) ?_ | refine oo (Pj rfl (by omega) (by omega)) ?_ | refine oo (Pk rfl (by omega) (by omega)) ?_ | refine oo (Pf rfl) ?_ | refine oo (Pv rfl (by omega) (by omega)) ?_ | refine oo (Pn rfl) ?_ | refine oo (Pm rfl) ?_ | refine os rfl rfl ?_ | refine ot rfl (by omega) ?_ | refine O_nil ?_) | refine wo rfl ?_ | refine wc rfl ?_ | refine wg rfl ?_ | refine go rfl ?_ | refine gc rfl ?_ | refine gg rfl ?_)
    · obtain rfl : j = i + 1 := by omega
      refine G_leave (fun _ h => by cases h) ?_
      exact G_fin ⟨_, rfl, congrArg (Value.int .u64) (by omega), .rfl⟩
    · have hjl : j < ls.length := by omega
      have hg0 := rget0 sp (by rw [mkR_length]; exact hjl) (mkR_get a ls j hjl)
      refine O_pure (P_loadAt (o := 0) (n := j * 2 + 0) Tb.p40 rfl (by omega) (.tail _ (.tail _ (.tail _ hm))) hg0) ⟨_, rfl, rfl⟩ rfl ?_
      have hjr := rAt_le (a := a) hok j (by omega)
      repeat' (first | (refine isO ?_; first | refine oo (Pc rfl) ?_ | refine oo (Pa rfl (by omega) (by omega)) ?_ | (refine ob rfl ?_ ?_ <;> intro hq <;> try (exfalso; omega)) | refine oo (Pi rfl (by omega)) ?_ | refine oo (Pl rfl) ?_ | refine oo (Px rfl rfl) ?_ | refine oo (Pj rfl (by omega) (by omega)) ?_ | refine oo (Pk rfl (by omega) (by omega)) ?_ | refine oo (Pf rfl) ?_ | refine oo (Pv rfl (by omega) (by omega)) ?_ | refine oo (Pn rfl) ?_ | refine oo (Pm rfl) ?_ | refine os rfl rfl ?_ | refine ot rfl (by omega) ?_ | refine O_nil ?_) | refine wo rfl ?_ | refine wc rfl ?_ | refine wg rfl ?_ | refine go rfl ?_ | refine gc rfl ?_ | refine gg rfl ?_)
      · have : j = i + 1 := by
          by_cases hji : j ≤ i
          · have := rAt_mono (a := a) (ls := ls) j i hji; omega
          · omega
        subst this
        refine G_leave (fun _ h => by cases h) ?_
        exact G_fin ⟨_, rfl, congrArg (Value.int .u64) (by omega), .rfl⟩
      · have : j ≠ i + 1 := by rintro rfl; omega
        exact G_jump ⟨j + 1, ⟨by omega, by omega⟩, by omega, ⟨rfl, rfl, rfl, trivial⟩, .rfl⟩
end Go.Proofs.Ytjkpfliaflmppaa.Pc
