/- impl.RangeOf and impl.MakeRanges, walked. impl.WriteAll, walked: what its closure does, for parts that can be written. -/
import Derived.Test.YtjkpfliaflmppaaW11x20
import Derived.Test.YtjkpfliaflmppaaW11x04
import Derived.Test.YtjkpfliaflmppaaW11x07
import Derived.Test.YtjkpfliaflmppaaW11x21
import Derived.Test.YtjkpfliaflmppaaW11x24
import Derived.Test.YtjkpfliaflmppaaW11x12
import Derived.Test.YtjkpfliaflmppaaW11x19
import Derived.Test.YtjkpfliaflmppaaW11x26

namespace Go.Proofs.Ytjkpfliaflmppaa.Pc
open Go Go.RowKit Go.Proofs.Ytjkpfliaflmppaa.Vm Go.Proofs.Ytjkpfliaflmppaa.Sf

theorem zero49 : zeroOf Try.prog 49 = some [.int .u64 0] := by kernel_rfl
theorem zero34 : zeroOf Try.prog 34 = some [.slice none 0 0] := by kernel_rfl
theorem zero40 : zeroOf Try.prog 40 = some [.int .u32 0] := by kernel_rfl
theorem own_one' {s : Value} {size : Nat} {xs : List Value} {m : Mem} (h : Own s size xs m) : s.oneCell' = true := by
  rcases h with ⟨rfl, _⟩ | ⟨b, len, cap, sp, rfl, _⟩ <;> rfl
theorem Rs.one {s : Value} {l : List Rg} {M : Mem} (h : Rs s l M) : s.cells.toList = [s] := by
  obtain ⟨ad, cap, rfl, _⟩ := h; rfl
theorem Us.one {s : Value} {l : List Nat} {M : Mem} (h : Us s l M) : s.cells.toList = [s] := by
  obtain ⟨ad, cap, rfl, _⟩ := h; rfl

theorem of84_c (a v i b1 b2 b3 : Nat) (s : Value) (ls : List Nat) (M : Mem) (ha : a ≤ 1048576) (hs : Rs s (mkR a ls) M) (hok : OkN ls) (hi : i < ls.length) (h1 : rAt a ls i ≤ v) (h2 : v < rAt a ls (i + 1)) :
    HC Try.prog 84 #[.pointer (some ⟨b1, 0, none⟩), .pointer (some ⟨b2, 0, none⟩), .pointer (some ⟨b3, 0, none⟩)]
      (⟨true, b1, 0, [s]⟩ :: ⟨true, b2, 0, [.int .u64 v]⟩ :: ⟨true, b3, 0, [.int .u64 0]⟩ :: M) (fun _ M' => Rk M' (⟨true, b3, 0, [.int .u64 i]⟩ :: M)) := by
  have h30 := hok.1
  refine HC_of_W (fn := Try.f84) Try.func84 rfl rfl rfl rfl ?_
  repeat' (first | (refine isO ?_; first | refine oo (Pc rfl) ?_ | refine oo (Pa rfl (by omega) (by omega)) ?_ | (refine ob rfl ?_ ?_ <;> intro hq <;> try (exfalso; omega)) | refine oo (Pi rfl (by omega)) ?_ | refine oo (Pl rfl) ?_ | refine oo (Px rfl rfl) ?_ | refine oo (Pj rfl (by omega) (by omega)) ?_ | refine oo (Pk rfl (by omega) (by omega)) ?_ | refine oo (Pf rfl) ?_ | refine oo (Pv rfl (by omega) (by omega)) ?_ | refine oo (Pn rfl) ?_ | refine oo (Pm rfl) ?_ | refine os rfl rfl ?_ | refine ot rfl (by omega) ?_ | refine O_nil ?_) | refine wo rfl ?_ | refine wc rfl ?_ | refine wg rfl ?_ | refine go rfl ?_ | refine gc rfl ?_ | refine gg rfl ?_)
  refine O_alloc zero109L trivial rfl fun rb => ?_
  repeat' (first | (refine isO ?_; first | refine oo (Pc rfl) ?_ | refine oo (Pa rfl (by omega) (by omega)) ?_ | (refine ob rfl ?_ ?_ <;> intro hq <;> try (exfalso; omega)) | refine oo (Pi rfl (by omega)) ?_ | refine oo (Pl rfl) ?_ | refine oo (Px rfl rfl) ?_ | refine oo (Pj rfl (by omega) (by omega)) ?_ | refine oo (Pk rfl (by omega) (by omega)) ?_ | refine oo (Pf rfl) ?_ | refine oo (Pv rfl (by omega) (by omega)) ?_ | refine oo (Pn rfl) ?_ | refine oo (Pm rfl) ?_ | refine os rfl rfl ?_ | refine ot rfl (by omega) ?_ | refine O_nil ?_) | refine wo rfl ?_ | refine wc rfl ?_ | refine wg rfl ?_ | refine go rfl ?_ | refine gc rfl ?_ | refine gg rfl ?_)
  refine O_call rfl rfl Tb.k54 trivial rfl (codes54_c s (mkR a ls) _ (hs.mono fun x hx => .tail _ (.tail _ (.tail _ (.tail _ hx)))) (by rw [mkR_length]; omega)) ?_
  rintro v2 M' ⟨m, hown, hrk⟩
  refine O_weak (.trans hrk (.perm (List.perm_append_comm_assoc m [_, _, _, _] M))) ?_
  clear hrk
  simp only [List.cons_append, List.nil_append]
  have hs2 : Rs v2 (mkR a ls) (m ++ M) := (Rs.of_own hown).mono fun x hx => List.mem_append_left _ hx
  have hs3 := hs2.mono (M' := ⟨true, b1, 0, [s]⟩ :: ⟨true, b2, 0, [.int .u64 v]⟩ :: ⟨true, b3, 0, [.int .u64 0]⟩ :: (m ++ M)) fun x hx => .tail _ (.tail _ (.tail _ hx))
  repeat' (first | (refine isO ?_; first | refine oo (Pc rfl) ?_ | refine oo (Pa rfl (by omega) (by omega)) ?_ | (refine ob rfl ?_ ?_ <;> intro hq <;> try (exfalso; omega)) | refine oo (Pi rfl (by omega)) ?_ | refine oo (Pl rfl) ?_ | refine oo (Px rfl rfl) ?_ | refine oo (Pj rfl (by omega) (by omega)) ?_ | refine oo (Pk rfl (by omega) (by omega)) ?_ | refine oo (Pf rfl) ?_ | refine oo (Pv rfl (by omega) (by omega)) ?_ | refine oo (Pn rfl) ?_ | refine oo (Pm rfl) ?_ | refine os rfl rfl ?_ | refine ot rfl (by omega) ?_ | refine O_nil ?_) | refine wo rfl ?_ | refine wc rfl ?_ | refine wg rfl ?_ | refine go rfl ?_ | refine gc rfl ?_ | refine gg rfl ?_)
  refine O_call rfl rfl Tb.k53 trivial rfl (init53_c rb a v2 ls _ _ (by simp only [cells109, List.length_append, ints_length, List.length_replicate, List.length_cons, List.length_nil]) ha hs3 hok (by omega)) ?_
  rintro _ M' ⟨lut, hlt, hrk⟩
  refine O_weak hrk ?_
  clear hrk
  repeat' (first | (refine isO ?_; first | refine oo (Pc rfl) ?_ | refine oo (Pa rfl (by omega) (by omega)) ?_ | (refine ob rfl ?_ ?_ <;> intro hq <;> try (exfalso; omega)) | refine oo (Pi rfl (by omega)) ?_ | refine oo (Pl rfl) ?_ | refine oo (Px rfl rfl) ?_ | refine oo (Pj rfl (by omega) (by omega)) ?_ | refine oo (Pk rfl (by omega) (by omega)) ?_ | refine oo (Pf rfl) ?_ | refine oo (Pv rfl (by omega) (by omega)) ?_ | refine oo (Pn rfl) ?_ | refine oo (Pm rfl) ?_ | refine os rfl rfl ?_ | refine ot rfl (by omega) ?_ | refine O_nil ?_) | refine wo rfl ?_ | refine wc rfl ?_ | refine wg rfl ?_ | refine go rfl ?_ | refine gc rfl ?_ | refine gg rfl ?_)
  refine O_call rfl rfl Tb.k85 trivial rfl (encode85_c rb a v i v2 ls lut _ ha hs3 hok hlt hi h1 h2) ?_
  rintro _ M' ⟨rfl, hrk⟩
  refine O_weak hrk ?_
  clear hrk
  repeat' (first | (refine isO ?_; first | refine oo (Pc rfl) ?_ | refine oo (Pa rfl (by omega) (by omega)) ?_ | (refine ob rfl ?_ ?_ <;> intro hq <;> try (exfalso; omega)) | refine oo (Pi rfl (by omega)) ?_ | refine oo (Pl rfl) ?_ | refine oo (Px rfl rfl) ?_ | refine oo (Pj rfl (by omega) (by omega)) ?_ | refine oo (Pk rfl (by omega) (by omega)) ?_ | refine oo (Pf rfl) ?_ | refine oo (Pv rfl (by omega) (by omega)) ?_ | refine oo (Pn rfl) ?_ | refine oo (Pm rfl) ?_ | refine os rfl rfl ?_ | refine ot rfl (by omega) ?_ | refine O_nil ?_) | refine wo rfl ?_ | refine wc rfl ?_ | refine wg rfl ?_ | refine go rfl ?_ | refine gc rfl ?_ | refine gg rfl ?_)
  exact G_fin ⟨_, rfl, .drop (.drop (.drop (.drop (.drop (.cons .head (Rk.right m M))))))⟩

theorem of37_c (a v i : Nat) (s : Value) (ls : List Nat) (M : Mem) (ha : a ≤ 1048576) (hs : Rs s (mkR a ls) M) (hok : OkN ls) (hi : i < ls.length) (h1 : rAt a ls i ≤ v) (h2 : v < rAt a ls (i + 1)) :
    HC Try.prog 37 #[s, .int .u64 v] M (fun r M' => r = .tuple #[.int .u64 i, .bool true] ∧ Rk M' M) := by
  have hs1 := hs.one
  refine HC_of_WM (fn := Try.f37) Try.func37 rfl rfl rfl rfl ?_
  repeat' (first | (refine isO ?_; first | refine oo (Pc rfl) ?_ | refine oo (Pa rfl (by omega) (by omega)) ?_ | (refine ob rfl ?_ ?_ <;> intro hq <;> try (exfalso; omega)) | refine oo (Pi rfl (by omega)) ?_ | refine oo (Pl rfl) ?_ | refine oo (Px rfl rfl) ?_ | refine oo (Pj rfl (by omega) (by omega)) ?_ | refine oo (Pk rfl (by omega) (by omega)) ?_ | refine oo (Pf rfl) ?_ | refine oo (Pv rfl (by omega) (by omega)) ?_ | refine oo (Pn rfl) ?_ | refine oo (Pm rfl) ?_ | refine os rfl rfl ?_ | refine ot rfl (by omega) ?_ | refine O_nil ?_) | refine wo rfl ?_ | refine wc rfl ?_ | refine wg rfl ?_ | refine go rfl ?_ | refine gc rfl ?_ | refine gg rfl ?_)
  refine O_box rfl trivial rfl fun b1 => ?_
  rw [hs1]
  refine O_box rfl trivial rfl fun b2 => ?_
  refine O_alloc zero49 trivial rfl fun b3 => ?_
  repeat' (first | (refine isO ?_; first | refine oo (Pc rfl) ?_ | refine oo (Pa rfl (by omega) (by omega)) ?_ | (refine ob rfl ?_ ?_ <;> intro hq <;> try (exfalso; omega)) | refine oo (Pi rfl (by omega)) ?_ | refine oo (Pl rfl) ?_ | refine oo (Px rfl rfl) ?_ | refine oo (Pj rfl (by omega) (by omega)) ?_ | refine oo (Pk rfl (by omega) (by omega)) ?_ | refine oo (Pf rfl) ?_ | refine oo (Pv rfl (by omega) (by omega)) ?_ | refine oo (Pn rfl) ?_ | refine oo (Pm rfl) ?_ | refine os rfl rfl ?_ | refine ot rfl (by omega) ?_ | refine O_nil ?_) | refine wo rfl ?_ | refine wc rfl ?_ | refine wg rfl ?_ | refine go rfl ?_ | refine gc rfl ?_ | refine gg rfl ?_)
  refine O_call rfl rfl Tb.k39 trivial rfl (safe_c (f := 84) (R := fun M' => Rk M' (⟨true, b3, 0, [.int .u64 i]⟩ :: M)) Tb.k84 fun bs => ?_) ?_
  · refine (HCp.take (L := ⟨true, b1, 0, [s]⟩ :: ⟨true, b2, 0, [.int .u64 v]⟩ :: ⟨true, b3, 0, [.int .u64 0]⟩ :: ⟨true, bs, 0, [.bool false]⟩ :: M) (.cons (.tail (.tail (.tail .head))) (.cons (.tail (.tail .head)) (.cons (.tail .head) .rfl)))
      (of84_c a v i b1 b2 b3 s ls _ ha (hs.mono fun x hx => .tail _ hx) hok hi h1 h2)).mono ?_
    rintro _ M' hrk
    exact ⟨_, .trans hrk (.perm (.swap _ _ _)), .rfl⟩
  rintro _ M' ⟨rfl, hrk⟩
  refine O_weak hrk ?_
  repeat' (first | (refine isO ?_; first | refine oo (Pc rfl) ?_ | refine oo (Pa rfl (by omega) (by omega)) ?_ | (refine ob rfl ?_ ?_ <;> intro hq <;> try (exfalso; omega)) | refine oo (Pi rfl (by omega)) ?_ | refine oo (Pl rfl) ?_ | refine oo (Px rfl rfl) ?_ | refine oo (Pj rfl (by omega) (by omega)) ?_ | refine oo (Pk rfl (by omega) (by omega)) ?_ | refine oo (Pf rfl) ?_ | refine oo (Pv rfl (by omega) (by omega)) ?_ | refine oo (Pn rfl) ?_ | refine oo (Pm rfl) ?_ | refine os rfl rfl ?_ | refine ot rfl (by omega) ?_ | refine O_nil ?_) | refine wo rfl ?_ | refine wc rfl ?_ | refine wg rfl ?_ | refine go rfl ?_ | refine gc rfl ?_ | refine gg rfl ?_)
  exact G_fin ⟨[.int .u64 i, .bool true], ⟨⟨_, _, _, _, _, rfl, .head _, Try.underlying49, rfl⟩, rfl, trivial⟩, rfl, .drop .rfl⟩

theorem mk80_c (a b1 b2 b3 b4 b5 : Nat) (s : Value) (ls : List Nat) (M : Mem) (ha : a ≤ 1048576) (hu : Us s ls M) (hok : OkN ls) (h0 : 0 < ls.length) :
    HC Try.prog 80 #[.pointer (some ⟨b1, 0, none⟩), .pointer (some ⟨b2, 0, none⟩), .pointer (some ⟨b3, 0, none⟩), .pointer (some ⟨b4, 0, none⟩), .pointer (some ⟨b5, 0, none⟩)]
      (⟨true, b1, 0, [.int .u64 a]⟩ :: ⟨true, b2, 0, [s]⟩ :: ⟨true, b3, 0, [.slice none 0 0]⟩ :: ⟨true, b4, 0, [.int .u32 0]⟩ :: ⟨true, b5, 0, [.int .u32 0]⟩ :: M)
      (fun _ M' => ∃ sv m, Own sv 2 (rangesV (mkR a ls)) m ∧ Rk M' (⟨true, b3, 0, [sv]⟩ :: ⟨true, b4, 0, [.int .u32 a]⟩ :: ⟨true, b5, 0, [.int .u32 (rAt a ls ls.length : Nat)]⟩ :: (m ++ M))) := by
  obtain ⟨I, hI, hI1, hI2, hI3⟩ := of_info info69
  have h30 := hok.1
  have hl0 : 0 < (mkR a ls).length := by rw [mkR_length]; exact h0
  refine HC_of_W (fn := Try.f80) Try.func80 rfl rfl rfl rfl ?_
  repeat' (first | (refine isO ?_; first | refine oo (Pc rfl) ?_ | refine oo (Pa rfl (by omega) (by omega)) ?_ | (refine ob rfl ?_ ?_ <;> intro hq <;> try (exfalso; omega)) | refine oo (Pi rfl (by omega)) ?_ | refine oo (Pl rfl) ?_ | refine oo (Px rfl rfl) ?_ | refine oo (Pj rfl (by omega) (by omega)) ?_ | refine oo (Pk rfl (by omega) (by omega)) ?_ | refine oo (Pf rfl) ?_ | refine oo (Pv rfl (by omega) (by omega)) ?_ | refine oo (Pn rfl) ?_ | refine oo (Pm rfl) ?_ | refine os rfl rfl ?_ | refine ot rfl (by omega) ?_ | refine O_nil ?_) | refine wo rfl ?_ | refine wc rfl ?_ | refine wg rfl ?_ | refine go rfl ?_ | refine gc rfl ?_ | refine gg rfl ?_)
  refine O_call rfl rfl Tb.k81 trivial rfl (mk81_c a s ls _ ha (hu.mono fun x hx => .tail _ (.tail _ (.tail _ (.tail _ (.tail _ hx))))) hok) ?_
  rintro v M' ⟨m1, hown1, hrk⟩
  refine O_weak (.trans hrk (.perm (List.perm_append_comm_assoc m1 [_, _, _, _, _] M))) ?_
  clear hrk
  simp only [List.cons_append, List.nil_append]
  have hs : Rs v (mkR a ls) (m1 ++ M) := (Rs.of_own hown1).mono fun x hx => List.mem_append_left _ hx
  obtain ⟨b, own, sp, cap, rfl, hc, hm⟩ := hs.at hl0
  clear hown1
  rw [mkR_length] at hs ⊢
  have hFM : Rk (m1 ++ M) M := Rk.right m1 M
  generalize m1 ++ M = F at *
  repeat' (first | (refine isO ?_; first | refine oo (Pc rfl) ?_ | refine oo (Pa rfl (by omega) (by omega)) ?_ | (refine ob rfl ?_ ?_ <;> intro hq <;> try (exfalso; omega)) | refine oo (Pi rfl (by omega)) ?_ | refine oo (Pl rfl) ?_ | refine oo (Px rfl rfl) ?_ | refine oo (Pj rfl (by omega) (by omega)) ?_ | refine oo (Pk rfl (by omega) (by omega)) ?_ | refine oo (Pf rfl) ?_ | refine oo (Pv rfl (by omega) (by omega)) ?_ | refine oo (Pn rfl) ?_ | refine oo (Pm rfl) ?_ | refine os rfl rfl ?_ | refine ot rfl (by omega) ?_ | refine O_nil ?_) | refine wo rfl ?_ | refine wc rfl ?_ | refine wg rfl ?_ | refine go rfl ?_ | refine gc rfl ?_ | refine gg rfl ?_)
  refine W_loop (α := Nat × Value × Mem) (fun x => [(2, .pointer (some ⟨b3, 0, none⟩)), (3, .pointer (some ⟨b4, 0, none⟩)), (4, .pointer (some ⟨b5, 0, none⟩)), (5, .slice (some ⟨b, 0, none⟩) ls.length cap), (11, .slice (some ⟨b, 0, none⟩) ls.length cap), (12, .int .i64 ls.length), (13, .int .i64 x.1)])
    (fun x => ⟨true, b3, 0, [x.2.1]⟩ :: ⟨true, b4, 0, [.int .u32 0]⟩ :: ⟨true, b5, 0, [.int .u32 0]⟩ :: (x.2.2 ++ F)) (fun x => x.1 ≤ ls.length ∧ Own x.2.1 2 (rangesV ((mkR a ls).take x.1)) x.2.2) (fun x => ls.length - x.1)
    (0, .slice none 0 0, []) ⟨by omega, .inl ⟨rfl, by simp [rangesV], rfl⟩⟩ ⟨rfl, rfl, rfl, rfl, rfl, rfl, rfl, trivial⟩ (by repeat (first | exact .rfl | exact .nil | (apply Rk.cons; (· exact TakeI.out)) | refine .drop ?_)) ?_
  rintro ⟨i, sv, m⟩ ⟨hi, hown⟩
  dsimp only at hi hown ⊢
  repeat' (first | (refine isO ?_; first | refine oo (Pc rfl) ?_ | refine oo (Pa rfl (by omega) (by omega)) ?_ | (refine ob rfl ?_ ?_ <;> intro hq <;> try (exfalso; omega)) | refine oo (Pi rfl (by omega)) ?_ | refine oo (Pl rfl) ?_ | refine oo (Px rfl rfl) ?_ | refine oo (Pj rfl (by omega) (by omega)) ?_ | refine oo (Pk rfl (by omega) (by omega)) ?_ | refine oo (Pf rfl) ?_ | refine oo (Pv rfl (by omega) (by omega)) ?_ | refine oo (Pn rfl) ?_ | refine oo (Pm rfl) ?_ | refine os rfl rfl ?_ | refine ot rfl (by omega) ?_ | refine O_nil ?_) | refine wo rfl ?_ | refine wc rfl ?_ | refine wg rfl ?_ | refine go rfl ?_ | refine gc rfl ?_ | refine gg rfl ?_)
  · have hil : i < ls.length := by omega
    have hget := mkR_get a ls i hil
    generalize ls.getD i 0 = z at *
    have htake := rangesV_take (mkR a ls) i (by rw [mkR_length]; exact hil) hget
    have hlen : (rangesV ((mkR a ls).take i)).length = i * 2 := by rw [rangesV_length, List.length_take, mkR_length]; omega
    refine O_pure (P_loadAggAt (o := 0) (i := i * 2) (cs := [.int .u32 (rAt a ls i : Nat), .int .u32 (z : Nat)]) Tb.a141 Tb.c141 (by decide) rfl (by omega) (.tail _ (.tail _ (.tail _ (List.mem_append_right _ hm)))) (by rw [List.length_append, rangesV_length, mkR_length]; omega)
      (rangesV_block _ sp i (by rw [mkR_length]; exact hil) hget)) trivial rfl ?_
    refine O_alloc zero141 trivial rfl fun bx => ?_
    repeat' (first | (refine isO ?_; first | refine oo (Pc rfl) ?_ | refine oo (Pa rfl (by omega) (by omega)) ?_ | (refine ob rfl ?_ ?_ <;> intro hq <;> try (exfalso; omega)) | refine oo (Pi rfl (by omega)) ?_ | refine oo (Pl rfl) ?_ | refine oo (Px rfl rfl) ?_ | refine oo (Pj rfl (by omega) (by omega)) ?_ | refine oo (Pk rfl (by omega) (by omega)) ?_ | refine oo (Pf rfl) ?_ | refine oo (Pv rfl (by omega) (by omega)) ?_ | refine oo (Pn rfl) ?_ | refine oo (Pm rfl) ?_ | refine os rfl rfl ?_ | refine ot rfl (by omega) ?_ | refine O_nil ?_) | refine wo rfl ?_ | refine wc rfl ?_ | refine wg rfl ?_ | refine go rfl ?_ | refine gc rfl ?_ | refine gg rfl ?_)
    refine O_storeAgg0 Tb.c141 (by decide) rfl rfl rfl (lit2_one _ _) trivial .head rfl ?_
    repeat' (first | (refine isO ?_; first | refine oo (Pc rfl) ?_ | refine oo (Pa rfl (by omega) (by omega)) ?_ | (refine ob rfl ?_ ?_ <;> intro hq <;> try (exfalso; omega)) | refine oo (Pi rfl (by omega)) ?_ | refine oo (Pl rfl) ?_ | refine oo (Px rfl rfl) ?_ | refine oo (Pj rfl (by omega) (by omega)) ?_ | refine oo (Pk rfl (by omega) (by omega)) ?_ | refine oo (Pf rfl) ?_ | refine oo (Pv rfl (by omega) (by omega)) ?_ | refine oo (Pn rfl) ?_ | refine oo (Pm rfl) ?_ | refine os rfl rfl ?_ | refine ot rfl (by omega) ?_ | refine O_nil ?_) | refine wo rfl ?_ | refine wc rfl ?_ | refine wg rfl ?_ | refine go rfl ?_ | refine gc rfl ?_ | refine gg rfl ?_)
    refine O_pure (P_build rfl (build69 _ _)) trivial rfl ?_
    refine O_buildSlice rfl (row34_1 _ _) trivial rfl fun by1 => ?_
    refine O_append (m := m) (M0 := ⟨true, by1, 0, [.int .u32 (rAt a ls i : Nat), .int .u32 (z : Nat)]⟩ :: ⟨true, b3, 0, [sv]⟩ :: ⟨true, b4, 0, [.int .u32 0]⟩ :: ⟨true, b5, 0, [.int .u32 0]⟩ :: F) Tb.u34 Tb.u34 hI hI1 (by decide) (by omega) hI3 rfl rfl rfl hown
      (Rk.trans (Rk.cons .head (.drop .rfl)) (.perm (List.perm_append_comm_assoc [_, _, _, _] m F))) hlen (.head _) (Nat.le_refl 2) (lit2_one _ _) (.inl (by omega)) (by rw [hI2]; omega) trivial rfl fun b2' c2 s2 h2 => ?_
    rw [htake] at h2 ⊢
    repeat' (first | (refine isO ?_; first | refine oo (Pc rfl) ?_ | refine oo (Pa rfl (by omega) (by omega)) ?_ | (refine ob rfl ?_ ?_ <;> intro hq <;> try (exfalso; omega)) | refine oo (Pi rfl (by omega)) ?_ | refine oo (Pl rfl) ?_ | refine oo (Px rfl rfl) ?_ | refine oo (Pj rfl (by omega) (by omega)) ?_ | refine oo (Pk rfl (by omega) (by omega)) ?_ | refine oo (Pf rfl) ?_ | refine oo (Pv rfl (by omega) (by omega)) ?_ | refine oo (Pn rfl) ?_ | refine oo (Pm rfl) ?_ | refine os rfl rfl ?_ | refine ot rfl (by omega) ?_ | refine O_nil ?_) | refine wo rfl ?_ | refine wc rfl ?_ | refine wg rfl ?_ | refine go rfl ?_ | refine gc rfl ?_ | refine gg rfl ?_)
    exact G_stop ⟨(i + 1, .slice (some ⟨b2', 0, none⟩) (i + 1) c2, [⟨true, b2', 0, rangesV ((mkR a ls).take (i + 1)) ++ s2⟩]), ⟨by omega, .inr ⟨b2', i + 1, c2, s2, rfl, rfl, by rw [rangesV_length, List.length_take, mkR_length]; omega, h2⟩⟩, by dsimp only; omega, ⟨rfl, rfl, rfl, rfl, rfl, rfl, rfl, trivial⟩,
      .cons (.tail (.tail .head)) (.cons (.tail (.tail .head)) (.cons (.tail (.tail .head)) (.cons .head (.drop .rfl))))⟩
  · obtain rfl : i = ls.length := by omega
    rw [← mkR_length a ls, List.take_length] at hown
    have hs' := hs.mono (M' := ⟨true, b3, 0, [sv]⟩ :: ⟨true, b4, 0, [.int .u32 0]⟩ :: ⟨true, b5, 0, [.int .u32 0]⟩ :: (m ++ F)) fun x hx => .tail _ (.tail _ (.tail _ (List.mem_append_right _ hx)))
    have hb0 : ((mkR a ls).getD 0 Rg.zero).base = a := by rw [mkR_get a ls 0 h0]; rfl
    have hr := rAt_le (a := a) hok ls.length (Nat.le_refl _)
    obtain ⟨n, hn⟩ : ∃ n, ls.length = n + 1 := ⟨ls.length - 1, by omega⟩
    have hr1 : rAt a ls (n + 1) = rAt a ls n + 2 ^ ls.getD n 0 := rfl
    have he : (mkR a ls).getD ((mkR a ls).length - 1) Rg.zero = ⟨rAt a ls n, ls.getD n 0⟩ := by rw [mkR_length, hn, Nat.add_sub_cancel]; exact mkR_get a ls n (by omega)
    have hend : rAt a ls n + 2 ^ ls.getD n 0 = rAt a ls ls.length := by rw [hn, hr1]
    refine O_callP rfl rfl Tb.k82 trivial rfl (base82_c _ _ _ hs' hl0) ?_
    rw [hb0]
    repeat' (first | (refine isO ?_; first | refine oo (Pc rfl) ?_ | refine oo (Pa rfl (by omega) (by omega)) ?_ | (refine ob rfl ?_ ?_ <;> intro hq <;> try (exfalso; omega)) | refine oo (Pi rfl (by omega)) ?_ | refine oo (Pl rfl) ?_ | refine oo (Px rfl rfl) ?_ | refine oo (Pj rfl (by omega) (by omega)) ?_ | refine oo (Pk rfl (by omega) (by omega)) ?_ | refine oo (Pf rfl) ?_ | refine oo (Pv rfl (by omega) (by omega)) ?_ | refine oo (Pn rfl) ?_ | refine oo (Pm rfl) ?_ | refine os rfl rfl ?_ | refine ot rfl (by omega) ?_ | refine O_nil ?_) | refine wo rfl ?_ | refine wc rfl ?_ | refine wg rfl ?_ | refine go rfl ?_ | refine gc rfl ?_ | refine gg rfl ?_)
    refine O_call rfl rfl Tb.k83 trivial rfl (end83_c _ _ _ hs' hl0 (by rw [mkR_length]; omega) he (by omega)) ?_
    rintro _ M' ⟨rfl, hrk⟩
    refine O_weak hrk ?_
    rw [hend]
    repeat' (first | (refine isO ?_; first | refine oo (Pc rfl) ?_ | refine oo (Pa rfl (by omega) (by omega)) ?_ | (refine ob rfl ?_ ?_ <;> intro hq <;> try (exfalso; omega)) | refine oo (Pi rfl (by omega)) ?_ | refine oo (Pl rfl) ?_ | refine oo (Px rfl rfl) ?_ | refine oo (Pj rfl (by omega) (by omega)) ?_ | refine oo (Pk rfl (by omega) (by omega)) ?_ | refine oo (Pf rfl) ?_ | refine oo (Pv rfl (by omega) (by omega)) ?_ | refine oo (Pn rfl) ?_ | refine oo (Pm rfl) ?_ | refine os rfl rfl ?_ | refine ot rfl (by omega) ?_ | refine O_nil ?_) | refine wo rfl ?_ | refine wc rfl ?_ | refine wg rfl ?_ | refine go rfl ?_ | refine gc rfl ?_ | refine gg rfl ?_)
    exact G_fin ⟨_, rfl, sv, m, hown, .cons .head (.cons .head (.cons .head (Rk.app m hFM)))⟩

theorem mk35_c (a : Nat) (s : Value) (ls : List Nat) (M : Mem) (ha : a ≤ 1048576) (hu : Us s ls M) (hok : OkN ls) (h0 : 0 < ls.length) :
    HC Try.prog 35 #[.int .u64 a, s] M (fun r M' => ∃ sv m, Own sv 2 (rangesV (mkR a ls)) m ∧ r = .tuple #[sv, .int .u32 a, .int .u32 (rAt a ls ls.length : Nat)] ∧ Rk M' (m ++ M)) := by
  have hu1 := hu.one
  refine HC_of_WM (fn := Try.f35) Try.func35 rfl rfl rfl rfl ?_
  repeat' (first | (refine isO ?_; first | refine oo (Pc rfl) ?_ | refine oo (Pa rfl (by omega) (by omega)) ?_ | (refine ob rfl ?_ ?_ <;> intro hq <;> try (exfalso; omega)) | refine oo (Pi rfl (by omega)) ?_ | refine oo (Pl rfl) ?_ | refine oo (Px rfl rfl) ?_ | refine oo (Pj rfl (by omega) (by omega)) ?_ | refine oo (Pk rfl (by omega) (by omega)) ?_ | refine oo (Pf rfl) ?_ | refine oo (Pv rfl (by omega) (by omega)) ?_ | refine oo (Pn rfl) ?_ | refine oo (Pm rfl) ?_ | refine os rfl rfl ?_ | refine ot rfl (by omega) ?_ | refine O_nil ?_) | refine wo rfl ?_ | refine wc rfl ?_ | refine wg rfl ?_ | refine go rfl ?_ | refine gc rfl ?_ | refine gg rfl ?_)
  refine O_box rfl trivial rfl fun b1 => ?_
  refine O_box rfl trivial rfl fun b2 => ?_
  rw [hu1]
  refine O_alloc zero34 trivial rfl fun b3 => ?_
  refine O_alloc zero40 trivial rfl fun b4 => ?_
  refine O_alloc zero40 trivial rfl fun b5 => ?_
  repeat' (first | (refine isO ?_; first | refine oo (Pc rfl) ?_ | refine oo (Pa rfl (by omega) (by omega)) ?_ | (refine ob rfl ?_ ?_ <;> intro hq <;> try (exfalso; omega)) | refine oo (Pi rfl (by omega)) ?_ | refine oo (Pl rfl) ?_ | refine oo (Px rfl rfl) ?_ | refine oo (Pj rfl (by omega) (by omega)) ?_ | refine oo (Pk rfl (by omega) (by omega)) ?_ | refine oo (Pf rfl) ?_ | refine oo (Pv rfl (by omega) (by omega)) ?_ | refine oo (Pn rfl) ?_ | refine oo (Pm rfl) ?_ | refine os rfl rfl ?_ | refine ot rfl (by omega) ?_ | refine O_nil ?_) | refine wo rfl ?_ | refine wc rfl ?_ | refine wg rfl ?_ | refine go rfl ?_ | refine gc rfl ?_ | refine gg rfl ?_)
  refine O_call rfl rfl Tb.k39 trivial rfl (safe_c (f := 80) (R := fun M' => ∃ sv m, Own sv 2 (rangesV (mkR a ls)) m ∧ Rk M' (⟨true, b3, 0, [sv]⟩ :: ⟨true, b4, 0, [.int .u32 a]⟩ :: ⟨true, b5, 0, [.int .u32 (rAt a ls ls.length : Nat)]⟩ :: (m ++ M))) Tb.k80 fun bs => ?_) ?_
  · refine (HCp.take (L := ⟨true, b1, 0, [.int .u64 a]⟩ :: ⟨true, b2, 0, [s]⟩ :: ⟨true, b3, 0, [.slice none 0 0]⟩ :: ⟨true, b4, 0, [.int .u32 0]⟩ :: ⟨true, b5, 0, [.int .u32 0]⟩ :: ⟨true, bs, 0, [.bool false]⟩ :: M) (.cons (.tail (.tail (.tail (.tail (.tail .head))))) (.cons (.tail (.tail (.tail (.tail .head)))) (.cons (.tail (.tail (.tail .head))) (.cons (.tail (.tail .head)) (.cons (.tail .head) .rfl)))))
      (mk80_c a b1 b2 b3 b4 b5 s ls _ ha (hu.mono fun x hx => .tail _ hx) hok h0)).mono ?_
    rintro _ M' ⟨sv, m, hown, hrk⟩
    refine ⟨_, .trans hrk ?_, sv, m, hown, .rfl⟩
    exact .perm (List.Perm.trans (.cons _ (.cons _ (.cons _ List.perm_middle))) (List.Perm.trans (.cons _ (.cons _ (.swap _ _ _))) (List.Perm.trans (.cons _ (.swap _ _ _)) (.swap _ _ _))))
  rintro _ M' ⟨rfl, sv, m, hown, hrk⟩
  refine O_weak hrk ?_
  have h1 := own_one' hown
  repeat' (first | (refine isO ?_; first | refine oo (Pc rfl) ?_ | refine oo (Pa rfl (by omega) (by omega)) ?_ | (refine ob rfl ?_ ?_ <;> intro hq <;> try (exfalso; omega)) | refine oo (Pi rfl (by omega)) ?_ | refine oo (Pl rfl) ?_ | refine oo (Px rfl rfl) ?_ | refine oo (Pj rfl (by omega) (by omega)) ?_ | refine oo (Pk rfl (by omega) (by omega)) ?_ | refine oo (Pf rfl) ?_ | refine oo (Pv rfl (by omega) (by omega)) ?_ | refine oo (Pn rfl) ?_ | refine oo (Pm rfl) ?_ | refine os rfl rfl ?_ | refine ot rfl (by omega) ?_ | refine O_nil ?_) | refine wo rfl ?_ | refine wc rfl ?_ | refine wg rfl ?_ | refine go rfl ?_ | refine gc rfl ?_ | refine gg rfl ?_)
  refine W_region_quiet Tb.mixed [[], [], [], [0], [1], [2]] (by kernel_rfl) (by kernel_rfl) ?_
  repeat' (first | (refine isQS ?_; first | refine qq (Pc rfl) ?_ | refine qq (Pa rfl (by omega) (by omega)) ?_ | (refine qb rfl ?_ ?_ <;> intro hq <;> try (exfalso; omega)) | refine qq (Pi rfl (by omega)) ?_ | refine qq (Pl rfl) ?_ | refine qq (Px rfl rfl) ?_ | refine qq (Pj rfl (by omega) (by omega)) ?_ | refine qq (Pk rfl (by omega) (by omega)) ?_ | refine qq (Pf rfl) ?_ | refine qq (Pv rfl (by omega) (by omega)) ?_ | refine qq (Pn rfl) ?_ | refine qq (Pm rfl) ?_ | (refine QS_nil ⟨rfl, ?_⟩; simp only [List.nil_append, List.cons_append, somes])))
  refine QS_store0 Tb.c34 rfl rfl h1 trivial (.head _) ?_
  refine QS_store0 Tb.c40 rfl rfl rfl trivial (.tail _ (.head _)) ?_
  refine QS_store0 Tb.c40 rfl rfl rfl trivial (.tail _ (.tail _ (.head _))) ?_
  repeat' (first | (refine isQS ?_; first | refine qq (Pc rfl) ?_ | refine qq (Pa rfl (by omega) (by omega)) ?_ | (refine qb rfl ?_ ?_ <;> intro hq <;> try (exfalso; omega)) | refine qq (Pi rfl (by omega)) ?_ | refine qq (Pl rfl) ?_ | refine qq (Px rfl rfl) ?_ | refine qq (Pj rfl (by omega) (by omega)) ?_ | refine qq (Pk rfl (by omega) (by omega)) ?_ | refine qq (Pf rfl) ?_ | refine qq (Pv rfl (by omega) (by omega)) ?_ | refine qq (Pn rfl) ?_ | refine qq (Pm rfl) ?_ | (refine QS_nil ⟨rfl, ?_⟩; simp only [List.nil_append, List.cons_append, somes])))
  repeat' (first | (refine isO ?_; first | refine oo (Pc rfl) ?_ | refine oo (Pa rfl (by omega) (by omega)) ?_ | (refine ob rfl ?_ ?_ <;> intro hq <;> try (exfalso; omega)) | refine oo (Pi rfl (by omega)) ?_ | refine oo (Pl rfl) ?_ | refine oo (Px rfl rfl) ?_ | refine oo (Pj rfl (by omega) (by omega)) ?_ | refine oo (Pk rfl (by omega) (by omega)) ?_ | refine oo (Pf rfl) ?_ | refine oo (Pv rfl (by omega) (by omega)) ?_ | refine oo (Pn rfl) ?_ | refine oo (Pm rfl) ?_ | refine os rfl rfl ?_ | refine ot rfl (by omega) ?_ | refine O_nil ?_) | refine wo rfl ?_ | refine wc rfl ?_ | refine wg rfl ?_ | refine go rfl ?_ | refine gc rfl ?_ | refine gg rfl ?_)
  exact G_fin ⟨[sv, .int .u32 a, .int .u32 (rAt a ls ls.length : Nat)], ⟨⟨_, _, _, _, _, rfl, .head _, Try.underlying34, rfl⟩, ⟨_, _, _, _, _, rfl, .tail _ (.head _), Try.underlying40, rfl⟩, ⟨_, _, _, _, _, rfl, .tail _ (.tail _ (.head _)), Try.underlying40, rfl⟩, trivial⟩, sv, m, hown, rfl, .drop (.drop (.drop .rfl))⟩
end Go.Proofs.Ytjkpfliaflmppaa.Pc

namespace Go.Proofs.Ytjkpfliaflmppaa.Pc
open Go Go.RowKit Go.Proofs.Ytjkpfliaflmppaa.Vm Go.Proofs.Ytjkpfliaflmppaa.Bu Go.Proofs.Ytjkpfliaflmppaa.Wr Go.Proofs.Ytjkpfliaflmppaa.Sf

/-- What the loop of the parts needs of memory. -/
structure Gear (cs : List Cd) (xs : List Nat) (l : List Pt) (eb rb : Nat) (sl : Value) (F : Mem) : Prop where
  enc : ∃ j cb cc ch, EncT cs j cc ch ∧ (EncR eb cs.length j cb cc : Sg) ∈ F ∧ (⟨true, cb, 0, ints .u32 ch⟩ : Sg) ∈ F
  rng : xs = [] ∨ ∃ s lut F', F.Perm (Ra rb s :: Rb rb lut :: Rc rb 0 :: F') ∧ Rs s (mkR 0 xs) F' ∧ Lt 0 xs lut xs.length
  parts : Ps sl l F

theorem wTo_some {cs : List Cd} {xs : List Nat} {big : Bool} {l : List Pt} {bits : List Nat} (h : wTo cs xs big l l.length = some bits) {i : Nat} {b : List Nat} (hi : i < l.length) (hb : wTo cs xs big l i = some b) : ∃ b', wstep cs xs big b (l.getD i Pt.zero) = some b' ∧ wTo cs xs big l (i + 1) = some b' := by
  cases h1 : wTo cs xs big l (i + 1) with
  | none => rw [wTo_none h1 _ (by omega)] at h; cases h
  | some b' => exact ⟨b', by simpa only [wTo, hb] using h1, rfl⟩
theorem rfind_spec {a v i : Nat} {xs : List Nat} (h : rfind a xs v = some i) : i < xs.length ∧ rAt a xs i ≤ v ∧ v < rAt a xs (i + 1) := by
  unfold rfind at h
  split at h
  · rename_i hx
    cases h
    exact hx.choose_spec
  · cases h
theorem wstep_kind {cs : List Cd} {xs b b' : List Nat} {big : Bool} {p : Pt} (h : wstep cs xs big b p = some b') : p.kind = 0 ∨ p.kind = 1 ∨ p.kind = 2 ∨ p.kind = 3 ∨ p.kind = 4 := by
  unfold wstep at h
  split at h
  · exact .inl ‹_›
  · split at h
    · exact .inr (.inl ‹_›)
    · split at h
      · exact .inr (.inr (.inl ‹_›))
      · split at h
        · exact .inr (.inr (.inr (.inl ‹_›)))
        · split at h
          · exact .inr (.inr (.inr (.inr ‹_›)))
          · cases h
theorem lt_of_div0 {v n : Nat} (h : v / 2 ^ n = 0) : v < 2 ^ n := by
  have := Nat.div_eq_zero_iff.1 h
  have h2 := Nat.two_pow_pos n
  omega
/-- What each kind of part adds. -/
theorem step0 {cs : List Cd} {xs b b' : List Nat} {big : Bool} {p : Pt} (hk : p.kind = 0) (h : wstep cs xs big b p = some b') : p.v < 2 ^ p.n ∧ b' = b ++ bitsOf p.v p.n := by
  rw [wstep0 hk] at h
  split at h
  · cases h; exact ⟨lt_of_div0 ‹_›, rfl⟩
  · cases h
theorem step1 {cs : List Cd} {xs b b' : List Nat} {big : Bool} {p : Pt} (hk : p.kind = 1) (h : wstep cs xs big b p = some b') : p.v < cs.length ∧ b' = b ++ bitsOf (cs.getD p.v Cd.zero).val (cs.getD p.v Cd.zero).len := by
  rw [wstep1 hk] at h
  split at h
  · cases h; exact ⟨‹_›, rfl⟩
  · cases h
theorem step2 {cs : List Cd} {xs b b' : List Nat} {big : Bool} {p : Pt} (hk : p.kind = 2) (h : wstep cs xs big b p = some b') :
    ∃ i, i < xs.length ∧ rAt 0 xs i ≤ p.v ∧ p.v < rAt 0 xs (i + 1) ∧ i < cs.length ∧ b' = b ++ bitsOf (cs.getD i Cd.zero).val (cs.getD i Cd.zero).len ++ bitsOf (p.v - rAt 0 xs i) (xs.getD i 0) := by
  rw [wstep2 hk] at h
  cases hf : rfind 0 xs p.v with
  | none => rw [hf] at h; cases h
  | some i =>
    rw [hf] at h
    dsimp only at h
    split at h
    · cases h
      obtain ⟨h1, h2, h3⟩ := rfind_spec hf
      exact ⟨i, h1, h2, h3, ‹_›, rfl⟩
    · cases h
theorem step3 {cs : List Cd} {xs b b' : List Nat} {big : Bool} {p : Pt} (hk : p.kind = 3) (h : wstep cs xs big b p = some b') : p.v < 2 ^ ((8 - b.length % 8) % 8) ∧ b' = b ++ bitsOf p.v ((8 - b.length % 8) % 8) := by
  rw [wstep3 hk] at h
  split at h
  · cases h; exact ⟨lt_of_div0 ‹_›, rfl⟩
  · cases h
theorem step4 {cs : List Cd} {xs b b' : List Nat} {big : Bool} {p : Pt} (hk : p.kind = 4) (h : wstep cs xs big b p = some b') : b.length % 8 = 0 ∧ b' = b ++ unp big p.s := by
  rw [wstep4 hk] at h
  split at h
  · cases h; exact ⟨‹_›, rfl⟩
  · cases h
/-- What a Writer holds at the start. -/
def wst0 : Wst := ⟨0, 0, 0, List.replicate 512 0, 0, .slice none 0 0, 0, [], []⟩
theorem ws0 (big : Bool) : WS big [] 0 wst0 := by
  refine ⟨⟨.inl ⟨rfl, rfl, rfl⟩, fun ad l c h => ?_⟩, rfl, List.length_replicate, Nat.one_pos, Nat.zero_le _, Nat.zero_le _, [], ?_, rfl, rfl⟩
  · cases h; omega
  · intro y hy; cases hy
/-- Bytes of these bits, with noughts behind them. -/
def Padded (big : Bool) (bits ys : List Nat) : Prop := (∀ y ∈ ys, y < 256) ∧ unp big ys = bits ++ bitsOf 0 ((8 - bits.length % 8) % 8)
theorem ws_end {big : Bool} {bits : List Nat} {lim : Nat} {y : Wst} (h : WS big (bits ++ bitsOf 0 ((8 - bits.length % 8) % 8)) lim y) (hl : lim ≤ 4000) (hc : y.cnt = 0) (hn : y.nb < 8) : ∃ ys, Padded big bits ys ∧ y.out = ys.map Nat.cast := by
  have h1 := h.len hl
  rw [List.length_append, bitsOf_length, hc] at h1
  have hn0 : y.nb = 0 := by omega
  obtain ⟨ys, k1, k2, k3⟩ := h.ys
  rw [hc, List.take_zero, List.append_nil] at k2
  rw [hn0] at k3
  exact ⟨ys, ⟨k1, by rw [k3]; simp [bitsOf]⟩, k2⟩
end Go.Proofs.Ytjkpfliaflmppaa.Pc
