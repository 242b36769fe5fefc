/- RangeEncoder.Init and Encode, walked: for ranges that stand one behind the other, and an offset that has one. RangeEncoder.Encode, impl.RangeOf, walked. laws.given, walked: canonical codes and ranges of handed lengths. -/
import Derived.Test.YtjkpfliaflmppaaW11x19
import Derived.Test.YtjkpfliaflmppaaW11x07
import Derived.Test.YtjkpfliaflmppaaW11x13
import Derived.Test.YtjkpfliaflmppaaW11x05
import Derived.Test.YtjkpfliaflmppaaW11x17

namespace Go.Proofs.Ytjkpfliaflmppaa.Pc
open Go Go.RowKit Go.Proofs.Ytjkpfliaflmppaa.Vm

theorem rAt_find (a x : Nat) (ls : List Nat) : ∀ n, a ≤ x → x < rAt a ls n → ∃ i, i < n ∧ rAt a ls i ≤ x ∧ x < rAt a ls (i + 1)
  | 0, h1, h2 => by simp [rAt] at h2; omega
  | n + 1, h1, h2 => by
    by_cases h : x < rAt a ls n
    · obtain ⟨i, k1, k2⟩ := rAt_find a x ls n h1 h
      exact ⟨i, by omega, k2⟩
    · exact ⟨n, by omega, by omega, h2⟩
theorem rAt_uniq {a x i j : Nat} {ls : List Nat} (h1 : rAt a ls i ≤ x) (h2 : x < rAt a ls (i + 1)) (k1 : rAt a ls j ≤ x) (k2 : x < rAt a ls (j + 1)) : i = j := by
  rcases Nat.lt_trichotomy i j with h | h | h
  · have := rAt_mono (a := a) (ls := ls) (i + 1) j h; omega
  · exact h
  · have := rAt_mono (a := a) (ls := ls) (j + 1) i h; omega
theorem rAt_ge (a : Nat) (ls : List Nat) (i : Nat) : a ≤ rAt a ls i := rAt_mono (a := a) (ls := ls) 0 i (Nat.zero_le _)

/-- The table tells the ranges below j. -/
def Lt (a : Nat) (ls : List Nat) (lut : List Int) (j : Nat) : Prop := lut.length = 1024 ∧ ∀ k, k < 1024 → ∀ i, i < j → rAt a ls i ≤ a + k → a + k < rAt a ls (i + 1) → lut.getD k 0 = i

theorem ints_one' {k : IntKind} (l : List Int) : ∀ v ∈ ints k l, v.oneCell' = true := by
  intro v hv
  simp only [ints, List.mem_map] at hv
  obtain ⟨z, _, rfl⟩ := hv
  rfl

abbrev Ra (rb : Nat) (s : Value) : Sg := ⟨true, rb, 0, [s]⟩
abbrev Rb (rb : Nat) (lut : List Int) : Sg := ⟨true, rb, 1, ints .u32 lut⟩
abbrev Rc (rb a : Nat) : Sg := ⟨true, rb, 1025, [.int .u64 a]⟩

def cells109 (s : Value) (a : Nat) : List Value := [s] ++ (ints .u32 (List.replicate 1024 0) ++ [.int .u64 a])
theorem build109 (ad : Option Addr) (n c : Nat) (a : Nat) (w : World) : (Instr.build 109 [(0, .slice ad n c), (2, .int .u64 a)].toArray).run Try.prog w = .ok (.agg (cells109 (.slice ad n c) a).toArray) w := by kernel_rfl
theorem zero109L : zeroOf Try.prog 109 = some (cells109 (.slice none 0 0) 0) := by kernel_rfl

theorem getD_wr {l : List Int} {p v : Int} {k : Nat} (hl : p.toNat < l.length) : (wr l p v).getD k 0 = if k = p.toNat then v else l.getD k 0 := by
  unfold wr
  rw [List.getD_eq_getElem?_getD, List.getD_eq_getElem?_getD, List.getElem?_set]
  by_cases h : k = p.toNat
  · subst h; simp [hl]
  · rw [if_neg (fun e => h e.symm), if_neg h]

theorem init53_c (rb a : Nat) (s : Value) (ls : List Nat) (cs : List Value) (M : Mem) (hcs : cs.length = 1026) (ha : a ≤ 1048576) (hs : Rs s (mkR a ls) M) (hok : OkN ls) (h0 : 0 < ls.length) :
    HC Try.prog 53 #[.pointer (some ⟨rb, 0, none⟩), s] (⟨true, rb, 0, cs⟩ :: M) (fun _ M' => ∃ lut, Lt a ls lut ls.length ∧ Rk M' (Ra rb s :: Rb rb lut :: Rc rb a :: M)) := by
  obtain ⟨b, own, sp, cap, rfl, hc, hm⟩ := hs.at (by rw [mkR_length]; exact h0)
  have h30 := hok.1
  have hl0 : 0 < (mkR a ls).length := by rw [mkR_length]; exact h0
  have hb0 : ((mkR a ls).getD 0 Rg.zero).base = a := by rw [mkR_get a ls 0 h0]; rfl
  rw [mkR_length] at hs ⊢
  refine HC_of_W (fn := Try.f53) Try.func53 rfl rfl rfl rfl ?_
  repeat' (first | (refine isO ?_; first | refine oo (Pc rfl) ?_ | refine oo (Pa rfl (by omega) (by omega)) ?_ | (refine ob rfl ?_ ?_ <;> intro hq <;> try (exfalso; omega)) | refine oo (Pi rfl (by omega)) ?_ | refine oo (Pl rfl) ?_ | refine oo (Px rfl rfl) ?_ | refine oo (Pj rfl (by omega) (by omega)) ?_ | refine oo (Pk rfl (by omega) (by omega)) ?_ | refine oo (Pf rfl) ?_ | refine oo (Pv rfl (by omega) (by omega)) ?_ | refine oo (Pn rfl) ?_ | refine oo (Pm rfl) ?_ | refine os rfl rfl ?_ | refine ot rfl (by omega) ?_ | refine O_nil ?_) | refine wo rfl ?_ | refine wc rfl ?_ | refine wg rfl ?_ | refine go rfl ?_ | refine gc rfl ?_ | refine gg rfl ?_)
  refine O_call rfl rfl Tb.k97 trivial rfl (valid97_c a _ ls _ ha (hs.mono fun x hx => .tail _ hx) hok h0) ?_
  rintro v M' ⟨rfl, hrk⟩
  refine O_weak hrk ?_
  clear hrk
  repeat' (first | (refine isO ?_; first | refine oo (Pc rfl) ?_ | refine oo (Pa rfl (by omega) (by omega)) ?_ | (refine ob rfl ?_ ?_ <;> intro hq <;> try (exfalso; omega)) | refine oo (Pi rfl (by omega)) ?_ | refine oo (Pl rfl) ?_ | refine oo (Px rfl rfl) ?_ | refine oo (Pj rfl (by omega) (by omega)) ?_ | refine oo (Pk rfl (by omega) (by omega)) ?_ | refine oo (Pf rfl) ?_ | refine oo (Pv rfl (by omega) (by omega)) ?_ | refine oo (Pn rfl) ?_ | refine oo (Pm rfl) ?_ | refine os rfl rfl ?_ | refine ot rfl (by omega) ?_ | refine O_nil ?_) | refine wo rfl ?_ | refine wc rfl ?_ | refine wg rfl ?_ | refine go rfl ?_ | refine gc rfl ?_ | refine gg rfl ?_)
  refine O_callP rfl rfl Tb.k82 trivial rfl (base82_c _ _ _ (hs.mono fun x hx => .tail _ hx) hl0) ?_
  rw [hb0]
  repeat' (first | (refine isO ?_; first | refine oo (Pc rfl) ?_ | refine oo (Pa rfl (by omega) (by omega)) ?_ | (refine ob rfl ?_ ?_ <;> intro hq <;> try (exfalso; omega)) | refine oo (Pi rfl (by omega)) ?_ | refine oo (Pl rfl) ?_ | refine oo (Px rfl rfl) ?_ | refine oo (Pj rfl (by omega) (by omega)) ?_ | refine oo (Pk rfl (by omega) (by omega)) ?_ | refine oo (Pf rfl) ?_ | refine oo (Pv rfl (by omega) (by omega)) ?_ | refine oo (Pn rfl) ?_ | refine oo (Pm rfl) ?_ | refine os rfl rfl ?_ | refine ot rfl (by omega) ?_ | refine O_nil ?_) | refine wo rfl ?_ | refine wc rfl ?_ | refine wg rfl ?_ | refine go rfl ?_ | refine gc rfl ?_ | refine gg rfl ?_)
  refine O_pure (P_build rfl (build109 _ _ _ _)) trivial rfl ?_
  repeat' (first | (refine isO ?_; first | refine oo (Pc rfl) ?_ | refine oo (Pa rfl (by omega) (by omega)) ?_ | (refine ob rfl ?_ ?_ <;> intro hq <;> try (exfalso; omega)) | refine oo (Pi rfl (by omega)) ?_ | refine oo (Pl rfl) ?_ | refine oo (Px rfl rfl) ?_ | refine oo (Pj rfl (by omega) (by omega)) ?_ | refine oo (Pk rfl (by omega) (by omega)) ?_ | refine oo (Pf rfl) ?_ | refine oo (Pv rfl (by omega) (by omega)) ?_ | refine oo (Pn rfl) ?_ | refine oo (Pm rfl) ?_ | refine os rfl rfl ?_ | refine ot rfl (by omega) ?_ | refine O_nil ?_) | refine wo rfl ?_ | refine wc rfl ?_ | refine wg rfl ?_ | refine go rfl ?_ | refine gc rfl ?_ | refine gg rfl ?_)
  refine O_storeAgg0 Tb.c109 (by decide) rfl rfl (by simp only [cells109, List.length_append, ints_length, List.length_replicate, List.length_cons, List.length_nil]) ?_ trivial .head hcs ?_
  · intro v hv
    unfold cells109 at hv
    rcases List.mem_append.1 hv with h | h
    · simp at h; subst h; rfl
    · rcases List.mem_append.1 h with h | h
      · exact ints_one' _ _ h
      · simp at h; subst h; rfl
  refine O_split (o2 := 1) rfl rfl ?_
  refine O_weak (M' := ⟨true, rb, 1, ints .u32 (List.replicate 1024 0) ++ [.int .u64 a]⟩ :: Ra rb (.slice (some ⟨b, 0, none⟩) ls.length cap) :: M) (.perm (.swap _ _ _)) ?_
  refine O_split (o2 := 1025) rfl (by rw [ints_length, List.length_replicate]) ?_
  refine O_weak (M' := Ra rb (.slice (some ⟨b, 0, none⟩) ls.length cap) :: Rb rb (List.replicate 1024 0) :: Rc rb a :: M) (by repeat (first | exact .rfl | exact .nil | (apply Rk.cons; (· exact TakeI.out)) | refine .drop ?_)) ?_
  repeat' (first | (refine isO ?_; first | refine oo (Pc rfl) ?_ | refine oo (Pa rfl (by omega) (by omega)) ?_ | (refine ob rfl ?_ ?_ <;> intro hq <;> try (exfalso; omega)) | refine oo (Pi rfl (by omega)) ?_ | refine oo (Pl rfl) ?_ | refine oo (Px rfl rfl) ?_ | refine oo (Pj rfl (by omega) (by omega)) ?_ | refine oo (Pk rfl (by omega) (by omega)) ?_ | refine oo (Pf rfl) ?_ | refine oo (Pv rfl (by omega) (by omega)) ?_ | refine oo (Pn rfl) ?_ | refine oo (Pm rfl) ?_ | refine os rfl rfl ?_ | refine ot rfl (by omega) ?_ | refine O_nil ?_) | refine wo rfl ?_ | refine wc rfl ?_ | refine wg rfl ?_ | refine go rfl ?_ | refine gc rfl ?_ | refine gg rfl ?_)
  refine W_loop (α := Nat × List Int) (fun x => [(0, .pointer (some ⟨rb, 0, none⟩)), (20, .slice (some ⟨b, 0, none⟩) ls.length cap), (21, .int .i64 ls.length), (22, .int .i64 x.1)])
    (fun x => Ra rb (.slice (some ⟨b, 0, none⟩) ls.length cap) :: Rb rb x.2 :: Rc rb a :: M) (fun x => x.1 ≤ ls.length ∧ Lt a ls x.2 x.1) (fun x => ls.length - x.1)
    (0, List.replicate 1024 0) ⟨by omega, List.length_replicate, fun k _ i hi => by omega⟩ ⟨rfl, rfl, rfl, rfl, trivial⟩ .rfl ?_
  rintro ⟨j, lut⟩ ⟨hj, hlt⟩
  dsimp only at hj hlt ⊢
  repeat' (first | (refine isO ?_; first | refine oo (Pc rfl) ?_ | refine oo (Pa rfl (by omega) (by omega)) ?_ | (refine ob rfl ?_ ?_ <;> intro hq <;> try (exfalso; omega)) | refine oo (Pi rfl (by omega)) ?_ | refine oo (Pl rfl) ?_ | refine oo (Px rfl rfl) ?_ | refine oo (Pj rfl (by omega) (by omega)) ?_ | refine oo (Pk rfl (by omega) (by omega)) ?_ | refine oo (Pf rfl) ?_ | refine oo (Pv rfl (by omega) (by omega)) ?_ | refine oo (Pn rfl) ?_ | refine oo (Pm rfl) ?_ | refine os rfl rfl ?_ | refine ot rfl (by omega) ?_ | refine O_nil ?_) | refine wo rfl ?_ | refine wc rfl ?_ | refine wg rfl ?_ | refine go rfl ?_ | refine gc rfl ?_ | refine gg rfl ?_)
  · have hjl : j < ls.length := by omega
    have hz := hok.2 j hjl
    have hr := rAt_le (a := a) hok j (by omega)
    have hge := rAt_ge a ls j
    have hr1 : rAt a ls (j + 1) = rAt a ls j + 2 ^ ls.getD j 0 := rfl
    have hget := mkR_get a ls j hjl
    have hp := pow20 hz
    have hmono : ∀ i, j ≤ i → rAt a ls j ≤ rAt a ls i := fun i h => rAt_mono j i h
    generalize hzz : ls.getD j 0 = z at *
    refine O_pure (P_loadAggAt (o := 0) (i := j * 2) (cs := [.int .u32 (rAt a ls j : Nat), .int .u32 (z : Nat)]) Tb.a141 Tb.c141 (by decide) rfl (by omega) (.tail _ (.tail _ (.tail _ hm))) (by rw [List.length_append, rangesV_length, mkR_length]; omega)
      (rangesV_block _ sp j (by rw [mkR_length]; exact hjl) hget)) trivial rfl ?_
    refine O_alloc zero141 trivial rfl fun bx => ?_
    repeat' (first | (refine isO ?_; first | refine oo (Pc rfl) ?_ | refine oo (Pa rfl (by omega) (by omega)) ?_ | (refine ob rfl ?_ ?_ <;> intro hq <;> try (exfalso; omega)) | refine oo (Pi rfl (by omega)) ?_ | refine oo (Pl rfl) ?_ | refine oo (Px rfl rfl) ?_ | refine oo (Pj rfl (by omega) (by omega)) ?_ | refine oo (Pk rfl (by omega) (by omega)) ?_ | refine oo (Pf rfl) ?_ | refine oo (Pv rfl (by omega) (by omega)) ?_ | refine oo (Pn rfl) ?_ | refine oo (Pm rfl) ?_ | refine os rfl rfl ?_ | refine ot rfl (by omega) ?_ | refine O_nil ?_) | refine wo rfl ?_ | refine wc rfl ?_ | refine wg rfl ?_ | refine go rfl ?_ | refine gc rfl ?_ | refine gg rfl ?_)
    refine O_storeAgg0 Tb.c141 (by decide) rfl rfl rfl (lit2_one _ _) trivial .head rfl ?_
    repeat' (first | (refine isO ?_; first | refine oo (Pc rfl) ?_ | refine oo (Pa rfl (by omega) (by omega)) ?_ | (refine ob rfl ?_ ?_ <;> intro hq <;> try (exfalso; omega)) | refine oo (Pi rfl (by omega)) ?_ | refine oo (Pl rfl) ?_ | refine oo (Px rfl rfl) ?_ | refine oo (Pj rfl (by omega) (by omega)) ?_ | refine oo (Pk rfl (by omega) (by omega)) ?_ | refine oo (Pf rfl) ?_ | refine oo (Pv rfl (by omega) (by omega)) ?_ | refine oo (Pn rfl) ?_ | refine oo (Pm rfl) ?_ | refine os rfl rfl ?_ | refine ot rfl (by omega) ?_ | refine O_nil ?_) | refine wo rfl ?_ | refine wc rfl ?_ | refine wg rfl ?_ | refine go rfl ?_ | refine gc rfl ?_ | refine gg rfl ?_)
    refine W_region_still Tb.mixed (by kernel_rfl) ?_
    repeat' (first | (refine isS ?_; first | refine ss (Pc rfl) ?_ | refine ss (Pa rfl (by omega) (by omega)) ?_ | (refine sb rfl ?_ ?_ <;> intro hq <;> try (exfalso; omega)) | refine ss (Pi rfl (by omega)) ?_ | refine ss (Pl rfl) ?_ | refine ss (Px rfl rfl) ?_ | refine ss (Pj rfl (by omega) (by omega)) ?_ | refine ss (Pk rfl (by omega) (by omega)) ?_ | refine ss (Pf rfl) ?_ | refine ss (Pv rfl (by omega) (by omega)) ?_ | refine ss (Pn rfl) ?_ | refine ss (Pm rfl) ?_ | refine OS_nil ?_))
    repeat' (first | (refine isO ?_; first | refine oo (Pc rfl) ?_ | refine oo (Pa rfl (by omega) (by omega)) ?_ | (refine ob rfl ?_ ?_ <;> intro hq <;> try (exfalso; omega)) | refine oo (Pi rfl (by omega)) ?_ | refine oo (Pl rfl) ?_ | refine oo (Px rfl rfl) ?_ | refine oo (Pj rfl (by omega) (by omega)) ?_ | refine oo (Pk rfl (by omega) (by omega)) ?_ | refine oo (Pf rfl) ?_ | refine oo (Pv rfl (by omega) (by omega)) ?_ | refine oo (Pn rfl) ?_ | refine oo (Pm rfl) ?_ | refine os rfl rfl ?_ | refine ot rfl (by omega) ?_ | refine O_nil ?_) | refine wo rfl ?_ | refine wc rfl ?_ | refine wg rfl ?_ | refine go rfl ?_ | refine gc rfl ?_ | refine gg rfl ?_)
    refine W_region_quiet Tb.mixed [[], [0], [1], [], [3], [4], [5], [6], [2, 7], [8]] (by kernel_rfl) (by kernel_rfl) ?_
    refine QS_pure (P_loadAggAt (o := 0) (i := 0) (cs := [.int .u32 (rAt a ls j : Nat), .int .u32 (z : Nat)]) Tb.a141 Tb.c141 (by decide) rfl rfl (.head _) (Nat.le_refl _) rfl) trivial rfl ?_
    refine QS_call rfl rfl Tb.k98 trivial rfl (end98_c (rAt a ls j) z _ (by omega)) ?_
    repeat' (first | (refine isQS ?_; first | refine qq (Pc rfl) ?_ | refine qq (Pa rfl (by omega) (by omega)) ?_ | (refine qb rfl ?_ ?_ <;> intro hq <;> try (exfalso; omega)) | refine qq (Pi rfl (by omega)) ?_ | refine qq (Pl rfl) ?_ | refine qq (Px rfl rfl) ?_ | refine qq (Pj rfl (by omega) (by omega)) ?_ | refine qq (Pk rfl (by omega) (by omega)) ?_ | refine qq (Pf rfl) ?_ | refine qq (Pv rfl (by omega) (by omega)) ?_ | refine qq (Pn rfl) ?_ | refine qq (Pm rfl) ?_ | (refine QS_nil ⟨rfl, ?_⟩; simp only [List.nil_append, List.cons_append, somes])))
    rw [← hr1]
    repeat' (first | (refine isO ?_; first | refine oo (Pc rfl) ?_ | refine oo (Pa rfl (by omega) (by omega)) ?_ | (refine ob rfl ?_ ?_ <;> intro hq <;> try (exfalso; omega)) | refine oo (Pi rfl (by omega)) ?_ | refine oo (Pl rfl) ?_ | refine oo (Px rfl rfl) ?_ | refine oo (Pj rfl (by omega) (by omega)) ?_ | refine oo (Pk rfl (by omega) (by omega)) ?_ | refine oo (Pf rfl) ?_ | refine oo (Pv rfl (by omega) (by omega)) ?_ | refine oo (Pn rfl) ?_ | refine oo (Pm rfl) ?_ | refine os rfl rfl ?_ | refine ot rfl (by omega) ?_ | refine O_nil ?_) | refine wo rfl ?_ | refine wc rfl ?_ | refine wg rfl ?_ | refine go rfl ?_ | refine gc rfl ?_ | refine gg rfl ?_)
    · refine G_fin ⟨_, rfl, lut, ⟨hlt.1, fun k hk i hi k1 k2 => ?_⟩, .drop .rfl⟩
      by_cases hij : i < j
      · exact hlt.2 k hk i hij k1 k2
      · have := hmono i (by omega); omega
    · obtain ⟨en, hen, he1, he2, he3⟩ : ∃ en : Int, (1024 : Int) = en ∧ en ≤ 1024 ∧ en ≤ ((rAt a ls (j + 1) : Nat) : Int) - a ∧ (en = 1024 ∨ en = ((rAt a ls (j + 1) : Nat) : Int) - a) := ⟨_, rfl, by omega, by omega, .inl rfl⟩
      (refine W_loop (α := Nat × List Int) (fun x => [(0, .pointer (some ⟨rb, 0, none⟩)), (4, .int .i64 j), (7, .int .i64 en), (8, .int .i64 x.1), (20, .slice (some ⟨b, 0, none⟩) ls.length cap), (21, .int .i64 ls.length), (22, .int .i64 j)]) (fun x => Ra rb (.slice (some ⟨b, 0, none⟩) ls.length cap) :: Rb rb x.2 :: Rc rb a :: M) (fun x => rAt a ls j ≤ a + x.1 ∧ (x.1 : Int) ≤ 1024 ∧ (x.1 : Int) ≤ en ∧ Lt a ls x.2 j ∧ ∀ k, rAt a ls j ≤ a + k → k < x.1 → x.2.getD k 0 = j) (fun x => 1024 - x.1) (rAt a ls j - a, lut) ⟨by omega, by omega, by omega, hlt, fun k k1 k2 => absurd k2 (by omega)⟩ ⟨rfl, rfl, congrArg (fun q => some (Value.int .i64 q)) hen, congrArg (fun q => some (Value.int .i64 q)) (by omega), rfl, rfl, rfl, trivial⟩ (.drop .rfl) ?_; rintro ⟨p, l2⟩ ⟨i1, i2, i5, i3, i4⟩; dsimp only at i1 i2 i3 i4 i5 ⊢; (repeat' (first | (refine isO ?_; first | refine oo (Pc rfl) ?_ | refine oo (Pa rfl (by omega) (by omega)) ?_ | (refine ob rfl ?_ ?_ <;> intro hq <;> try (exfalso; omega)) | refine oo (Pi rfl (by omega)) ?_ | refine oo (Pl rfl) ?_ | refine oo (Px rfl rfl) ?_ | refine oo (Pj rfl (by omega) (by omega)) ?_ | refine oo (Pk rfl (by omega) (by omega)) ?_ | refine oo (Pf rfl) ?_ | refine oo (Pv rfl (by omega) (by omega)) ?_ | refine oo (Pn rfl) ?_ | refine oo (Pm rfl) ?_ | refine os rfl rfl ?_ | refine ot rfl (by omega) ?_ | refine O_nil ?_) | refine wo rfl ?_ | refine wc rfl ?_ | refine wg rfl ?_ | refine go rfl ?_ | refine gc rfl ?_ | refine gg rfl ?_)); (· have hl2 : (p : Int).toNat < l2.length := (by rw [i3.1]; omega); refine O_storei (o := 1) (z := (p : Int)) (l := l2) (v := (j : Int)) Tb.c40 rfl rfl trivial (.tail .head) hl2 ?_; (repeat' (first | (refine isO ?_; first | refine oo (Pc rfl) ?_ | refine oo (Pa rfl (by omega) (by omega)) ?_ | (refine ob rfl ?_ ?_ <;> intro hq <;> try (exfalso; omega)) | refine oo (Pi rfl (by omega)) ?_ | refine oo (Pl rfl) ?_ | refine oo (Px rfl rfl) ?_ | refine oo (Pj rfl (by omega) (by omega)) ?_ | refine oo (Pk rfl (by omega) (by omega)) ?_ | refine oo (Pf rfl) ?_ | refine oo (Pv rfl (by omega) (by omega)) ?_ | refine oo (Pn rfl) ?_ | refine oo (Pm rfl) ?_ | refine os rfl rfl ?_ | refine ot rfl (by omega) ?_ | refine O_nil ?_) | refine wo rfl ?_ | refine wc rfl ?_ | refine wg rfl ?_ | refine go rfl ?_ | refine gc rfl ?_ | refine gg rfl ?_)); refine G_stop ⟨(p + 1, wr l2 p j), ⟨by (dsimp only; omega), by (dsimp only; omega), by (dsimp only; omega), ⟨by rw [wr_length]; exact i3.1, fun k hk i hi k1 k2 => ?_⟩, fun k k1 k2 => ?_⟩, by (dsimp only; omega), ⟨rfl, rfl, rfl, rfl, rfl, rfl, rfl, trivial⟩, by (dsimp only; (repeat (first | exact .rfl | exact .nil | (apply Rk.cons; (· exact TakeI.out)) | refine .drop ?_)))⟩; (· rw [getD_wr hl2]; split; (· rename_i hkp; exact absurd (rAt_mono (a := a) (ls := ls) (i + 1) j hi) (by omega)); (· exact i3.2 k hk i hi k1 k2)); (· rw [getD_wr hl2]; split; (· rfl); (· rename_i hkp; exact i4 k k1 (by dsimp only at k2; omega)))); (· refine G_stop ⟨(j + 1, l2), ⟨hjl, i3.1, fun k hk i hi k1 k2 => ?_⟩, by (dsimp only; omega), ⟨rfl, rfl, rfl, rfl, trivial⟩, .rfl⟩; by_cases hij : i < j; (· exact i3.2 k hk i hij k1 k2); (· obtain rfl : i = j := (by omega); exact i4 k k1 (by omega))))
    · obtain ⟨en, hen, he1, he2, he3⟩ : ∃ en : Int, ((rAt a ls (j + 1) : Nat) : Int) - a = en ∧ en ≤ 1024 ∧ en ≤ ((rAt a ls (j + 1) : Nat) : Int) - a ∧ (en = 1024 ∨ en = ((rAt a ls (j + 1) : Nat) : Int) - a) := ⟨_, rfl, by omega, by omega, .inr rfl⟩
      (refine W_loop (α := Nat × List Int) (fun x => [(0, .pointer (some ⟨rb, 0, none⟩)), (4, .int .i64 j), (7, .int .i64 en), (8, .int .i64 x.1), (20, .slice (some ⟨b, 0, none⟩) ls.length cap), (21, .int .i64 ls.length), (22, .int .i64 j)]) (fun x => Ra rb (.slice (some ⟨b, 0, none⟩) ls.length cap) :: Rb rb x.2 :: Rc rb a :: M) (fun x => rAt a ls j ≤ a + x.1 ∧ (x.1 : Int) ≤ 1024 ∧ (x.1 : Int) ≤ en ∧ Lt a ls x.2 j ∧ ∀ k, rAt a ls j ≤ a + k → k < x.1 → x.2.getD k 0 = j) (fun x => 1024 - x.1) (rAt a ls j - a, lut) ⟨by omega, by omega, by omega, hlt, fun k k1 k2 => absurd k2 (by omega)⟩ ⟨rfl, rfl, congrArg (fun q => some (Value.int .i64 q)) hen, congrArg (fun q => some (Value.int .i64 q)) (by omega), rfl, rfl, rfl, trivial⟩ (.drop .rfl) ?_; rintro ⟨p, l2⟩ ⟨i1, i2, i5, i3, i4⟩; dsimp only at i1 i2 i3 i4 i5 ⊢; (repeat' (first | (refine isO ?_; first | refine oo (Pc rfl) ?_ | refine oo (Pa rfl (by omega) (by omega)) ?_ | (refine ob rfl ?_ ?_ <;> intro hq <;> try (exfalso; omega)) | refine oo (Pi rfl (by omega)) ?_ | refine oo (Pl rfl) ?_ | refine oo (Px rfl rfl) ?_ | refine oo (Pj rfl (by omega) (by omega)) ?_ | refine oo (Pk rfl (by omega) (by omega)) ?_ | refine oo (Pf rfl) ?_ | refine oo (Pv rfl (by omega) (by omega)) ?_ | refine oo (Pn rfl) ?_ | refine oo (Pm rfl) ?_ | refine os rfl rfl ?_ | refine ot rfl (by omega) ?_ | refine O_nil ?_) | refine wo rfl ?_ | refine wc rfl ?_ | refine wg rfl ?_ | refine go rfl ?_ | refine gc rfl ?_ | refine gg rfl ?_)); (· have hl2 : (p : Int).toNat < l2.length := (by rw [i3.1]; omega); refine O_storei (o := 1) (z := (p : Int)) (l := l2) (v := (j : Int)) Tb.c40 rfl rfl trivial (.tail .head) hl2 ?_; (repeat' (first | (refine isO ?_; first | refine oo (Pc rfl) ?_ | refine oo (Pa rfl (by omega) (by omega)) ?_ | (refine ob rfl ?_ ?_ <;> intro hq <;> try (exfalso; omega)) | refine oo (Pi rfl (by omega)) ?_ | refine oo (Pl rfl) ?_ | refine oo (Px rfl rfl) ?_ | refine oo (Pj rfl (by omega) (by omega)) ?_ | refine oo (Pk rfl (by omega) (by omega)) ?_ | refine oo (Pf rfl) ?_ | refine oo (Pv rfl (by omega) (by omega)) ?_ | refine oo (Pn rfl) ?_ | refine oo (Pm rfl) ?_ | refine os rfl rfl ?_ | refine ot rfl (by omega) ?_ | refine O_nil ?_) | refine wo rfl ?_ | refine wc rfl ?_ | refine wg rfl ?_ | refine go rfl ?_ | refine gc rfl ?_ | refine gg rfl ?_)); refine G_stop ⟨(p + 1, wr l2 p j), ⟨by (dsimp only; omega), by (dsimp only; omega), by (dsimp only; omega), ⟨by rw [wr_length]; exact i3.1, fun k hk i hi k1 k2 => ?_⟩, fun k k1 k2 => ?_⟩, by (dsimp only; omega), ⟨rfl, rfl, rfl, rfl, rfl, rfl, rfl, trivial⟩, by (dsimp only; (repeat (first | exact .rfl | exact .nil | (apply Rk.cons; (· exact TakeI.out)) | refine .drop ?_)))⟩; (· rw [getD_wr hl2]; split; (· rename_i hkp; exact absurd (rAt_mono (a := a) (ls := ls) (i + 1) j hi) (by omega)); (· exact i3.2 k hk i hi k1 k2)); (· rw [getD_wr hl2]; split; (· rfl); (· rename_i hkp; exact i4 k k1 (by dsimp only at k2; omega)))); (· refine G_stop ⟨(j + 1, l2), ⟨hjl, i3.1, fun k hk i hi k1 k2 => ?_⟩, by (dsimp only; omega), ⟨rfl, rfl, rfl, rfl, trivial⟩, .rfl⟩; by_cases hij : i < j; (· exact i3.2 k hk i hij k1 k2); (· obtain rfl : i = j := (by omega); exact i4 k k1 (by omega))))
  · obtain rfl : j = ls.length := by omega
    exact G_fin ⟨_, rfl, lut, hlt, .rfl⟩
end Go.Proofs.Ytjkpfliaflmppaa.Pc

namespace Go.Proofs.Ytjkpfliaflmppaa.Pc
open Go Go.RowKit Go.Proofs.Ytjkpfliaflmppaa.Vm Go.Proofs.Ytjkpfliaflmppaa.Sf

theorem encode85_c (rb a v i : Nat) (s : Value) (ls : List Nat) (lut : List Int) (M : Mem) (ha : a ≤ 1048576) (hs : Rs s (mkR a ls) M) (hok : OkN ls) (hlt : Lt a ls lut ls.length) (hi : i < ls.length) (h1 : rAt a ls i ≤ v) (h2 : v < rAt a ls (i + 1)) :
    HC Try.prog 85 #[.pointer (some ⟨rb, 0, none⟩), .int .u64 v] (Ra rb s :: Rb rb lut :: Rc rb a :: M) (fun r M' => r = .int .u64 i ∧ Rk M' (Ra rb s :: Rb rb lut :: Rc rb a :: M)) := by
  obtain ⟨b, own, sp, cap, rfl, hc, hm⟩ := hs.at (by rw [mkR_length]; omega)
  have h30 := hok.1
  have hge := rAt_ge a ls i
  have hr := rAt_le (a := a) hok (i + 1) hi
  rw [mkR_length] at hs ⊢
  have hlut := hlt.1
  refine HC_of_W (fn := Try.f85) Try.func85 rfl rfl rfl rfl ?_
  repeat' (first | (refine isO ?_; first | refine oo (Pc rfl) ?_ | refine oo (Pa rfl (by omega) (by omega)) ?_ | (refine ob rfl ?_ ?_ <;> intro hq <;> try (exfalso; omega)) | refine oo (Pi rfl (by omega)) ?_ | refine oo (Pl rfl) ?_ | refine oo (Px rfl rfl) ?_ | refine oo (Pj rfl (by omega) (by omega)) ?_ | refine oo (Pk rfl (by omega) (by omega)) ?_ | refine oo (Pf rfl) ?_ | refine oo (Pv rfl (by omega) (by omega)) ?_ | refine oo (Pn rfl) ?_ | refine oo (Pm rfl) ?_ | refine os rfl rfl ?_ | refine ot rfl (by omega) ?_ | refine O_nil ?_) | refine wo rfl ?_ | refine wc rfl ?_ | refine wg rfl ?_ | refine go rfl ?_ | refine gc rfl ?_ | refine gg rfl ?_)
  refine W_scope (α := Nat) 0 rfl (fun j => [(0, .pointer (some ⟨rb, 0, none⟩)), (1, .int .u64 v), (4, .int .u64 j)]) (fun _ => Ra rb (.slice (some ⟨b, 0, none⟩) ls.length cap) :: Rb rb lut :: Rc rb a :: M) (fun j => a + 1024 ≤ v ∧ j ≤ i + 1) (fun j => i + 2 - j) ?_ ?_
  · by_cases hva : v < a + 1024
    · have hv : rd lut ((v : Int) - (a : Int)) = i := by
        unfold rd
        rw [show ((v : Int) - (a : Int)).toNat = v - a by omega]
        exact hlt.2 (v - a) (by omega) i hi (by omega) (by omega)
      repeat' (first | (refine isO ?_; first | refine oo (Pc rfl) ?_ | refine oo (Pa rfl (by omega) (by omega)) ?_ | (refine ob rfl ?_ ?_ <;> intro hq <;> try (exfalso; omega)) | refine oo (Pi rfl (by omega)) ?_ | refine oo (Pl rfl) ?_ | refine oo (Px rfl rfl) ?_ | refine oo (Pj rfl (by omega) (by omega)) ?_ | refine oo (Pk rfl (by omega) (by omega)) ?_ | refine oo (Pf rfl) ?_ | refine oo (Pv rfl (by omega) (by omega)) ?_ | refine oo (Pn rfl) ?_ | refine oo (Pm rfl) ?_ | refine os rfl rfl ?_ | refine ot rfl (by omega) ?_ | refine O_nil ?_) | refine wo rfl ?_ | refine wc rfl ?_ | refine wg rfl ?_ | refine go rfl ?_ | refine gc rfl ?_ | refine gg rfl ?_)
      refine G_leave (fun _ h => by cases h) ?_
      exact G_fin ⟨_, rfl, congrArg (Value.int .u64) hv, .rfl⟩
    · obtain ⟨i0, k0, k1, k2⟩ := rAt_find a (a + 1023) ls (i + 1) (by omega) (by omega)
      have hv : rd lut 1023 = i0 := hlt.2 1023 (by omega) i0 (by omega) k1 k2
      have hji : i0 ≤ i := by omega
      have hjl : i0 < ls.length := by omega
      have hg0 := rget0 sp (by rw [mkR_length]; exact hjl) (mkR_get a ls i0 hjl)
      have hjr := rAt_le (a := a) hok i0 (by omega)
      have := rAt_mono (a := a) (ls := ls) i0 i hji
      repeat' (first | (refine isO ?_; first | refine oo (Pc rfl) ?_ | refine oo (Pa rfl (by omega) (by omega)) ?_ | (refine ob rfl ?_ ?_ <;> intro hq <;> try (exfalso; omega)) | refine oo (Pi rfl (by omega)) ?_ | refine oo (Pl rfl) ?_ | refine oo (Px rfl rfl) ?_ | refine oo (Pj rfl (by omega) (by omega)) ?_ | refine oo (Pk rfl (by omega) (by omega)) ?_ | refine oo (Pf rfl) ?_ | refine oo (Pv rfl (by omega) (by omega)) ?_ | refine oo (Pn rfl) ?_ | refine oo (Pm rfl) ?_ | refine os rfl rfl ?_ | refine ot rfl (by omega) ?_ | refine O_nil ?_) | refine wo rfl ?_ | refine wc rfl ?_ | refine wg rfl ?_ | refine go rfl ?_ | refine gc rfl ?_ | refine gg rfl ?_)
      refine O_pure (P_loadAt (o := 0) (n := i0 * 2 + 0) Tb.p40 rfl (by omega) (.tail _ (.tail _ (.tail _ hm))) hg0) ⟨_, rfl, rfl⟩ rfl ?_
      repeat' (first | (refine isO ?_; first | refine oo (Pc rfl) ?_ | refine oo (Pa rfl (by omega) (by omega)) ?_ | (refine ob rfl ?_ ?_ <;> intro hq <;> try (exfalso; omega)) | refine oo (Pi rfl (by omega)) ?_ | refine oo (Pl rfl) ?_ | refine oo (Px rfl rfl) ?_ | refine oo (Pj rfl (by omega) (by omega)) ?_ | refine oo (Pk rfl (by omega) (by omega)) ?_ | refine oo (Pf rfl) ?_ | refine oo (Pv rfl (by omega) (by omega)) ?_ | refine oo (Pn rfl) ?_ | refine oo (Pm rfl) ?_ | refine os rfl rfl ?_ | refine ot rfl (by omega) ?_ | refine O_nil ?_) | refine wo rfl ?_ | refine wc rfl ?_ | refine wg rfl ?_ | refine go rfl ?_ | refine gc rfl ?_ | refine gg rfl ?_)
      exact G_jump ⟨i0 + 1, ⟨by omega, by omega⟩, ⟨rfl, rfl, congrArg (fun q => some (Value.int .u64 q)) (by omega), trivial⟩, .rfl⟩
  · rintro j ⟨hva, hj⟩
    try dsimp only
    repeat' (first | (refine isO ?_; first | refine oo (Pc rfl) ?_ | refine oo (Pa rfl (by omega) (by omega)) ?_ | (refine ob rfl ?_ ?_ <;> intro hq <;> try (exfalso; omega)) | refine oo (Pi rfl (by omega)) ?_ | refine oo (Pl rfl) ?_ | refine oo (Px rfl rfl) ?_ | refine oo (Pj rfl (by omega) (by omega)) ?_ | refine oo (Pk rfl (by omega) (by omega)) ?_ | refine oo (Pf rfl) ?_ | refine oo (Pv rfl (by omega) (by omega)) ?_ | refine oo (Pn rfl) ?_ | refine oo (Pm rfl) ?_ | refine os rfl rfl ?_ | refine ot rfl (by omega) ?_ | refine O_nil ?_) | refine wo rfl ?_ | refine wc rfl ?_ | refine wg rfl ?_ | refine go rfl ?_ | refine gc rfl ?_ | refine gg rfl ?_)
    · obtain rfl : j = i + 1 := by omega
      refine G_leave (fun _ h => by cases h) ?_
      exact G_fin ⟨_, rfl, congrArg (Value.int .u64) (by omega), .rfl⟩
    · have hjl : j < ls.length := by omega
      have hg0 := rget0 sp (by rw [mkR_length]; exact hjl) (mkR_get a ls j hjl)
      refine O_pure (P_loadAt (o := 0) (n := j * 2 + 0) Tb.p40 rfl (by omega) (.tail _ (.tail _ (.tail _ hm))) hg0) ⟨_, rfl, rfl⟩ rfl ?_
      have hjr := rAt_le (a := a) hok j (by omega)
      repeat' (first | (refine isO ?_; first | refine oo (Pc rfl) ?_ | refine oo (Pa rfl (by omega) (by omega)) ?_ | (refine ob rfl ?_ ?_ <;> intro hq <;> try (exfalso; omega)) | refine oo (Pi rfl (by omega)) ?_ | refine oo (Pl rfl) ?_ | refine oo (Px rfl rfl) ?_ | refine oo (Pj rfl (by omega) (by omega)) ?_ | refine oo (Pk rfl (by omega) (by omega)) ?_ | refine oo (Pf rfl) ?_ | refine oo (Pv rfl (by omega) (by omega)) ?_ | refine oo (Pn rfl) ?_ | refine oo (Pm rfl) ?_ | refine os rfl rfl ?_ | refine ot rfl (by omega) ?_ | refine O_nil ?_) | refine wo rfl ?_ | refine wc rfl ?_ | refine wg rfl ?_ | refine go rfl ?_ | refine gc rfl ?_ | refine gg rfl ?_)
      · have : j = i + 1 := by
          by_cases hji : j ≤ i
          · have := rAt_mono (a := a) (ls := ls) j i hji; omega
          · omega
        subst this
        refine G_leave (fun _ h => by cases h) ?_
        exact G_fin ⟨_, rfl, congrArg (Value.int .u64) (by omega), .rfl⟩
      · have : j ≠ i + 1 := by rintro rfl; omega
        exact G_jump ⟨j + 1, ⟨by omega, by omega⟩, by omega, ⟨rfl, rfl, rfl, trivial⟩, .rfl⟩
end Go.Proofs.Ytjkpfliaflmppaa.Pc

namespace Go.Proofs.Ytjkpfliaflmppaa.Pc
open Go Go.RowKit Go.Proofs.Ytjkpfliaflmppaa.Vm

theorem ints_take' {k : IntKind} (ls : List Nat) (i : Nat) (h : i < ls.length) {z : Nat} (he : ls.getD i 0 = z) : ints k ((ls.take i).map Nat.cast) ++ [Value.int k (z : Int)].take (1 * 1) = ints k ((ls.take (i + 1)).map Nat.cast) := by
  have h1 : ls.getD i 0 = ls[i] := by simp [h]
  rw [List.take_succ_eq_append_getElem h, ← h1, he]
  simp [ints]
theorem Bs.nil (M : Mem) : Bs (.slice none 0 0) [] M := ⟨by simp, none, 0, rfl, .inl rfl⟩
theorem Bs.into {s : Value} {xs : List Nat} {M M' : Mem} (h : Bs s xs M) (hm : ∀ x ∈ M, x ∈ M') : Bs s xs M' := by
  obtain ⟨h1, ad, cap, h2, h3⟩ := h
  exact ⟨h1, ad, cap, h2, h3.imp id fun ⟨b, o, h4, h5⟩ => ⟨b, o, h4, hm _ h5⟩⟩
/-- What is spoken of. -/
def OkG (ls xs : List Nat) : Prop := OkL ls ∧ whole (linedL 0 [] ls) ∧ OkN xs

open Classical in
theorem given_c (s1 s2 : Value) (ls xs : List Nat) (M : Mem) (h1 : Bs s1 ls M) (h2 : Bs s2 xs M) :
    HC Try.prog 19 #[s1, s2] M (fun v M' => (OkG ls xs ∧ ∃ b c sp sv m, v = .tuple #[.slice (some ⟨b, 0, none⟩) ls.length c, sv, .bool true] ∧ Own sv 2 (rangesV (mkR 0 xs)) m ∧ Rk M' (⟨true, b, 0, codesV (canon (linedL 0 [] ls)) ++ sp⟩ :: (m ++ M))) ∨
      (¬ OkG ls xs ∧ v = .tuple #[.slice none 0 0, .slice none 0 0, .bool false] ∧ Rk M' M)) := by
  obtain ⟨I, hI, hI1, hI2, hI3⟩ := of_info info49
  obtain ⟨a1, c1, e⟩ : ∃ a c, s1 = .slice a ls.length c := ⟨_, _, h1.2.choose_spec.choose_spec.1⟩
  subst e
  obtain ⟨a2, c2, e⟩ : ∃ a c, s2 = .slice a xs.length c := ⟨_, _, h2.2.choose_spec.choose_spec.1⟩
  subst e
  refine HC_of_W (fn := Try.f19) Try.func19 rfl rfl rfl rfl ?_
  repeat' (first | (refine isO ?_; first | refine oo (Pc rfl) ?_ | refine oo (Pa rfl (by omega) (by omega)) ?_ | (refine ob rfl ?_ ?_ <;> intro hq <;> try (exfalso; omega)) | refine oo (Pi rfl (by omega)) ?_ | refine oo (Pl rfl) ?_ | refine oo (Px rfl rfl) ?_ | refine oo (Pj rfl (by omega) (by omega)) ?_ | refine oo (Pk rfl (by omega) (by omega)) ?_ | refine oo (Pf rfl) ?_ | refine oo (Pv rfl (by omega) (by omega)) ?_ | refine oo (Pn rfl) ?_ | refine oo (Pm rfl) ?_ | refine os rfl rfl ?_ | refine ot rfl (by omega) ?_ | refine O_nil ?_) | refine wo rfl ?_ | refine wc rfl ?_ | refine wg rfl ?_ | refine go rfl ?_ | refine gc rfl ?_ | refine gg rfl ?_)
  refine O_call rfl rfl Tb.k12 trivial rfl (lined_c 0 _ _ [] ls M (by omega) (Bs.nil M) h1 (by simp)) ?_
  rintro v M' (⟨hok, sv, m, hown, rfl, hrk⟩ | ⟨hno, rfl, hrk⟩)
  · refine O_weak hrk ?_
    clear hrk
    have hG := lined_good 0 [] ls (by omega) (by simp) hok
    have hLl := linedL_length 0 [] ls
    generalize hL : linedL 0 [] ls = L at *
    rcases hown with ⟨_, h, _⟩ | ⟨b, len, cap, sp, rfl, rfl, hl, _⟩
    · have := hG.two
      have h4 := codesV_length L
      rw [h] at h4
      simp at h4
      omega
    obtain rfl : len = L.length := by rw [codesV_length] at hl; omega
    have hlen : ∀ c ∈ L, 1 ≤ c.len ∧ c.len ≤ 20 := hG.len
    have h60 := hG.most
    repeat' (first | (refine isO ?_; first | refine oo (Pc rfl) ?_ | refine oo (Pa rfl (by omega) (by omega)) ?_ | (refine ob rfl ?_ ?_ <;> intro hq <;> try (exfalso; omega)) | refine oo (Pi rfl (by omega)) ?_ | refine oo (Pl rfl) ?_ | refine oo (Px rfl rfl) ?_ | refine oo (Pj rfl (by omega) (by omega)) ?_ | refine oo (Pk rfl (by omega) (by omega)) ?_ | refine oo (Pf rfl) ?_ | refine oo (Pv rfl (by omega) (by omega)) ?_ | refine oo (Pn rfl) ?_ | refine oo (Pm rfl) ?_ | refine os rfl rfl ?_ | refine ot rfl (by omega) ?_ | refine O_nil ?_) | refine wo rfl ?_ | refine wc rfl ?_ | refine wg rfl ?_ | refine go rfl ?_ | refine gc rfl ?_ | refine gg rfl ?_)
    refine O_callP rfl rfl Tb.k15 ⟨_, rfl, rfl⟩ rfl (whole_c L b cap true sp _ (.head _) hlen h60) ?_
    by_cases hw : whole L
    · rw [show decide (whole L) = true from decide_eq_true hw]
      repeat' (first | (refine isO ?_; first | refine oo (Pc rfl) ?_ | refine oo (Pa rfl (by omega) (by omega)) ?_ | (refine ob rfl ?_ ?_ <;> intro hq <;> try (exfalso; omega)) | refine oo (Pi rfl (by omega)) ?_ | refine oo (Pl rfl) ?_ | refine oo (Px rfl rfl) ?_ | refine oo (Pj rfl (by omega) (by omega)) ?_ | refine oo (Pk rfl (by omega) (by omega)) ?_ | refine oo (Pf rfl) ?_ | refine oo (Pv rfl (by omega) (by omega)) ?_ | refine oo (Pn rfl) ?_ | refine oo (Pm rfl) ?_ | refine os rfl rfl ?_ | refine ot rfl (by omega) ?_ | refine O_nil ?_) | refine wo rfl ?_ | refine wc rfl ?_ | refine wg rfl ?_ | refine go rfl ?_ | refine gc rfl ?_ | refine gg rfl ?_)
      · refine G_fin ⟨_, rfl, .inr ⟨fun h => ?_, rfl, .drop .rfl⟩⟩
        have := h.2.2.1
        omega
      refine W_loop (α := Nat × Value × Mem) (fun x => [(1, .slice a2 xs.length c2), (7, .slice (some ⟨b, 0, none⟩) L.length cap), (9, x.2.1), (10, .int .i64 x.1)])
        (fun x => x.2.2 ++ (⟨true, b, 0, codesV L ++ sp⟩ :: M)) (fun x => x.1 ≤ xs.length ∧ Own x.2.1 1 (ints .u64 ((xs.take x.1).map Nat.cast)) x.2.2 ∧ ∀ j, j < x.1 → xs.getD j 0 ≤ 20) (fun x => xs.length - x.1)
        (0, .slice none 0 0, []) ⟨by omega, .inl ⟨rfl, by simp [ints], rfl⟩, by intro j hj; omega⟩ ⟨rfl, rfl, rfl, rfl, trivial⟩ .rfl ?_
      rintro ⟨i, sv, m⟩ ⟨hi, hown, hall⟩
      dsimp only at hi hown hall ⊢
      repeat' (first | (refine isO ?_; first | refine oo (Pc rfl) ?_ | refine oo (Pa rfl (by omega) (by omega)) ?_ | (refine ob rfl ?_ ?_ <;> intro hq <;> try (exfalso; omega)) | refine oo (Pi rfl (by omega)) ?_ | refine oo (Pl rfl) ?_ | refine oo (Px rfl rfl) ?_ | refine oo (Pj rfl (by omega) (by omega)) ?_ | refine oo (Pk rfl (by omega) (by omega)) ?_ | refine oo (Pf rfl) ?_ | refine oo (Pv rfl (by omega) (by omega)) ?_ | refine oo (Pn rfl) ?_ | refine oo (Pm rfl) ?_ | refine os rfl rfl ?_ | refine ot rfl (by omega) ?_ | refine O_nil ?_) | refine wo rfl ?_ | refine wc rfl ?_ | refine wg rfl ?_ | refine go rfl ?_ | refine gc rfl ?_ | refine gg rfl ?_)
      · have hil : i < xs.length := by omega
        obtain ⟨b', o, cap', e, hm, hg, hlt⟩ := h2.at hil
        cases e
        have hm' : (⟨false, b', o, ints .u8 (xs.map Nat.cast)⟩ : Sg) ∈ m ++ (⟨true, b, 0, codesV L ++ sp⟩ :: M) := List.mem_append_right _ (.tail _ hm)
        obtain ⟨z, hzz⟩ : ∃ z, xs.getD i 0 = z := ⟨_, rfl⟩
        rw [hzz] at hg hlt
        repeat' (first | (refine isO ?_; first | refine oo (Pc rfl) ?_ | refine oo (Pa rfl (by omega) (by omega)) ?_ | (refine ob rfl ?_ ?_ <;> intro hq <;> try (exfalso; omega)) | refine oo (Pi rfl (by omega)) ?_ | refine oo (Pl rfl) ?_ | refine oo (Px rfl rfl) ?_ | refine oo (Pj rfl (by omega) (by omega)) ?_ | refine oo (Pk rfl (by omega) (by omega)) ?_ | refine oo (Pf rfl) ?_ | refine oo (Pv rfl (by omega) (by omega)) ?_ | refine oo (Pn rfl) ?_ | refine oo (Pm rfl) ?_ | refine os rfl rfl ?_ | refine ot rfl (by omega) ?_ | refine O_nil ?_) | refine wo rfl ?_ | refine wc rfl ?_ | refine wg rfl ?_ | refine go rfl ?_ | refine gc rfl ?_ | refine gg rfl ?_)
        refine O_pure (P_loadAt (o := o) (n := i) Tb.p5 rfl (by omega) hm' hg) trivial rfl ?_
        repeat' (first | (refine isO ?_; first | refine oo (Pc rfl) ?_ | refine oo (Pa rfl (by omega) (by omega)) ?_ | (refine ob rfl ?_ ?_ <;> intro hq <;> try (exfalso; omega)) | refine oo (Pi rfl (by omega)) ?_ | refine oo (Pl rfl) ?_ | refine oo (Px rfl rfl) ?_ | refine oo (Pj rfl (by omega) (by omega)) ?_ | refine oo (Pk rfl (by omega) (by omega)) ?_ | refine oo (Pf rfl) ?_ | refine oo (Pv rfl (by omega) (by omega)) ?_ | refine oo (Pn rfl) ?_ | refine oo (Pm rfl) ?_ | refine os rfl rfl ?_ | refine ot rfl (by omega) ?_ | refine O_nil ?_) | refine wo rfl ?_ | refine wc rfl ?_ | refine wg rfl ?_ | refine go rfl ?_ | refine gc rfl ?_ | refine gg rfl ?_)
        · refine G_fin ⟨_, rfl, .inr ⟨fun h => ?_, rfl, .trans (Rk.right m _) (.drop .rfl)⟩⟩
          have := h.2.2.2 i hil
          omega
        refine O_pure (P_loadAt (o := o) (n := i) Tb.p5 rfl (by omega) hm' hg) trivial rfl ?_
        repeat' (first | (refine isO ?_; first | refine oo (Pc rfl) ?_ | refine oo (Pa rfl (by omega) (by omega)) ?_ | (refine ob rfl ?_ ?_ <;> intro hq <;> try (exfalso; omega)) | refine oo (Pi rfl (by omega)) ?_ | refine oo (Pl rfl) ?_ | refine oo (Px rfl rfl) ?_ | refine oo (Pj rfl (by omega) (by omega)) ?_ | refine oo (Pk rfl (by omega) (by omega)) ?_ | refine oo (Pf rfl) ?_ | refine oo (Pv rfl (by omega) (by omega)) ?_ | refine oo (Pn rfl) ?_ | refine oo (Pm rfl) ?_ | refine os rfl rfl ?_ | refine ot rfl (by omega) ?_ | refine O_nil ?_) | refine wo rfl ?_ | refine wc rfl ?_ | refine wg rfl ?_ | refine go rfl ?_ | refine gc rfl ?_ | refine gg rfl ?_)
        refine O_buildSlice rfl (row63_1 _) trivial rfl fun by1 => ?_
        refine O_append (m := m) (M0 := ⟨true, by1, 0, [.int .u64 (z : Int)]⟩ :: ⟨true, b, 0, codesV L ++ sp⟩ :: M) Tb.u63 Tb.u63 hI hI1 (by decide) (by omega) hI3 rfl rfl rfl hown (.perm List.perm_middle.symm) (len := i) (by rw [ints_length, List.length_map, List.length_take]; omega) (.head _) (Nat.le_refl 1)
          (fun v hv => by rw [List.mem_singleton] at hv; subst hv; rfl) (.inl (by omega)) (by rw [hI2]; omega) trivial rfl fun b2 c2 s2 h2 => ?_
        rw [ints_take' xs i hil hzz] at h2 ⊢
        repeat' (first | (refine isO ?_; first | refine oo (Pc rfl) ?_ | refine oo (Pa rfl (by omega) (by omega)) ?_ | (refine ob rfl ?_ ?_ <;> intro hq <;> try (exfalso; omega)) | refine oo (Pi rfl (by omega)) ?_ | refine oo (Pl rfl) ?_ | refine oo (Px rfl rfl) ?_ | refine oo (Pj rfl (by omega) (by omega)) ?_ | refine oo (Pk rfl (by omega) (by omega)) ?_ | refine oo (Pf rfl) ?_ | refine oo (Pv rfl (by omega) (by omega)) ?_ | refine oo (Pn rfl) ?_ | refine oo (Pm rfl) ?_ | refine os rfl rfl ?_ | refine ot rfl (by omega) ?_ | refine O_nil ?_) | refine wo rfl ?_ | refine wc rfl ?_ | refine wg rfl ?_ | refine go rfl ?_ | refine gc rfl ?_ | refine gg rfl ?_)
        refine G_stop ⟨(i + 1, .slice (some ⟨b2, 0, none⟩) (i + 1) c2, [⟨true, b2, 0, ints .u64 ((xs.take (i + 1)).map Nat.cast) ++ s2⟩]), ⟨by omega, .inr ⟨b2, i + 1, c2, s2, rfl, rfl, by rw [ints_length, List.length_map, List.length_take]; omega, h2⟩, ?_⟩, by dsimp only; omega, ⟨rfl, rfl, rfl, rfl, trivial⟩, .cons .head (.drop .rfl)⟩
        intro j hj
        by_cases hji : j = i
        · subst hji; omega
        · exact hall j (by dsimp only at hj; omega)
      · obtain rfl : i = xs.length := by omega
        rw [List.take_length] at hown
        have hokx : OkN xs := ⟨by omega, hall⟩
        have hu : Us sv xs (m ++ (⟨true, b, 0, codesV L ++ sp⟩ :: M)) := (Us.of_own hown).mono fun x hx => List.mem_append_left _ hx
        refine O_call rfl rfl Tb.k34 trivial rfl (mk34_c 0 sv xs _ (by omega) hu hokx) ?_
        rintro _ M' ⟨s3, m3, hown3, rfl, hrk⟩
        refine O_weak (M' := ⟨true, b, 0, codesV L ++ sp⟩ :: (m3 ++ M)) (.trans hrk (.trans (Rk.app m3 (Rk.right m _)) (.perm List.perm_middle))) ?_
        clear hrk hown hu
        repeat' (first | (refine isO ?_; first | refine oo (Pc rfl) ?_ | refine oo (Pa rfl (by omega) (by omega)) ?_ | (refine ob rfl ?_ ?_ <;> intro hq <;> try (exfalso; omega)) | refine oo (Pi rfl (by omega)) ?_ | refine oo (Pl rfl) ?_ | refine oo (Px rfl rfl) ?_ | refine oo (Pj rfl (by omega) (by omega)) ?_ | refine oo (Pk rfl (by omega) (by omega)) ?_ | refine oo (Pf rfl) ?_ | refine oo (Pv rfl (by omega) (by omega)) ?_ | refine oo (Pn rfl) ?_ | refine oo (Pm rfl) ?_ | refine os rfl rfl ?_ | refine ot rfl (by omega) ?_ | refine O_nil ?_) | refine wo rfl ?_ | refine wc rfl ?_ | refine wg rfl ?_ | refine go rfl ?_ | refine gc rfl ?_ | refine gg rfl ?_)
        refine O_call rfl rfl Tb.k17 trivial rfl (canonical_c L hG true b cap sp _) ?_
        rintro _ M' ⟨b3, c3, sp3, rfl, hrk⟩
        refine O_weak hrk ?_
        clear hrk
        repeat' (first | (refine isO ?_; first | refine oo (Pc rfl) ?_ | refine oo (Pa rfl (by omega) (by omega)) ?_ | (refine ob rfl ?_ ?_ <;> intro hq <;> try (exfalso; omega)) | refine oo (Pi rfl (by omega)) ?_ | refine oo (Pl rfl) ?_ | refine oo (Px rfl rfl) ?_ | refine oo (Pj rfl (by omega) (by omega)) ?_ | refine oo (Pk rfl (by omega) (by omega)) ?_ | refine oo (Pf rfl) ?_ | refine oo (Pv rfl (by omega) (by omega)) ?_ | refine oo (Pn rfl) ?_ | refine oo (Pm rfl) ?_ | refine os rfl rfl ?_ | refine ot rfl (by omega) ?_ | refine O_nil ?_) | refine wo rfl ?_ | refine wc rfl ?_ | refine wg rfl ?_ | refine go rfl ?_ | refine gc rfl ?_ | refine gg rfl ?_)
        refine G_fin ⟨_, rfl, .inl ⟨⟨hok, hL ▸ hw, hokx⟩, b3, c3, sp3, s3, m3, ?_, hown3, .cons .head (.drop .rfl)⟩⟩
        rw [← hLl]
    · rw [show decide (whole L) = false from decide_eq_false hw]
      repeat' (first | (refine isO ?_; first | refine oo (Pc rfl) ?_ | refine oo (Pa rfl (by omega) (by omega)) ?_ | (refine ob rfl ?_ ?_ <;> intro hq <;> try (exfalso; omega)) | refine oo (Pi rfl (by omega)) ?_ | refine oo (Pl rfl) ?_ | refine oo (Px rfl rfl) ?_ | refine oo (Pj rfl (by omega) (by omega)) ?_ | refine oo (Pk rfl (by omega) (by omega)) ?_ | refine oo (Pf rfl) ?_ | refine oo (Pv rfl (by omega) (by omega)) ?_ | refine oo (Pn rfl) ?_ | refine oo (Pm rfl) ?_ | refine os rfl rfl ?_ | refine ot rfl (by omega) ?_ | refine O_nil ?_) | refine wo rfl ?_ | refine wc rfl ?_ | refine wg rfl ?_ | refine go rfl ?_ | refine gc rfl ?_ | refine gg rfl ?_)
      exact G_fin ⟨_, rfl, .inr ⟨fun h => hw (hL ▸ h.2.1), rfl, .drop .rfl⟩⟩
  · refine O_weak hrk ?_
    clear hrk
    repeat' (first | (refine isO ?_; first | refine oo (Pc rfl) ?_ | refine oo (Pa rfl (by omega) (by omega)) ?_ | (refine ob rfl ?_ ?_ <;> intro hq <;> try (exfalso; omega)) | refine oo (Pi rfl (by omega)) ?_ | refine oo (Pl rfl) ?_ | refine oo (Px rfl rfl) ?_ | refine oo (Pj rfl (by omega) (by omega)) ?_ | refine oo (Pk rfl (by omega) (by omega)) ?_ | refine oo (Pf rfl) ?_ | refine oo (Pv rfl (by omega) (by omega)) ?_ | refine oo (Pn rfl) ?_ | refine oo (Pm rfl) ?_ | refine os rfl rfl ?_ | refine ot rfl (by omega) ?_ | refine O_nil ?_) | refine wo rfl ?_ | refine wc rfl ?_ | refine wg rfl ?_ | refine go rfl ?_ | refine gc rfl ?_ | refine gg rfl ?_)
    exact G_fin ⟨_, rfl, .inr ⟨fun h => hno h.1, rfl, .rfl⟩⟩
end Go.Proofs.Ytjkpfliaflmppaa.Pc
